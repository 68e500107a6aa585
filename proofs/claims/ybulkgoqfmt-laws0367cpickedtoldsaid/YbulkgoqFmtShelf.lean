/-
  DERIVED: THE SHELF's CONTRACTS AT THIS DUMP, IN PLAIN WORDS (tools/lay-plain.mjs out of 'YbulkgoqFmtShelf0.lean', which tools/lay-shelf.mjs wrote): THE SAME DECLARATIONS UNDER THE SAME NAMES: 'import', 'namespace', 'open', 'def', 'theorem' AND NOTHING ELSE: no command of the shelf's: FOR A HAND-IN. Each laying: the table of numbers ('.._ren') and one theorem, a field a fact of the dump's own or the kernel's comparison; each contract: ONE APPLICATION.
-/
import Derived.Shelf.Strings.OnBuilder
import Derived.Test.YbulkgoqFmtProg
namespace Go.Proofs
open Go.Shelf
def Ybaf.lays156_ren : Go.Shelf.Ren := ⟨fun | 156 => 60 | 165 => 35 | 166 => 36 | 169 => 33 | 240 => 45 | 241 => 46 | 276 => 55 | 277 => 56 | n => n, fun | 31 => 42 | 9 => 9 | 3 => 3 | 4 => 4 | 0 => 0 | 20 => 20 | 72 => 76 | 76 => 79 | 70 => 74 | 37 => 27 | 75 => 34 | 127 => 91 | 164 => 99 | 5 => 5 | 80 => 39 | n => n, fun | n => n⟩
theorem Ybaf.lays156 : Go.Proofs.Lays.n156 Ybaf.prog Ybaf.lays156_ren := {
  mixed := by kernel_rfl
  f156 := Ybaf.func60.trans (congrArg some (by kernel_rfl))
  f165 := Ybaf.func35.trans (congrArg some (by kernel_rfl))
  f166 := Ybaf.func36.trans (congrArg some (by kernel_rfl))
  f169 := Ybaf.func33.trans (congrArg some (by kernel_rfl))
  f240 := Ybaf.func45.trans (congrArg some (by kernel_rfl))
  f241 := Ybaf.func46.trans (congrArg some (by kernel_rfl))
  f276 := Ybaf.func55.trans (congrArg some (by kernel_rfl))
  f277 := Ybaf.func56.trans (congrArg some (by kernel_rfl))
  t0 := Ybaf.underlying0
  a0 := Ybaf.isAgg0
  z0 := Ybaf.sizeOf0
  v0 := Ybaf.zeroValue0
  t3 := Ybaf.underlying3
  a3 := Ybaf.isAgg3
  z3 := Ybaf.sizeOf3
  v3 := Ybaf.zeroValue3
  t4 := Ybaf.underlying4
  a4 := Ybaf.isAgg4
  z4 := Ybaf.sizeOf4
  v4 := Ybaf.zeroValue4
  t9 := Ybaf.underlying9
  a9 := Ybaf.isAgg9
  z9 := Ybaf.sizeOf9
  v9 := Ybaf.zeroValue9
  t20 := Ybaf.underlying20
  a20 := Ybaf.isAgg20
  z20 := Ybaf.sizeOf20
  v20 := Ybaf.zeroValue20
  t31 := Ybaf.underlying42
  a31 := Ybaf.isAgg42
  z31 := Ybaf.sizeOf42
  v31 := Ybaf.zeroValue42
  t37 := Ybaf.underlying27
  a37 := Ybaf.isAgg27
  z37 := Ybaf.sizeOf27
  v37 := Ybaf.zeroValue27
  t70 := Ybaf.underlying74
  a70 := Ybaf.isAgg74
  z70 := Ybaf.sizeOf74
  v70 := Ybaf.zeroValue74
  t72 := Ybaf.underlying76
  a72 := Ybaf.isAgg76
  z72 := Ybaf.sizeOf76
  v72 := Ybaf.zeroValue76
  t75 := Ybaf.underlying34
  a75 := Ybaf.isAgg34
  z75 := Ybaf.sizeOf34
  v75 := Ybaf.zeroValue34
  t76 := Ybaf.underlying79
  a76 := Ybaf.isAgg79
  z76 := Ybaf.sizeOf79
  v76 := Ybaf.zeroValue79
  t127 := Ybaf.underlying91
  a127 := Ybaf.isAgg91
  z127 := Ybaf.sizeOf91
  v127 := Ybaf.zeroValue91
  t164 := Ybaf.underlying99
  a164 := Ybaf.isAgg99
  z164 := Ybaf.sizeOf99
  v164 := Ybaf.zeroValue99 }
theorem Ybaf.Builder_Extra_156 : Builder.Extra Ybaf.prog Ybaf.lays156_ren := {
  sizeBuilder := by kernel_rfl
  liesBuilder := by kernel_rfl
  t5 := Ybaf.underlying5
  a5 := Ybaf.isAgg5
  z5 := Ybaf.sizeOf5
  v5 := Ybaf.zeroValue5
  infoByte := by kernel_rfl
  cellsByte := by kernel_rfl
  sizeByte := by kernel_rfl
  neB5 := by decide }
open Go.RowKit in
/-- strings.Join: "Join concatenates the elements of its first argument to create a single string. The separator string sep is placed between elements in the resulting string.": HOWEVER MANY ELEMENTS. Below the heap's end the world is as it was. (LAID: no walk: one application.) -/
theorem Ybaf.strings_Join (bk o c : Nat) (xs : List ByteArray) (sep : ByteArray) (w : World) (hcells : ∀ (j : Nat) x, xs[j]? = some x → w.cell? ⟨bk, o + j, none⟩ = some (.string x)) (hbk : bk < w.heap.size) (hN : xs.length ≤ 140737488355328) (hcap : xs.length ≤ c) (hlen : (Lib.join (xs.map (·.data.toList)) sep.data.toList).length ≤ 140737488355328) :
    Calls Ybaf.prog 60 #[.slice (some ⟨bk, o, none⟩) xs.length c, .string sep] w fun e w' => e = .returned (.string ⟨(Lib.join (xs.map (·.data.toList)) sep.data.toList).toArray⟩) ∧ Below w.heap.size w w' := Any.strings_Join Ybaf.lays156 Ybaf.Builder_Extra_156 bk o c xs sep w hcells hbk hN hcap hlen
end Go.Proofs
