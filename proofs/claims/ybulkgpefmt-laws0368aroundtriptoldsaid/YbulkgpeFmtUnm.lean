/-
  DERIVED. fmt.Errorf at the one format of the road; UnmarshalText at the three names.
-/
import Derived.Test.YbulkgpeFmtNames
import Derived.WideLaws
import Derived.Stop.FmtLaws
import Derived.Stop.Texts
import Derived.Laws.Cells
import Derived.Laws.BytesArg
import Derived.Laws.IdiomStrings
namespace Go.Proofs.YbulkgpeFmt
open Go.RowKit Go.Extern.Stop Go.Stop Go.Extern

theorem call10 (args : Array Value) (w : World) : (callFunc 10 args).run Ybaf.prog w = ((FmtStop.errorf #[9, 35] #[28] args).run Ybaf.prog w).andThen fun v w' => .ok (.value v) w' :=
  run_callFunc_extern Ybaf.func10 (by kernel_rfl) (by kernel_rfl) (by kernel_rfl) (by kernel_rfl) args w
theorem fguard (name : String) (w : World) : (FmtStop.guard name).run Ybaf.prog w = .ok () w := by kernel_rfl
theorem fmt0r (w : World) : (FmtDoors.printed ⟨#[117, 110, 107, 110, 111, 119, 110, 32, 109, 111, 100, 101, 32, 37, 113]⟩ 1).run Ybaf.prog w = .ok [(0, 113, false)] w := by kernel_rfl
theorem ptr38 (w : World) : (FmtStop.ptrTo "errors.errorString").run Ybaf.prog w = .ok 38 w := by kernel_rfl
theorem elem38 (w : World) : (elemOf 38).run Ybaf.prog w = .ok 40 w := by kernel_rfl

/-- The shape of a slice of bytes, and its bytes, as fmt's stop reads them. -/
def n30 : String := String.ofList [Char.ofNat 91, Char.ofNat 93, Char.ofNat 117, Char.ofNat 105, Char.ofNat 110, Char.ofNat 116, Char.ofNat 56]
def shape30 : List UInt8 := 13 :: (FmtStop.pack n30.toUTF8.data.toList ++ 6 :: FmtStop.pack "uint8".toUTF8.data.toList)
def valsOf (xs : List Int) : List UInt8 := (xs.map fun x => digits 8 (x % 18446744073709551616).toNat).flatten

theorem value5 (name : String) (x : Int) (w : World) : (FmtStop.value name FmtStop.depth 5 [.int .u8 x]).run Ybaf.prog w = .ok (digits 8 (x % 2 ^ 64).toNat) w := by kernel_rfl

theorem values5 (name : String) (w : World) : ∀ xs : List Int, (List.mapM ((fun c => FmtStop.value name FmtStop.depth 5 [c]) ∘ Value.int IntKind.u8) xs).run Ybaf.prog w = .ok (xs.map fun x => digits 8 (x % 18446744073709551616).toNat) w
  | [] => by simp [List.mapM_nil]
  | x :: xs => by
    have ih := values5 name w xs
    have h := value5 name x w
    simp [List.mapM_cons, h, ih, Result.andThen]

theorem opBytes (name : String) (a : Addr) (cap : Nat) (xs : List Int) (w : World) (hc : ∀ j v, (xs.map (Value.int .u8))[j]? = some v → w.cell? (a.add j) = some v) :
    (FmtStop.operand name true 113 false (.iface 30 (.slice (some a) xs.length cap))).run Ybaf.prog w = .ok (shape30, 1 :: (digits 8 xs.length ++ valsOf xs)) w := by
  have h1 : (typeStr 30).run Ybaf.prog w = .ok n30 w := by kernel_rfl
  have hb : (FmtStop.bare (FmtStop.asked true 113 false) 30).run Ybaf.prog w = .ok true w := by kernel_rfl
  have hs : (FmtStop.scalar 5).run Ybaf.prog w = .ok true w := by kernel_rfl
  have hy : (Extern.Stop.isByte 5).run Ybaf.prog w = .ok true w := by kernel_rfl
  have hw : Ybaf.prog.funcs.any (·.name == FmtStop.writeWord) = true := by kernel_rfl
  have hsh : (FmtStop.shape name (FmtStop.asked true 113 false) FmtStop.depth 5).run Ybaf.prog w = .ok (6 :: FmtStop.pack "uint8".toUTF8.data.toList) w := by kernel_rfl
  have hl := run_loadCells_list (P := Ybaf.prog) w a (xs.map (Value.int .u8)) hc
  rw [List.length_map] at hl
  simp [FmtStop.operand, h1, hb, hs, hy, hsh, hl, values5, shape30, valsOf]
  intro hno
  obtain ⟨i, hi, _, _, he⟩ := Array.any_iff_exists.1 hw
  exact absurd (by simpa using he) (hno i hi)
end Go.Proofs.YbulkgpeFmt
