/-
  DERIVED. Slices of bytes as the walks want them; bytes.Equal, binary.BigEndian.Uint16.
-/
import Derived.Test.YbulkgpsFmtPlain
import Derived.Test.YbulkgpsFmtRows
import Derived.WalkSpells
import Derived.Below
import Derived.BigQuiet
import Derived.Deep.QuietTactic
import Derived.Laws.BytesArg
import Derived.Lib.EndianBits
import Derived.WalkSmall
namespace Go.Proofs.YbulkgpsFmt
open Go.RowKit Go.Extern.Stop Go.Stop Go.Extern

theorem ret_bool {a b : Bool} (h : a = b) : Ending.returned (.bool a) = .returned (.bool b) := by rw [h]
theorem ret_int {k : IntKind} {a b : Int} (h : a = b) : Ending.returned (.int k a) = .returned (.int k b) := by rw [h]

/-- A slice of bytes that reads as 'bs'. -/
def Byts (w : World) (v : Value) (bs : List Int) : Prop :=
  ∃ sa c, v = .slice sa bs.length c ∧ bs.length ≤ c ∧ (bs = [] ∨ ∃ b o, sa = some ⟨b, o, none⟩ ∧ b < w.heap.size ∧ ∀ i, i < bs.length → w.cell? ⟨b, o + i, none⟩ = some (.int .u8 (bs.getD i 0)))

theorem Byts.below {w w' : World} {v : Value} {bs : List Int} (h : Byts w v bs) (hb : Below w.heap.size w w') : Byts w' v bs := by
  obtain ⟨sa, c, hv, hc, h | ⟨b, o, ha, hlt, hcell⟩⟩ := h
  · exact ⟨sa, c, hv, hc, Or.inl h⟩
  · exact ⟨sa, c, hv, hc, Or.inr ⟨b, o, ha, Nat.lt_of_lt_of_le hlt hb.size, fun i hi => by rw [hb.cell (p := ⟨b, o + i, none⟩) hlt]; exact hcell i hi⟩⟩

theorem Byts.cells {w : World} {v : Value} {bs : List Int} (h : Byts w v bs) (h0 : 0 < bs.length) :
    ∃ b o c, v = .slice (some ⟨b, o, none⟩) bs.length c ∧ bs.length ≤ c ∧ b < w.heap.size ∧ ∀ i, i < bs.length → w.cell? ⟨b, o + i, none⟩ = some (.int .u8 (bs.getD i 0)) := by
  obtain ⟨sa, c, hv, hc, h | ⟨b, o, ha, hlt, hcell⟩⟩ := h
  · subst h; simp at h0
  · subst ha; exact ⟨b, o, c, hv, hc, hlt, hcell⟩

theorem conv_zero (w : World) (sa : Option Addr) (c : Nat) : (convert 22 9 (.slice sa 0 c)).run Ybaf.prog w = .ok (.string (strOfNums [])) w := by
  rw [run_convert_bytes_string w 22 9 5 sa 0 c Ybaf.underlying22 Ybaf.underlying5 Ybaf.underlying9]
  cases sa with
  | none => simp [Conv.bytesToString]; rfl
  | some a =>
    have hl := run_loadCells_list (P := Ybaf.prog) w a [] (fun j v hj => by simp at hj)
    rw [run_bytesToString w a 0 c [] (by simpa using hl)]
    rfl

theorem Byts.conv {w : World} {v : Value} {bs : List Int} (h : Byts w v bs) : (convert 22 9 v).run Ybaf.prog w = .ok (.string (strOfNums bs)) w := by
  obtain ⟨sa, c, rfl, hc, rfl | ⟨b, o, rfl, hlt, hcell⟩⟩ := h
  · exact conv_zero w sa c
  · exact run_convert_bytes_arg (P := Ybaf.prog) w 22 5 Ybaf.underlying22 Ybaf.underlying5 b o bs.length c bs rfl hcell 9 Ybaf.underlying9

theorem equal_same (v1 v2 : Value) (bs : List Int) (w : World) (h1 : Byts w v1 bs) (h2 : Byts w v2 bs) :
    Calls Ybaf.prog 7 #[v1, v2] w fun e w' => e = .returned (.bool true) ∧ w' = w := by
  have k1 := h1.conv
  have k2 := h2.conv
  clear h1 h2
  go_enter Ybaf.func7, Ybaf.ntmps7
  go_wp2
  go_ret
  exact ⟨rfl, rfl⟩

theorem u16_any (b off len cap : Nat) (z0 z1 : Int) (w : World) (hl : 2 ≤ len)
    (c0 : w.cell? ⟨b, off, none⟩ = some (.int .u8 z0)) (c1 : w.cell? ⟨b, off + 1, none⟩ = some (.int .u8 z1))
    (r0 : 0 ≤ z0 ∧ z0 ≤ 255) (r1 : 0 ≤ z1 ∧ z1 ≤ 255) :
    Calls Ybaf.prog 9 #[.agg #[], .slice (some ⟨b, off, none⟩) len cap] w fun e w' => e = .returned (.int .u16 (z0 * 256 + z1)) ∧ Below w.heap.size w w' := by
  have hb : b < w.heap.size := World.block_lt_of_cell? _ _ c0
  have hp : (1 : Int) < (len : Int) := by omega
  have hp0 : 0 < len := by omega
  go_enter Ybaf.func9, Ybaf.ntmps9
  go_wp2_with fail
  go_quiet (fail)
  go_wp2
  go_ret
  refine ⟨ret_int ?_, below_drewN ((Below.refl _ _).alloc (Nat.le_refl _) _) _⟩
  have e : bits BinOp.or IntKind.u16 z1 (z0 * 256) = z1 + z0 * 256 := u16_or8 _ _ (by omega) (by omega) (by omega) (by omega) (by omega)
  exact e.trans (by omega)
end Go.Proofs.YbulkgpsFmt
