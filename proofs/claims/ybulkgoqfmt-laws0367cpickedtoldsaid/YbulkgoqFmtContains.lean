/-
  DERIVED. slices.Index, slices.Contains at the slice {"true", "false"}.
-/
import Derived.Test.YbulkgoqFmtValid
namespace Go.Proofs.YbulkgoqFmt
open Go.RowKit Go.Extern.Stop Go.Stop Go.Extern

def idx2 (v : ByteArray) : Int := if v.toList = [116, 114, 117, 101] then 0 else if v.toList = [102, 97, 108, 115, 101] then 1 else -1
theorem ret_int {k : IntKind} {a b : Int} (h : a = b) : Ending.returned (.int k a) = .returned (.int k b) := by rw [h]

set_option maxHeartbeats 400000 in
theorem index2 (v : ByteArray) (b : Nat) (w : World)
    (h0 : w.cell? ⟨b, 0, none⟩ = some (.string ⟨#[116, 114, 117, 101]⟩)) (h1 : w.cell? ⟨b, 1, none⟩ = some (.string ⟨#[102, 97, 108, 115, 101]⟩)) :
    Calls Ybaf.prog 67 #[.slice (some ⟨b, 0, none⟩) 2 2, .string v] w fun e w' => e = .returned (.int .i64 (idx2 v)) ∧ w' = w := by
  go_enter Ybaf.func67, Ybaf.ntmps67
  go_wp2
  go_loop [8] (fun i => i = .int .i64 0 ∨ (i = .int .i64 1 ∧ ¬ v.toList = [116, 114, 117, 101]) ∨ (i = .int .i64 2 ∧ ¬ v.toList = [116, 114, 117, 101] ∧ ¬ v.toList = [102, 97, 108, 115, 101])) (fun i => 2 - (intOf i).toNat)
  case atStart => exact Or.inl rfl
  case round =>
    rcases hrel with rfl | ⟨rfl, hn⟩ | ⟨rfl, hn, hn'⟩
    · go_wp2
      · go_ret
        exact ⟨ret_int (by simp_all [idx2]), rfl⟩
      · go_round
        case rel => exact Or.inr (Or.inl ⟨rfl, by simp_all⟩)
        case measure => simp [intOf]
    · go_wp2
      · go_ret
        exact ⟨ret_int (by simp_all [idx2]), rfl⟩
      · go_round
        case rel => exact Or.inr (Or.inr ⟨rfl, hn, by simp_all⟩)
        case measure => simp [intOf]
    · go_wp2
      go_ret
      exact ⟨ret_int (by simp [idx2, hn, hn']), rfl⟩

theorem idx2_ok (v : ByteArray) : decide (0 ≤ idx2 v) = okB v := by
  unfold idx2 okB
  by_cases h : v.toList = [116, 114, 117, 101]
  · simp [h]
  · by_cases h' : v.toList = [102, 97, 108, 115, 101] <;> simp [h, h']

theorem contains2 (v : ByteArray) (b : Nat) (w : World)
    (h0 : w.cell? ⟨b, 0, none⟩ = some (.string ⟨#[116, 114, 117, 101]⟩)) (h1 : w.cell? ⟨b, 1, none⟩ = some (.string ⟨#[102, 97, 108, 115, 101]⟩)) :
    Calls Ybaf.prog 59 #[.slice (some ⟨b, 0, none⟩) 2 2, .string v] w fun e w' => e = .returned (.bool (okB v)) ∧ w' = w := by
  go_enter Ybaf.func59, Ybaf.ntmps59
  go_wp2_with fail
  refine (index2 v b _ h0 h1).mono ?_
  rintro e w' ⟨rfl, rfl⟩
  have HI : Hid (decide (0 ≤ idx2 v) = okB v) := idx2_ok v
  generalize idx2 v = i at *
  go_wp2
  go_ret
  exact ⟨ret_bool HI.out, rfl⟩
end Go.Proofs.YbulkgoqFmt
