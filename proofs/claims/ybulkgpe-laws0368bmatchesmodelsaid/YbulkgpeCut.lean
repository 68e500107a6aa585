/-
  DERIVED. The walk of cutOutsideQuotes.
-/
import Derived.Test.YbulkgpeWalk
namespace Go.Proofs.Ybulkgpe
open Go.RowKit

set_option maxRecDepth 100000 in
set_option maxHeartbeats 1000000 in
theorem cut_none (s : ByteArray) (sep : Int) (w : World) (hs : s.size ≤ 4096) (h : scan sep 0 s.data.toList 0 = -1) :
    Calls Yba.prog 6 #[.string s, .int .u8 sep] w fun e w' => e = .returned (.tuple #[.string s, .string ⟨#[]⟩]) ∧ w' = w := by
  have H : Hid (scan sep 0 s.data.toList 0 = -1) := h
  clear h
  go_enter Yba.func6, Yba.ntmps6
  go_wp2_with fail
  refine (outside_any s sep _ hs).mono ?_
  rintro e w' ⟨rfl, rfl⟩
  rw [H.out]
  go_wp2_with fail
  go_ret2
  exact ⟨rfl, rfl⟩

set_option maxRecDepth 100000 in
set_option maxHeartbeats 1000000 in
theorem cut_some (s : ByteArray) (sep : Int) (r : Nat) (w : World) (hs : s.size ≤ 4096) (h : scan sep 0 s.data.toList 0 = (r : Int)) (hr : r < s.size) :
    Calls Yba.prog 6 #[.string s, .int .u8 sep] w fun e w' => e = .returned (.tuple #[.string (s.extract 0 r), .string (s.extract (r + 1) s.size)]) ∧ ∃ n, w' = w.drewN n := by
  have H : Hid (scan sep 0 s.data.toList 0 = (r : Int)) := h
  clear h
  go_enter Yba.func6, Yba.ntmps6
  go_wp2_with fail
  refine (outside_any s sep _ hs).mono ?_
  rintro e w' ⟨rfl, rfl⟩
  rw [H.out]
  go_wp2_with fail
  go_quiet (fail)
  go_wp2
  go_ret2
  exact ⟨rfl, _, rfl⟩
end Go.Proofs.Ybulkgpe
