/-
  DERIVED. The walk of LawS0368BMatchesModel.
-/
import Derived.Test.YbulkgpeCut
import Derived.RowKit3
namespace Go.Proofs.Ybulkgpe
open Go.RowKit

theorem mret_bool {a b : Bool} (h : a = b) : Ending.returned (.bool a) = .returned (.bool b) := by rw [h]

theorem mgrown_drewN (w : World) : ∀ n, Grown w (w.drewN n)
  | 0 => Grown.refl _
  | n + 1 => (mgrown_drewN w n).drew

theorem sep_any (x : Int) (w : World) (h0 : 0 ≤ x) (h1 : x ≤ 255) : Calls Yba.prog 5 #[.int .u8 x] w fun e w' => (∃ c, e = .returned (.int .u8 c)) ∧ w' = w := by
  go_enter Yba.func5, Yba.ntmps5
  go_wp2
  all_goals
    go_ret
    exact ⟨⟨_, rfl⟩, rfl⟩

set_option maxRecDepth 100000 in
set_option maxHeartbeats 1000000 in
theorem match_any (s : ByteArray) (x : Int) (w : World) (h0 : 0 ≤ x) (h1 : x ≤ 255) :
    Calls Yba.prog 3 #[.string s, .int .u8 x] w fun e w' => e = .returned (.bool true) ∧ Grown w w' := by
  by_cases hs : s.size ≤ 4096
  · go_enter Yba.func3, Yba.ntmps3
    go_wp2_with fail
    refine (sep_any x _ h0 h1).mono ?_
    rintro e w1 ⟨⟨sep, rfl⟩, rfl⟩
    rcases scan_range sep s.data.toList with h | ⟨r, h, hr⟩
    · have H : Hid (scan sep 0 s.data.toList 0 = -1) := h
      clear h
      go_wp2_with fail
      refine (cut_none s sep _ hs H.out).mono ?_
      rintro e w2 ⟨rfl, rfl⟩
      go_wp2_with fail
      refine (bindex_any s sep _ hs).mono ?_
      rintro e w3 ⟨rfl, rfl⟩
      rw [H.out]
      go_wp2
      go_ret
      exact ⟨mret_bool (by simp), Grown.refl _⟩
    · have H : Hid (scan sep 0 s.data.toList 0 = (r : Int)) := h
      clear h
      have hr' : r < s.size := by simpa using hr
      clear hr
      go_wp2_with fail
      refine (cut_some s sep r _ hs H.out hr').mono ?_
      rintro e w2 ⟨rfl, nq, rfl⟩
      go_wp2_with fail
      refine (bindex_any s sep _ hs).mono ?_
      rintro e w3 ⟨rfl, rfl⟩
      rw [H.out]
      go_wp2
      go_ret
      exact ⟨mret_bool (by simp), mgrown_drewN _ nq⟩
  · go_enter Yba.func3, Yba.ntmps3
    go_wp2_with fail
    go_ret
    exact ⟨rfl, Grown.refl _⟩
end Go.Proofs.Ybulkgpe
