/-
  DERIVED. The walk of LawS0368BReassemble.
-/
import Derived.Test.YbulkgpeCut
import Derived.RowKit3
import Derived.Laws.BytesArg
namespace Go.Proofs.Ybulkgpe
open Go.RowKit

theorem ret_bool {a b : Bool} (h : a = b) : Ending.returned (.bool a) = .returned (.bool b) := by rw [h]

theorem grown_drewN (w : World) : ∀ n, Grown w (w.drewN n)
  | 0 => Grown.refl _
  | n + 1 => (grown_drewN w n).drew

theorem ext_data (s : ByteArray) (a b : Nat) : (s.extract a b).data.toList = (s.data.toList.drop a).take (b - a) := by
  simp

theorem ext_ne (s : ByteArray) (r : Nat) (hr : r < s.size) : ((s.extract 0 r).toList == s.toList) = false := by
  rw [beq_eq_false_iff_ne]
  intro h
  rw [ByteArray.toList_eq, ByteArray.toList_eq, ext_data] at h
  have := congrArg List.length h
  simp at this
  omega

theorem conv1 (w : World) (n : Nat) (sep : Int) : (convert 27 9 (.slice (some ⟨w.heap.size, 0, none⟩) 1 1)).run Yba.prog ((w.drewN n).alloc (.cells #[.int .u8 sep] 5)) = .ok (.string (strOfNums [sep])) ((w.drewN n).alloc (.cells #[.int .u8 sep] 5)) := by
  refine run_convert_bytes_arg (P := Yba.prog) _ 27 5 Yba.underlying27 Yba.underlying5 w.heap.size 0 1 1 [sep] rfl (fun i hi => ?_) 9 Yba.underlying9
  obtain rfl : i = 0 := by omega
  rw [World.cell?_alloc_at _ _ _ _ (by rfl)]
  rfl

theorem joined (s : ByteArray) (sep : Int) (r : Nat) (h : scan sep 0 s.data.toList 0 = (r : Int)) : ((s.extract 0 r ++ strOfNums [sep] ++ s.extract (r + 1) s.size).toList == s.toList) = true := by
  obtain ⟨hr, hs, hl⟩ := scan_split h
  rw [beq_iff_eq, ByteArray.toList_eq, ByteArray.toList_eq]
  have e1 : (s.extract 0 r ++ strOfNums [sep] ++ s.extract (r + 1) s.size).data.toList = (s.extract 0 r).data.toList ++ (strOfNums [sep]).data.toList ++ (s.extract (r + 1) s.size).data.toList := by
    rw [ByteArray.data_append, ByteArray.data_append, Array.toList_append, Array.toList_append]
  have e2 : (s.data.toList.drop (r + 1)).take (s.size - (r + 1)) = s.data.toList.drop (r + 1) := List.take_of_length_le (by simp)
  have e3 : (strOfNums [sep]).data.toList = [s.data.toList[r]] := by
    rw [← hs, strOfNums_data]
    simp
  rw [e1, ext_data, ext_data, e2, e3, Nat.sub_zero, List.drop_zero, List.append_assoc]
  exact hl.symm

set_option maxRecDepth 100000 in
set_option maxHeartbeats 1000000 in
theorem reasm_some (s : ByteArray) (sep : Int) (r : Nat) (w : World) (hs : s.size ≤ 4096) (h : scan sep 0 s.data.toList 0 = (r : Int)) (hr : r < s.size) :
    Calls Yba.prog 4 #[.string s, .int .u8 sep] w fun e w' => e = .returned (.bool true) ∧ Grown w w' := by
  have H : Hid (scan sep 0 s.data.toList 0 = (r : Int)) := h
  clear h
  go_enter Yba.func4, Yba.ntmps4
  go_wp2_with fail
  refine (cut_some s sep r _ hs H.out hr).mono ?_
  rintro e w1 ⟨rfl, nq, rfl⟩
  have hne : ((s.extract 0 r).toList == s.toList) = false := ext_ne s r hr
  have hcv := conv1 w nq sep
  have hz : (strOfNums [sep]).size = 1 := rfl
  have hn1 : ¬ 9223372036854775807 < min r s.size + (strOfNums [sep]).size := by rw [hz]; omega
  have hn2 : ¬ 9223372036854775807 < min r s.size + (strOfNums [sep]).size + (s.size - (r + 1)) := by rw [hz]; omega
  clear hz
  have hj := joined s sep r H.out
  have hj' : (!(s.extract 0 r ++ strOfNums [sep] ++ s.extract (r + 1) s.size).toList == s.toList) = false := by rw [hj]; rfl
  clear hj
  go_wp2_with fail
  refine (bindex_any s sep _ hs).mono ?_
  rintro e w2 ⟨rfl, rfl⟩
  rw [H.out]
  have hmin : min r s.size = r := by omega
  go_wp2
  go_ret
  refine ⟨ret_bool (by simp), ?_⟩
  exact (grown_drewN w nq).alloc _ _

set_option maxRecDepth 100000 in
set_option maxHeartbeats 1000000 in
theorem reasm_none (s : ByteArray) (sep : Int) (w : World) (hs : s.size ≤ 4096) (h : scan sep 0 s.data.toList 0 = -1) :
    Calls Yba.prog 4 #[.string s, .int .u8 sep] w fun e w' => e = .returned (.bool true) ∧ Grown w w' := by
  have H : Hid (scan sep 0 s.data.toList 0 = -1) := h
  clear h
  go_enter Yba.func4, Yba.ntmps4
  go_wp2_with fail
  refine (cut_none s sep _ hs H.out).mono ?_
  rintro e w1 ⟨rfl, rfl⟩
  go_wp2_with fail
  refine (bindex_any s sep _ hs).mono ?_
  rintro e w2 ⟨rfl, rfl⟩
  rw [H.out]
  go_wp2
  go_ret
  exact ⟨rfl, Grown.refl _⟩

theorem reasm_long (s : ByteArray) (sep : Int) (w : World) (hs : 4096 < s.size) :
    Calls Yba.prog 4 #[.string s, .int .u8 sep] w fun e w' => e = .returned (.bool true) ∧ Grown w w' := by
  go_enter Yba.func4, Yba.ntmps4
  go_wp2_with fail
  go_ret
  exact ⟨rfl, Grown.refl _⟩

theorem reasm_any (s : ByteArray) (sep : Int) (w : World) :
    Calls Yba.prog 4 #[.string s, .int .u8 sep] w fun e w' => e = .returned (.bool true) ∧ Grown w w' := by
  by_cases hs : s.size ≤ 4096
  · rcases scan_range sep s.data.toList with h | ⟨r, h, hr⟩
    · exact reasm_none s sep w hs h
    · exact reasm_some s sep r w hs h (by simpa using hr)
  · exact reasm_long s sep w (by omega)
end Go.Proofs.Ybulkgpe
