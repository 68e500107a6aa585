/-
  DERIVED. The walks of zzs0368bindex, indexOutsideQuotes, cutOutsideQuotes.
-/
import Derived.Test.YbulkgpePlain
import Derived.Test.YbulkgpeRows
import Derived.WalkKit
import Derived.WalkSpells
import Derived.Below
import Derived.BigQuiet
namespace Go.Proofs.Ybulkgpe
open Go.RowKit

theorem ret_int {k : IntKind} {a b : Int} (h : a = b) : Ending.returned (.int k a) = .returned (.int k b) := by rw [h]

theorem szl {s : ByteArray} {k : Nat} (h : k < s.size) : k < s.data.toList.length := by simpa using h
theorem eqT {a b : Int} (h : (a == b) = true) : a = b := by simpa using h
theorem eqF {a b : Int} (h : (a == b) = false) : ¬ a = b := by simpa using h

section
variable {sep : Int} {s : ByteArray} {k : Nat} (h : k < s.size) {R : Int}
theorem s0_quote (hv : Hid (scan sep 0 (s.data.toList.drop k) k = R)) (hb : ((s[k].toNat : Int) == 34) = true) : Hid (scan sep 1 (s.data.toList.drop (k + 1)) (k + 1) = R) := by
  rw [← hv.out]; exact (scan0_quote (szl h) (eqT hb)).symm
theorem s0_hit (hv : Hid (scan sep 0 (s.data.toList.drop k) k = R)) (hb : ((s[k].toNat : Int) == 34) = false) (hs : ((s[k].toNat : Int) == sep) = true) : (k : Int) = R := by
  rw [← hv.out]; exact (scan0_hit (szl h) (eqF hb) (eqT hs)).symm
theorem s0_next (hv : Hid (scan sep 0 (s.data.toList.drop k) k = R)) (hb : ((s[k].toNat : Int) == 34) = false) (hs : ((s[k].toNat : Int) == sep) = false) : Hid (scan sep 0 (s.data.toList.drop (k + 1)) (k + 1) = R) := by
  rw [← hv.out]; exact (scan0_next (szl h) (eqF hb) (eqF hs)).symm
theorem s1_slash (hv : Hid (scan sep 1 (s.data.toList.drop k) k = R)) (hb : ((s[k].toNat : Int) == 92) = true) : Hid (scan sep 2 (s.data.toList.drop (k + 1)) (k + 1) = R) := by
  rw [← hv.out]; exact (scan1_slash (szl h) (eqT hb)).symm
theorem s1_slash2 (hv : Hid (scan sep 1 (s.data.toList.drop k) k = R)) (hb : ((s[k].toNat : Int) == 92) = true) : Hid (scan sep 1 (s.data.toList.drop (k + 2)) (k + 2) = R) := by
  rw [← hv.out]; exact (scan1_slash2 (szl h) (eqT hb)).symm
theorem s1_quote (hv : Hid (scan sep 1 (s.data.toList.drop k) k = R)) (hb : ((s[k].toNat : Int) == 92) = false) (hs : ((s[k].toNat : Int) == 34) = true) : Hid (scan sep 0 (s.data.toList.drop (k + 1)) (k + 1) = R) := by
  rw [← hv.out]; exact (scan1_quote (szl h) (eqF hb) (eqT hs)).symm
theorem s1_next (hv : Hid (scan sep 1 (s.data.toList.drop k) k = R)) (hb : ((s[k].toNat : Int) == 92) = false) (hs : ((s[k].toNat : Int) == 34) = false) : Hid (scan sep 1 (s.data.toList.drop (k + 1)) (k + 1) = R) := by
  rw [← hv.out]; exact (scan1_next (szl h) (eqF hb) (eqF hs)).symm
end

theorem s2_next {sep : Int} {s : ByteArray} {k : Nat} (h : k < s.size) {R : Int} (hv : Hid (scan sep 2 (s.data.toList.drop k) k = R)) : Hid (scan sep 1 (s.data.toList.drop (k + 1)) (k + 1) = R) := by
  rw [← hv.out]; exact (scan2_next (szl h)).symm

set_option maxRecDepth 100000 in
set_option maxHeartbeats 1000000 in
theorem bindex_any (s : ByteArray) (sep : Int) (w : World) (hs : s.size ≤ 4096) :
    Calls Yba.prog 7 #[.string s, .int .u8 sep] w fun e w' => e = .returned (.int .i64 (scan sep 0 s.data.toList 0)) ∧ w' = w := by
  go_enter Yba.func7, Yba.ntmps7
  go_wp2
  go_loop [5, 6] (fun st i => ∃ (k n : Nat), k ≤ s.size ∧ i = .int .i64 k ∧ st = .int .i64 n ∧ n ≤ 2 ∧ Hid (scan sep n (s.data.toList.drop k) k = scan sep 0 s.data.toList 0)) (fun _ i => s.size - (intOf i).toNat)
  case atStart => exact ⟨0, 0, Nat.zero_le _, rfl, rfl, by omega, rfl⟩
  case round =>
    obtain ⟨k, n, hk, rfl, rfl, hn, hv⟩ := hrel
    by_cases hlt : k < s.size
    · match n, hn with
      | 0, _ =>
        go_wp2
        · go_round
          case rel => exact ⟨k + 1, 1, by omega, by go_num, by go_num, by omega, s0_quote hlt hv ‹_›⟩
          case measure => simp [intOf]; omega
        · go_ret
          exact ⟨ret_int (s0_hit hlt hv ‹_› ‹_›), rfl⟩
        · go_round
          case rel => exact ⟨k + 1, 0, by omega, by go_num, by go_num, by omega, s0_next hlt hv ‹_› ‹_›⟩
          case measure => simp [intOf]; omega
      | 1, _ =>
        go_wp2
        · go_round
          case rel => exact ⟨k + 1, 2, by omega, by go_num, by go_num, by omega, s1_slash hlt hv ‹_›⟩
          case measure => simp [intOf]; omega
        · go_round
          case rel => exact ⟨k + 1, 0, by omega, by go_num, by go_num, by omega, s1_quote hlt hv ‹_› ‹_›⟩
          case measure => simp [intOf]; omega
        · go_round
          case rel => exact ⟨k + 1, 1, by omega, by go_num, by go_num, by omega, s1_next hlt hv ‹_› ‹_›⟩
          case measure => simp [intOf]; omega
      | 2, _ =>
        go_wp2
        · go_round
          case rel => exact ⟨k + 1, 1, by omega, by go_num, by go_num, by omega, s2_next hlt hv⟩
          case measure => simp [intOf]; omega
    · go_wp2
      go_ret
      exact ⟨ret_int (by rw [← hv.out, scan_end _ _ _ _ _ (by simp; omega)]), rfl⟩

set_option maxRecDepth 100000 in
set_option maxHeartbeats 1000000 in
theorem outside_any (s : ByteArray) (sep : Int) (w : World) (hs : s.size ≤ 4096) :
    Calls Yba.prog 8 #[.string s, .int .u8 sep] w fun e w' => e = .returned (.int .i64 (scan sep 0 s.data.toList 0)) ∧ w' = w := by
  go_enter Yba.func8, Yba.ntmps8
  go_wp2
  go_loop [5, 6] (fun q i => ∃ (k : Nat) (b : Bool), k ≤ s.size + 1 ∧ i = .int .i64 k ∧ q = .bool b ∧ Hid (scan sep (if b then 1 else 0) (s.data.toList.drop k) k = scan sep 0 s.data.toList 0)) (fun _ i => s.size + 1 - (intOf i).toNat)
  case atStart => exact ⟨0, false, Nat.zero_le _, rfl, rfl, rfl⟩
  case round =>
    obtain ⟨k, b, hk, rfl, rfl, hv⟩ := hrel
    by_cases hlt : k < s.size
    · cases b
      · have hv0 : Hid (scan sep 0 (s.data.toList.drop k) k = scan sep 0 s.data.toList 0) := hv
        clear hv
        go_wp2
        · go_round
          case rel => exact ⟨k + 1, true, by omega, by go_num, rfl, s0_quote hlt hv0 ‹_›⟩
          case measure => simp [intOf]; omega
        · go_ret
          exact ⟨ret_int (s0_hit hlt hv0 ‹_› ‹_›), rfl⟩
        · go_round
          case rel => exact ⟨k + 1, false, by omega, by go_num, rfl, s0_next hlt hv0 ‹_› ‹_›⟩
          case measure => simp [intOf]; omega
      · have hv1 : Hid (scan sep 1 (s.data.toList.drop k) k = scan sep 0 s.data.toList 0) := hv
        clear hv
        go_wp2
        · go_round
          case rel => exact ⟨k + 2, true, by omega, by go_num, rfl, s1_slash2 hlt hv1 ‹_›⟩
          case measure => simp [intOf]; omega
        · go_round
          case rel => exact ⟨k + 1, false, by omega, by go_num, rfl, s1_quote hlt hv1 ‹_› ‹_›⟩
          case measure => simp [intOf]; omega
        · go_round
          case rel => exact ⟨k + 1, true, by omega, by go_num, rfl, s1_next hlt hv1 ‹_› ‹_›⟩
          case measure => simp [intOf]; omega
    · go_wp2
      go_ret
      exact ⟨ret_int (by rw [← hv.out, scan_end _ _ _ _ _ (by simp; omega)]), rfl⟩
end Go.Proofs.Ybulkgpe
