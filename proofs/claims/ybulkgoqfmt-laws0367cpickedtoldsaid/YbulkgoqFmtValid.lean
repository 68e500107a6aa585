/-
  DERIVED. zzs0367cvalid: are all strings of a slice "true" or "false"?
-/
import Derived.Test.YbulkgoqFmtFacts
import Derived.WalkSpells
import Derived.Below
import Derived.BigQuiet
import Derived.Deep.QuietTactic
namespace Go.Proofs.YbulkgoqFmt
open Go.RowKit Go.Extern.Stop Go.Stop Go.Extern

def okB (s : ByteArray) : Bool := s.toList == [116, 114, 117, 101] || s.toList == [102, 97, 108, 115, 101]
def validL (ss : List ByteArray) : Bool := ss.all okB

theorem ret_bool {a b : Bool} (h : a = b) : Ending.returned (.bool a) = .returned (.bool b) := by rw [h]

/-- WHAT THE WALK IS TOLD OF A SLICE OF STRINGS: it is empty, or its cells hold 'ss'. -/
def Strs (w : World) (a : Option Addr) (ss : List ByteArray) : Prop :=
  ss = [] ∨ ∃ b off, a = some ⟨b, off, none⟩ ∧ b < w.heap.size ∧ ∀ i, i < ss.length → w.cell? ⟨b, off + i, none⟩ = some (.string (ss.getD i ByteArray.empty))

theorem Strs.below {w w' : World} {a : Option Addr} {ss : List ByteArray} (h : Strs w a ss) (hb : Below w.heap.size w w') : Strs w' a ss := by
  rcases h with h | ⟨b, off, ha, hlt, hc⟩
  · exact Or.inl h
  · exact Or.inr ⟨b, off, ha, Nat.lt_of_lt_of_le hlt hb.size, fun i hi => by rw [hb.cell (p := ⟨b, off + i, none⟩) hlt]; exact hc i hi⟩

theorem all_take_succ (ss : List ByteArray) (k : Nat) (h : k < ss.length) : validL (ss.take (k + 1)) = (validL (ss.take k) && okB (ss.getD k ByteArray.empty)) := by
  unfold validL
  rw [List.take_succ_eq_append_getElem h, List.all_append]
  simp [List.getD, h]

theorem all_of_not (ss : List ByteArray) (k : Nat) (h : k < ss.length) (hn : okB (ss.getD k ByteArray.empty) = false) : validL ss = false := by
  unfold validL
  rw [List.all_eq_false]
  exact ⟨ss[k], List.getElem_mem h, by simpa [List.getD, h] using hn⟩

theorem Strs.at {w : World} {a : Option Addr} {ss : List ByteArray} (h : Strs w a ss) {k : Nat} (hk : k < ss.length) :
    ∃ b off, a = some ⟨b, off, none⟩ ∧ b < w.heap.size ∧ ∀ i, i < ss.length → w.cell? ⟨b, off + i, none⟩ = some (.string (ss.getD i ByteArray.empty)) := by
  rcases h with rfl | h
  · simp at hk
  · exact h

set_option maxHeartbeats 400000 in
theorem valid_any (a : Option Addr) (cap : Nat) (ss : List ByteArray) (w : World) (hs : Strs w a ss) (hm : ss.length ≤ 1024) :
    Calls Ybaf.prog 40 #[.slice a ss.length cap] w fun e w' => e = .returned (.bool (validL ss)) ∧ w' = w := by
  have HS : Hid (Strs w a ss) := hs
  clear hs
  go_enter Ybaf.func40, Ybaf.ntmps40
  go_wp2
  go_loop [3] (fun i => ∃ k : Nat, k ≤ ss.length ∧ i = .int .i64 k ∧ Hid (validL (ss.take k) = true)) (fun i => ss.length - (intOf i).toNat)
  case atStart => exact ⟨0, Nat.zero_le _, rfl, rfl⟩
  case round =>
    obtain ⟨k, hk, rfl, hv⟩ := hrel
    by_cases hlt : k < ss.length
    · obtain ⟨b, off, rfl, hb, hc⟩ := HS.out.at hlt
      have g := hc k hlt
      have hsucc := all_take_succ ss k hlt
      have hnot := all_of_not ss k hlt
      have Hs : Hid (validL (ss.take (k + 1)) = (validL (ss.take k) && okB (ss.getD k ByteArray.empty))) := hsucc
      have Hn : Hid (okB (ss.getD k ByteArray.empty) = false → validL ss = false) := hnot
      clear hsucc hnot hc
      generalize ss.getD k ByteArray.empty = s at g Hs Hn
      go_wp2
      · go_round
        case rel => exact ⟨k + 1, by omega, by go_num, by show validL (ss.take (k + 1)) = true; rw [Hs.out, hv.out]; simp [okB, *]⟩
        case measure => simp [intOf]; omega
      · go_ret
        exact ⟨ret_bool (Hn.out (by simp_all [okB])).symm, rfl⟩
      · go_round
        case rel => exact ⟨k + 1, by omega, by go_num, by show validL (ss.take (k + 1)) = true; rw [Hs.out, hv.out]; simp_all [okB]⟩
        case measure => simp [intOf]; omega
    · go_wp2
      go_ret
      have e : ss.take k = ss := List.take_of_length_le (by omega)
      have hv' : validL (ss.take k) = true := hv
      rw [e] at hv'
      exact ⟨ret_bool hv'.symm, rfl⟩
end Go.Proofs.YbulkgoqFmt
