/-
  DERIVED. valuesIn, at allowed = {"true", "false"}, def = "false".
-/
import Derived.Test.YbulkgoqFmtModel
import Derived.Test.YbulkgoqFmtContains
import Derived.Test.YbulkgoqFmtErrorf
import Derived.Test.YbulkgoqFmtMap
namespace Go.Proofs.YbulkgoqFmt
open Go.RowKit Go.Extern.Stop Go.Stop Go.Extern

/-- strings.Join of {"true", "false"} by " or ". -/
def JoinSaid : Prop := ∀ (b : Nat) (w : World), b < w.heap.size → w.cell? ⟨b, 0, none⟩ = some (.string ⟨#[116, 114, 117, 101]⟩) → w.cell? ⟨b, 1, none⟩ = some (.string ⟨#[102, 97, 108, 115, 101]⟩) →
  Calls Ybaf.prog 60 #[.slice (some ⟨b, 0, none⟩) 2 2, .string ⟨#[32, 111, 114, 32]⟩] w fun e w' => (∃ s, e = .returned (.string s)) ∧ Below w.heap.size w w'

/-- What valuesIn hands back: an error; or a slice that is not empty, whose first string is "true" just where the values' first is. -/
def ValuesOut (ss : List ByteArray) (e : Ending) (w' : World) : Prop :=
  (validL ss = false ∧ ∃ p, e = .returned (.tuple #[.slice none 0 0, .iface 88 (.pointer (some p))])) ∨
  (validL ss = true ∧ ∃ b off len cap s, e = .returned (.tuple #[.slice (some ⟨b, off, none⟩) len cap, .nilIface]) ∧ 0 < len ∧ w'.cell? ⟨b, off, none⟩ = some (.string s) ∧ (s.toList == [116, 114, 117, 101]) = headT ss)

theorem cell_new (w : World) (v : Value) {t : TypeId} : (w.alloc (.cells #[v] t)).cell? ⟨w.heap.size, 0, none⟩ = some v := by
  go_simp

set_option maxRecDepth 100000 in
set_option maxHeartbeats 1000000 in
theorem values_any (hJ : JoinSaid) (F : Interp) (m al : Nat) (name : ByteArray) (a : Option Addr) (cap : Nat) (ss : List ByteArray) (w : World) (hF : F.answers w.tape)
    (hlk : (Instr.lookup 44 (.map (some m)) (.string name) false).run Ybaf.prog w = .ok (.slice a ss.length cap) w)
    (hal : al < w.heap.size) (h0 : w.cell? ⟨al, 0, none⟩ = some (.string ⟨#[116, 114, 117, 101]⟩)) (h1 : w.cell? ⟨al, 1, none⟩ = some (.string ⟨#[102, 97, 108, 115, 101]⟩))
    (hs : Strs w a ss) (hm : ss.length ≤ 1024) :
    Calls Ybaf.prog 51 #[.map (some m), .string name, .string ⟨#[102, 97, 108, 115, 101]⟩, .slice (some ⟨al, 0, none⟩) 2 2] w fun e w' => ValuesOut ss e w' ∧ Below w.heap.size w w' := by
  have HS : Hid (Strs w a ss) := hs
  have HF : Hid (F.answers w.tape) := hF
  clear hs hF
  go_enter Ybaf.func51, Ybaf.ntmps51
  go_wp2
  go_loop [12, 18] (fun _ i => ∃ k : Nat, k ≤ ss.length ∧ i = .int .i64 k ∧ Hid (validL (ss.take k) = true)) (fun _ i => ss.length - (intOf i).toNat)
  case atStart => exact ⟨0, Nat.zero_le _, rfl, rfl⟩
  case round =>
    obtain ⟨k, hk, rfl, hv⟩ := hrel
    by_cases hlt : k < ss.length
    · obtain ⟨b, off, rfl, hb, hc⟩ := HS.out.at hlt
      have g := hc k hlt
      have hsucc := all_take_succ ss k hlt
      have hnot := all_of_not ss k hlt
      have Hs : Hid (validL (ss.take (k + 1)) = (validL (ss.take k) && okB (ss.getD k ByteArray.empty))) := hsucc
      have Hn : Hid (okB (ss.getD k ByteArray.empty) = false → validL ss = false) := hnot
      clear hsucc hnot hc
      generalize ss.getD k ByteArray.empty = s at g Hs Hn
      go_wp2_with fail
      refine (contains2 s al _ h0 h1).mono ?_
      rintro e w' ⟨rfl, rfl⟩
      cases hok : okB s
      · have Hok : Hid (okB s = false) := hok
        clear hok
        go_wp2_with fail
        refine (hJ al _ hal h0 h1).mono ?_
        rintro e w1 ⟨⟨js, rfl⟩, hb1⟩
        go_wp2_with fail
        refine (errorf_any F name s js w1.heap.size _ (by exact (show F.answers w1.tape by rw [hb1.tape]; exact HF.out)) (by go_simp) (by go_simp) (by go_simp)).mono ?_
        rintro e w2 ⟨⟨p, rfl⟩, hb2⟩
        go_wp2_with fail
        go_ret2
        exact ⟨Or.inl ⟨Hn.out Hok.out, _, rfl⟩, (hb1.alloc hb1.size _).trans (hb2.mono (by have := hb1.size; simp; omega))⟩
      · have Hok : Hid (okB s = true) := hok
        clear hok
        go_wp2_with fail
        go_round
        case rel => exact ⟨k + 1, by omega, by go_num, by show validL (ss.take (k + 1)) = true; rw [Hs.out, hv.out, Hok.out]; rfl⟩
        case measure => simp [intOf]; omega
    · have e : ss.take k = ss := List.take_of_length_le (by omega)
      have hv' : validL (ss.take k) = true := hv
      rw [e] at hv'
      have Hv : Hid (validL ss = true) := hv'
      clear hv' hv e
      cases ss with
      | nil =>
        go_wp2_with fail
        go_ret2
        refine ⟨Or.inr ⟨Hv.out, _, _, _, _, _, rfl, by decide, cell_new _ _, by decide +kernel⟩, (Below.refl _ _).alloc (Nat.le_refl _) _⟩
      | cons s r =>
        obtain ⟨b, off, rfl, hb, hc⟩ := HS.out.head
        have hne : ((((s :: r).length : Nat) : Int) == 0) = false := by simp; omega
        have hp : Hid (0 < (s :: r).length) := by show 0 < (s :: r).length; simp
        have hd : Hid ((s.toList == [116, 114, 117, 101]) = headT (s :: r)) := rfl
        generalize henv : (s :: r) = env at *
        have He : Hid ((s :: r) = env) := henv
        clear henv
        go_wp2_with fail
        go_ret2
        rw [He.out]
        exact ⟨Or.inr ⟨Hv.out, b, off, _, _, s, rfl, hp.out, hc, hd.out⟩, Below.refl _ _⟩
end Go.Proofs.YbulkgoqFmt
