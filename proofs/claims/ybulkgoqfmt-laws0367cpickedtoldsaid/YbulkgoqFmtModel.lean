/-
  DERIVED. zzs0367cmodel.
-/
import Derived.Test.YbulkgoqFmtValid
import Derived.Deep.DeepFit
namespace Go.Proofs.YbulkgoqFmt
open Go.RowKit Go.Extern.Stop Go.Stop Go.Extern

def headT : List ByteArray → Bool
  | [] => false
  | s :: _ => s.toList == [116, 114, 117, 101]

theorem Strs.head {w : World} {a : Option Addr} {s : ByteArray} {r : List ByteArray} (h : Strs w a (s :: r)) : ∃ b off, a = some ⟨b, off, none⟩ ∧ b < w.heap.size ∧ w.cell? ⟨b, off, none⟩ = some (.string s) := by
  obtain ⟨b, off, ha, hb, hc⟩ := h.at (k := 0) (by simp)
  exact ⟨b, off, ha, hb, by simpa using hc 0 (by simp)⟩

set_option maxHeartbeats 400000 in
theorem model_any (a a' : Option Addr) (cap cap' : Nat) (env pre : List ByteArray) (w : World) (hs : Strs w a env) (hs' : Strs w a' pre) (hm : env.length ≤ 1024) (hm' : pre.length ≤ 1024) :
    Calls Ybaf.prog 24 #[.slice a env.length cap, .slice a' pre.length cap'] w fun e w' => e = .returned (.tuple #[.bool (validL env && validL pre && headT env), .bool (!(validL env && validL pre))]) ∧ w' = w := by
  have H1 : Hid (Strs w a env) := hs
  have H2 : Hid (Strs w a' pre) := hs'
  clear hs hs'
  cases hv : validL env
  · have Hv : Hid (validL env = false) := hv
    clear hv
    go_enter Ybaf.func24, Ybaf.ntmps24
    go_wp2_with fail
    refine (valid_any _ _ _ _ H1.out hm).mono ?_
    rintro e w' ⟨rfl, rfl⟩
    rw [Hv.out]
    go_wp2_with fail
    go_ret2
    exact ⟨rfl, rfl⟩
  · have Hv : Hid (validL env = true) := hv
    clear hv
    cases hv' : validL pre
    · have Hv' : Hid (validL pre = false) := hv'
      clear hv'
      go_enter Ybaf.func24, Ybaf.ntmps24
      go_wp2_with fail
      refine (valid_any _ _ _ _ H1.out hm).mono ?_
      rintro e w' ⟨rfl, rfl⟩
      rw [Hv.out]
      go_wp2_with fail
      refine (valid_any _ _ _ _ H2.out hm').mono ?_
      rintro e w' ⟨rfl, rfl⟩
      rw [Hv'.out]
      go_wp2_with fail
      go_ret2
      exact ⟨rfl, rfl⟩
    · have Hv' : Hid (validL pre = true) := hv'
      clear hv'
      cases env with
      | nil =>
        go_enter Ybaf.func24, Ybaf.ntmps24
        go_wp2_with fail
        refine (valid_any a cap [] _ H1.out hm).mono ?_
        rintro e w' ⟨rfl, rfl⟩
        rw [Hv.out]
        go_wp2_with fail
        refine (valid_any _ _ _ _ H2.out hm').mono ?_
        rintro e w' ⟨rfl, rfl⟩
        rw [Hv'.out]
        go_wp2_with fail
        go_ret2
        exact ⟨rfl, rfl⟩
      | cons s r =>
        obtain ⟨b, off, rfl, hb, hc⟩ := H1.out.head
        have hp : (0 : Int) < (((s :: r).length : Nat) : Int) := by simp
        have hd : Hid (headT (s :: r) = (s.toList == [116, 114, 117, 101])) := rfl
        have hle : Hid ((s :: r).length ≤ 1024) := hm
        clear hm
        generalize (s :: r) = env at *
        go_enter Ybaf.func24, Ybaf.ntmps24
        go_wp2_with fail
        refine (valid_any _ cap env _ H1.out hle.out).mono ?_
        rintro e w' ⟨rfl, rfl⟩
        rw [Hv.out]
        go_wp2_with fail
        refine (valid_any _ _ _ _ H2.out hm').mono ?_
        rintro e w' ⟨rfl, rfl⟩
        rw [Hv'.out]
        go_wp2_with fail
        go_ret2
        exact ⟨by rw [hd.out]; rfl, rfl⟩
end Go.Proofs.YbulkgoqFmt
