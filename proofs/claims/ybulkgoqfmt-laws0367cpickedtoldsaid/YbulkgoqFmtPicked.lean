/-
  DERIVED. The walk of LawS0367CPicked.
-/
import Derived.Test.YbulkgoqFmtRaw
import Derived.Test.YbulkgoqFmtPick
namespace Go.Proofs.YbulkgoqFmt
open Go.RowKit Go.Extern.Stop Go.Stop Go.Extern

theorem upE (w : World) (e : Value) : (Instr.mapUpdate 44 (.map (some w.heap.size)) (.string ⟨#[101, 110, 118, 101, 108, 111, 112, 101]⟩) e).run Ybaf.prog (w.alloc (.map #[] 0)) = .ok () (w.alloc (.map #[⟨.string kEnv, e, 0⟩] 1)) :=
  update_run w e rfl
theorem upP (w : World) (e p : Value) : (Instr.mapUpdate 44 (.map (some w.heap.size)) (.string ⟨#[112, 114, 101, 116, 116, 121]⟩) p).run Ybaf.prog (w.alloc (.map #[⟨.string kEnv, e, 0⟩] 1)) = .ok () (w.alloc (.map #[⟨.string kEnv, e, 0⟩, ⟨.string kPre, p, 1⟩] 2)) :=
  update_run w p rfl

set_option maxRecDepth 100000 in
set_option maxHeartbeats 1000000 in
theorem picked_any (hJ : JoinSaid) (F : Interp) (a0 a1 : Option Addr) (l0 l1 c0 c1 : Nat) (bad : ByteArray) (w : World) (hF : F.answers w.tape)
    (hs : Byts w a0 l0) (hs' : Byts w a1 l1) :
    Calls Ybaf.prog 6 #[.slice a0 l0 c0, .slice a1 l1 c1, .string bad] w fun e w' => e = .returned (.bool true) ∧ Below w.heap.size w w' := by
  have HS : Hid (Byts w a0 l0) := hs
  have HS' : Hid (Byts w a1 l1) := hs'
  have HF : Hid (F.answers w.tape) := hF
  have HJ : Hid JoinSaid := hJ
  have hmm := @run_makeMap Ybaf.prog
  clear hs hs' hF hJ
  by_cases h1 : 1024 < l0
  · have h1' : decide ((1024 : Int) < (l0 : Int)) = true := by simp; omega
    go_enter Ybaf.func6, Ybaf.ntmps6
    go_wp2_with fail
    go_ret
    exact ⟨rfl, Below.refl _ _⟩
  · have h1' : decide ((1024 : Int) < (l0 : Int)) = false := by simp; omega
    by_cases h2 : 1024 < l1
    · have h2' : decide ((1024 : Int) < (l1 : Int)) = true := by simp; omega
      go_enter Ybaf.func6, Ybaf.ntmps6
      go_wp2_with fail
      go_ret
      exact ⟨rfl, Below.refl _ _⟩
    · have h2' : decide ((1024 : Int) < (l1 : Int)) = false := by simp; omega
      go_enter Ybaf.func6, Ybaf.ntmps6
      go_wp2_with fail
      refine (pick_any a0 l0 c0 bad _ HS.out (by omega)).mono ?_
      rintro e w1 ⟨e0, ec, env, rfl, s1, len1, hb1⟩
      have S1 : Hid (Strs w1 e0 env) := s1
      have L1 : Hid (env.length = l0) := len1
      clear s1 len1
      go_wp2_with fail
      refine (pick_any a1 l1 c1 bad _ (HS'.out.below hb1) (by omega)).mono ?_
      rintro e w2 ⟨p0, pc, pre, rfl, s2, len2, hb2⟩
      have S2 : Hid (Strs w2 p0 pre) := s2
      have L2 : Hid (pre.length = l1) := len2
      clear s2 len2
      have u0 := upE w2
      have u1 := upP w2
      go_wp2_with fail
      refine (check_any HJ.out F w2.heap.size _ _ e0 p0 ec pc env pre _ (by exact (show F.answers w2.tape by rw [hb2.tape, hb1.tape]; exact HF.out)) (MapKept.heap_alloc w2 _).1 rfl rfl
        ((S1.out.below hb2).below ((Below.refl _ _).alloc (Nat.le_refl _) _)) (S2.out.below ((Below.refl _ _).alloc (Nat.le_refl _) _)) (by rw [L1.out]; omega) (by rw [L2.out]; omega)).mono ?_
      rintro e w3 ⟨rfl, hb3⟩
      have hbw : Below w.heap.size w w2 := hb1.trans (hb2.mono hb1.size)
      go_wp2_with fail
      go_ret
      exact ⟨rfl, (hbw.alloc hbw.size _).trans (hb3.mono (by have := hbw.size; simp; omega))⟩
end Go.Proofs.YbulkgoqFmt
