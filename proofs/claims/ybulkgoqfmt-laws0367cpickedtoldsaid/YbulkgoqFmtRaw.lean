/-
  DERIVED. The walk of LawS0367CRaw.
-/
import Derived.Test.YbulkgoqFmtFlag
namespace Go.Proofs.YbulkgoqFmt
open Go.RowKit Go.Extern.Stop Go.Stop Go.Extern

def kOther : ByteArray := ⟨#[111, 116, 104, 101, 114]⟩
def kEnv : ByteArray := ⟨#[101, 110, 118, 101, 108, 111, 112, 101]⟩
def kPre : ByteArray := ⟨#[112, 114, 101, 116, 116, 121]⟩

theorem up0 (w : World) (o : Value) : (Instr.mapUpdate 44 (.map (some w.heap.size)) (.string ⟨#[111, 116, 104, 101, 114]⟩) o).run Ybaf.prog (w.alloc (.map #[] 0)) = .ok () (w.alloc (.map #[⟨.string kOther, o, 0⟩] 1)) :=
  update_run w o rfl
theorem up1e (w : World) (o e : Value) : (Instr.mapUpdate 44 (.map (some w.heap.size)) (.string ⟨#[101, 110, 118, 101, 108, 111, 112, 101]⟩) e).run Ybaf.prog (w.alloc (.map #[⟨.string kOther, o, 0⟩] 1)) = .ok () (w.alloc (.map #[⟨.string kOther, o, 0⟩, ⟨.string kEnv, e, 1⟩] 2)) :=
  update_run w e rfl
theorem up1p (w : World) (o p : Value) : (Instr.mapUpdate 44 (.map (some w.heap.size)) (.string ⟨#[112, 114, 101, 116, 116, 121]⟩) p).run Ybaf.prog (w.alloc (.map #[⟨.string kOther, o, 0⟩] 1)) = .ok () (w.alloc (.map #[⟨.string kOther, o, 0⟩, ⟨.string kPre, p, 1⟩] 2)) :=
  update_run w p rfl
theorem up2 (w : World) (o e p : Value) : (Instr.mapUpdate 44 (.map (some w.heap.size)) (.string ⟨#[112, 114, 101, 116, 116, 121]⟩) p).run Ybaf.prog (w.alloc (.map #[⟨.string kOther, o, 0⟩, ⟨.string kEnv, e, 1⟩] 2)) = .ok () (w.alloc (.map #[⟨.string kOther, o, 0⟩, ⟨.string kEnv, e, 1⟩, ⟨.string kPre, p, 2⟩] 3)) :=
  update_run w p rfl

set_option maxRecDepth 100000 in
set_option maxHeartbeats 1000000 in
theorem raw_any (hJ : JoinSaid) (F : Interp) (a0 a1 a2 : Option Addr) (c0 c1 c2 : Nat) (env pre oth : List ByteArray) (oe op : Bool) (w : World) (hF : F.answers w.tape)
    (hs : Strs w a0 env) (hs' : Strs w a1 pre) :
    Calls Ybaf.prog 5 #[.slice a0 env.length c0, .slice a1 pre.length c1, .slice a2 oth.length c2, .bool oe, .bool op] w fun e w' => e = .returned (.bool true) ∧ Below w.heap.size w w' := by
  have HS : Hid (Strs w a0 env) := hs
  have HS' : Hid (Strs w a1 pre) := hs'
  have HF : Hid (F.answers w.tape) := hF
  have HJ : Hid JoinSaid := hJ
  have hmm := @run_makeMap Ybaf.prog
  clear hs hs' hF hJ
  by_cases h1 : 1024 < env.length
  · have h1' : decide ((1024 : Int) < (env.length : Int)) = true := by simp; omega
    go_enter Ybaf.func5, Ybaf.ntmps5
    go_wp2_with fail
    go_ret
    exact ⟨rfl, Below.refl _ _⟩
  · have h1' : decide ((1024 : Int) < (env.length : Int)) = false := by simp; omega
    by_cases h2 : 1024 < pre.length
    · have h2' : decide ((1024 : Int) < (pre.length : Int)) = true := by simp; omega
      go_enter Ybaf.func5, Ybaf.ntmps5
      go_wp2_with fail
      go_ret
      exact ⟨rfl, Below.refl _ _⟩
    · have h2' : decide ((1024 : Int) < (pre.length : Int)) = false := by simp; omega
      by_cases h3 : 1024 < oth.length
      · have h3' : decide ((1024 : Int) < (oth.length : Int)) = true := by simp; omega
        go_enter Ybaf.func5, Ybaf.ntmps5
        go_wp2_with fail
        go_ret
        exact ⟨rfl, Below.refl _ _⟩
      · have h3' : decide ((1024 : Int) < (oth.length : Int)) = false := by simp; omega
        have u0 := up0 w
        have u1e := up1e w
        have u1p := up1p w
        have u2 := up2 w
        have hnew : ∀ o : Obj, Strs (w.alloc o) a0 env ∧ Strs (w.alloc o) a1 pre := fun o => ⟨HS.out.below ((Below.refl _ _).alloc (Nat.le_refl _) _), HS'.out.below ((Below.refl _ _).alloc (Nat.le_refl _) _)⟩
        have HN : Hid (∀ o : Obj, Strs (w.alloc o) a0 env ∧ Strs (w.alloc o) a1 pre) := hnew
        clear hnew
        cases oe <;> cases op
        · go_enter Ybaf.func5, Ybaf.ntmps5
          go_wp2_with fail
          refine (check_any HJ.out F w.heap.size _ _ a0 a1 c0 c1 env pre _ (by exact HF.out) (MapKept.heap_alloc w _).1 rfl rfl (HN.out _).1 (HN.out _).2 (by omega) (by omega)).mono ?_
          rintro e w1 ⟨rfl, hb1⟩
          go_wp2_with fail
          go_ret
          exact ⟨rfl, ((Below.refl _ _).alloc (Nat.le_refl _) _).trans (hb1.mono (by simp))⟩
        · go_enter Ybaf.func5, Ybaf.ntmps5
          go_wp2_with fail
          refine (check_any HJ.out F w.heap.size _ _ a0 none c0 0 env [] _ (by exact HF.out) (MapKept.heap_alloc w _).1 rfl rfl (HN.out _).1 (Or.inl rfl) (by omega) (by decide)).mono ?_
          rintro e w1 ⟨rfl, hb1⟩
          go_wp2_with fail
          go_ret
          exact ⟨rfl, ((Below.refl _ _).alloc (Nat.le_refl _) _).trans (hb1.mono (by simp))⟩
        · go_enter Ybaf.func5, Ybaf.ntmps5
          go_wp2_with fail
          refine (check_any HJ.out F w.heap.size _ _ none a1 0 c1 [] pre _ (by exact HF.out) (MapKept.heap_alloc w _).1 rfl rfl (Or.inl rfl) (HN.out _).2 (by decide) (by omega)).mono ?_
          rintro e w1 ⟨rfl, hb1⟩
          go_wp2_with fail
          go_ret
          exact ⟨rfl, ((Below.refl _ _).alloc (Nat.le_refl _) _).trans (hb1.mono (by simp))⟩
        · go_enter Ybaf.func5, Ybaf.ntmps5
          go_wp2_with fail
          refine (check_any HJ.out F w.heap.size _ _ none none 0 0 [] [] _ (by exact HF.out) (MapKept.heap_alloc w _).1 rfl rfl (Or.inl rfl) (Or.inl rfl) (by decide) (by decide)).mono ?_
          rintro e w1 ⟨rfl, hb1⟩
          go_wp2_with fail
          go_ret
          exact ⟨rfl, ((Below.refl _ _).alloc (Nat.le_refl _) _).trans (hb1.mono (by simp))⟩
end Go.Proofs.YbulkgoqFmt
