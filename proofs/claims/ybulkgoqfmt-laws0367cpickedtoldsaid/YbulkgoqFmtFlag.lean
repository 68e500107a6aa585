/-
  DERIVED. flagOf, envelopeOf, zzs0367ccheck.
-/
import Derived.Test.YbulkgoqFmtValues
namespace Go.Proofs.YbulkgoqFmt
open Go.RowKit Go.Extern.Stop Go.Stop Go.Extern

def FlagOut (ss : List ByteArray) (e : Ending) : Prop :=
  (validL ss = false ∧ ∃ p, e = .returned (.tuple #[.bool false, .iface 88 (.pointer (some p))])) ∨ (validL ss = true ∧ e = .returned (.tuple #[.bool (headT ss), .nilIface]))

theorem heap_alloc_old {w : World} {m : Nat} {o : Obj} (hb : w.heap[m]? = some o) (o' : Obj) : (w.alloc o').heap[m]? = some o := by
  rw [(MapKept.heap_alloc w o').2 m (Array.getElem?_eq_some_iff.1 hb).1]; exact hb

set_option maxRecDepth 100000 in
set_option maxHeartbeats 1000000 in
theorem flag_any (hJ : JoinSaid) (F : Interp) (m : Nat) (es : Array MapEntry) (clock : Nat) (name : ByteArray) (a : Option Addr) (cap : Nat) (ss : List ByteArray) (w : World) (hF : F.answers w.tape)
    (hb : w.heap[m]? = some (.map es clock)) (hg : mget es name = some (.slice a ss.length cap)) (hs : Strs w a ss) (hm : ss.length ≤ 1024) :
    Calls Ybaf.prog 39 #[.map (some m), .string name] w fun e w' => FlagOut ss e ∧ Below w.heap.size w w' := by
  have HS : Hid (Strs w a ss) := hs
  have HF : Hid (F.answers w.tape) := hF
  have HB : Hid (w.heap[m]? = some (.map es clock)) := hb
  have HG : Hid (mget es name = some (.slice a ss.length cap)) := hg
  have HJ : Hid JoinSaid := hJ
  clear hs hF hb hg hJ
  go_enter Ybaf.func39, Ybaf.ntmps39
  go_wp2_with fail
  refine (values_any HJ.out F m w.heap.size name a cap ss _ (by exact HF.out) (lookup_run (heap_alloc_old HB.out _) HG.out) (by simp) (by go_simp) (by go_simp) (HS.out.below ((Below.refl _ _).alloc (Nat.le_refl _) _)) hm).mono ?_
  rintro e w1 ⟨ho, hb1⟩
  have hbw : Below w.heap.size w w1 := ((Below.refl _ _).alloc (Nat.le_refl _) _).trans (hb1.mono (by simp))
  rcases ho with ⟨hv, p, rfl⟩ | ⟨hv, b, off, len, cap', s, rfl, hlen, hc, hd⟩
  · have Hv : Hid (validL ss = false) := hv
    clear hv
    go_wp2_with fail
    go_ret2
    exact ⟨Or.inl ⟨Hv.out, _, rfl⟩, hbw⟩
  · have Hv : Hid (validL ss = true) := hv
    have Hd : Hid ((s.toList == [116, 114, 117, 101]) = headT ss) := hd
    clear hv hd
    have hl0 : (0 : Int) < len := by omega
    go_wp2_with fail
    go_ret2
    exact ⟨Or.inr ⟨Hv.out, by rw [← Hd.out]; rfl⟩, hbw⟩

def EnvOut (env pre : List ByteArray) (e : Ending) : Prop :=
  ((validL env && validL pre) = false ∧ ∃ p, e = .returned (.tuple #[.bool false, .iface 88 (.pointer (some p))])) ∨ ((validL env && validL pre) = true ∧ e = .returned (.tuple #[.bool (headT env), .nilIface]))

set_option maxRecDepth 100000 in
set_option maxHeartbeats 1000000 in
theorem envelope_any (hJ : JoinSaid) (F : Interp) (m : Nat) (es : Array MapEntry) (clock : Nat) (a a' : Option Addr) (cap cap' : Nat) (env pre : List ByteArray) (w : World) (hF : F.answers w.tape)
    (hb : w.heap[m]? = some (.map es clock)) (hg : mget es ⟨#[101, 110, 118, 101, 108, 111, 112, 101]⟩ = some (.slice a env.length cap)) (hg' : mget es ⟨#[112, 114, 101, 116, 116, 121]⟩ = some (.slice a' pre.length cap'))
    (hs : Strs w a env) (hs' : Strs w a' pre) (hm : env.length ≤ 1024) (hm' : pre.length ≤ 1024) :
    Calls Ybaf.prog 23 #[.map (some m)] w fun e w' => EnvOut env pre e ∧ Below w.heap.size w w' := by
  have HS : Hid (Strs w a env) := hs
  have HS' : Hid (Strs w a' pre) := hs'
  have HF : Hid (F.answers w.tape) := hF
  have HB : Hid (w.heap[m]? = some (.map es clock)) := hb
  have HG : Hid (mget es ⟨#[101, 110, 118, 101, 108, 111, 112, 101]⟩ = some (.slice a env.length cap)) := hg
  have HG' : Hid (mget es ⟨#[112, 114, 101, 116, 116, 121]⟩ = some (.slice a' pre.length cap')) := hg'
  have HJ : Hid JoinSaid := hJ
  have hlt : Hid (m < w.heap.size) := (Array.getElem?_eq_some_iff.1 hb).1
  clear hs hs' hF hb hg hg' hJ
  go_enter Ybaf.func23, Ybaf.ntmps23
  go_wp2_with fail
  refine (flag_any HJ.out F m es clock _ a cap env _ HF.out HB.out HG.out HS.out hm).mono ?_
  rintro e w1 ⟨ho, hb1⟩
  rcases ho with ⟨hv, p, rfl⟩ | ⟨hv, rfl⟩
  · have Hv : Hid (validL env = false) := hv
    clear hv
    go_wp2_with fail
    go_ret2
    exact ⟨Or.inl ⟨by rw [Hv.out]; rfl, _, rfl⟩, hb1⟩
  · have Hv : Hid (validL env = true) := hv
    clear hv
    go_wp2_with fail
    refine (flag_any HJ.out F m es clock _ a' cap' pre _ (by rw [hb1.tape]; exact HF.out) (by rw [hb1.block m hlt.out]; exact HB.out) HG'.out (HS'.out.below hb1) hm').mono ?_
    rintro e w2 ⟨ho, hb2⟩
    have hbw : Below w.heap.size w w2 := hb1.trans (hb2.mono hb1.size)
    rcases ho with ⟨hv, p, rfl⟩ | ⟨hv, rfl⟩
    · have Hv' : Hid (validL pre = false) := hv
      clear hv
      go_wp2_with fail
      go_ret2
      exact ⟨Or.inl ⟨by rw [Hv.out, Hv'.out]; rfl, _, rfl⟩, hbw⟩
    · have Hv' : Hid (validL pre = true) := hv
      clear hv
      go_wp2_with fail
      go_ret2
      exact ⟨Or.inr ⟨by rw [Hv.out, Hv'.out]; rfl, rfl⟩, hbw⟩

set_option maxRecDepth 100000 in
set_option maxHeartbeats 1000000 in
theorem check_any (hJ : JoinSaid) (F : Interp) (m : Nat) (es : Array MapEntry) (clock : Nat) (a a' : Option Addr) (cap cap' : Nat) (env pre : List ByteArray) (w : World) (hF : F.answers w.tape)
    (hb : w.heap[m]? = some (.map es clock)) (hg : mget es ⟨#[101, 110, 118, 101, 108, 111, 112, 101]⟩ = some (.slice a env.length cap)) (hg' : mget es ⟨#[112, 114, 101, 116, 116, 121]⟩ = some (.slice a' pre.length cap'))
    (hs : Strs w a env) (hs' : Strs w a' pre) (hm : env.length ≤ 1024) (hm' : pre.length ≤ 1024) :
    Calls Ybaf.prog 14 #[.map (some m), .slice a env.length cap, .slice a' pre.length cap'] w fun e w' => e = .returned (.bool true) ∧ Below w.heap.size w w' := by
  have HE : Hid (Calls Ybaf.prog 23 #[.map (some m)] w fun e w' => EnvOut env pre e ∧ Below w.heap.size w w') := envelope_any hJ F m es clock a a' cap cap' env pre w hF hb hg hg' hs hs' hm hm'
  have HS : Hid (Strs w a env) := hs
  have HS' : Hid (Strs w a' pre) := hs'
  clear hs hs' hF hb hg hg' hJ
  go_enter Ybaf.func14, Ybaf.ntmps14
  go_wp2_with fail
  refine HE.out.mono ?_
  rintro e w1 ⟨ho, hb1⟩
  rcases ho with ⟨hv, p, rfl⟩ | ⟨hv, rfl⟩
  · have Hv : Hid ((validL env && validL pre) = false) := hv
    clear hv
    go_wp2_with fail
    refine (model_any a a' cap cap' env pre _ (HS.out.below hb1) (HS'.out.below hb1) hm hm').mono ?_
    rintro e w2 ⟨rfl, rfl⟩
    rw [Hv.out]
    go_wp2_with fail
    go_ret
    exact ⟨rfl, hb1⟩
  · have Hv : Hid ((validL env && validL pre) = true) := hv
    clear hv
    go_wp2_with fail
    refine (model_any a a' cap cap' env pre _ (HS.out.below hb1) (HS'.out.below hb1) hm hm').mono ?_
    rintro e w2 ⟨rfl, rfl⟩
    rw [Hv.out]
    generalize headT env = hd
    go_wp2_with fail
    go_ret
    exact ⟨ret_bool (by simp), hb1⟩
end Go.Proofs.YbulkgoqFmt
