/-
  DERIVED. The walk of LawS0368ARoundTrip.
-/
import Derived.Test.YbulkgpeFmtUnm
namespace Go.Proofs.YbulkgpeFmt
open Go.RowKit Go.Extern.Stop Go.Stop Go.Extern
attribute [local go_sem] call10 fguard fmt0r ptr38 elem38

/-- The cells of a slice of bytes. -/
def Cells (w : World) (tb : Nat) (xs : List Int) : Prop := ∀ i, i < xs.length → w.cell? ⟨tb, i, none⟩ = some (.int .u8 (xs.getD i 0))

theorem Cells.list {w : World} {tb : Nat} {xs : List Int} (h : Cells w tb xs) : ∀ j v, (xs.map (Value.int .u8))[j]? = some v → w.cell? ((⟨tb, 0, none⟩ : Addr).add j) = some v := by
  intro j v hj
  have hjl : j < xs.length := by
    rcases Nat.lt_or_ge j xs.length with h | h
    · exact h
    · simp [List.getElem?_eq_none (show (xs.map (Value.int .u8)).length ≤ j by simpa using h)] at hj
  rw [show (⟨tb, 0, none⟩ : Addr).add j = ⟨tb, j, none⟩ by cases j <;> simp [Addr.add], h j hjl]
  simp [List.getElem?_eq_getElem hjl] at hj
  subst hj
  simp [List.getD, List.getElem?_eq_getElem hjl]

theorem Cells.below {w w' : World} {tb : Nat} {xs : List Int} (h : Cells w tb xs) (hlt : tb < w.heap.size) (hb : Below w.heap.size w w') : Cells w' tb xs :=
  fun i hi => by rw [hb.cell (p := ⟨tb, i, none⟩) hlt]; exact h i hi

theorem back9 {w : World} {tb cap : Nat} {xs : List Int} (h : Cells w tb xs) : (convert 30 9 (.slice (some ⟨tb, 0, none⟩) xs.length cap)).run Ybaf.prog w = .ok (.string (strOfNums xs)) w :=
  run_convert_bytes_arg (P := Ybaf.prog) w 30 5 Ybaf.underlying30 Ybaf.underlying5 tb 0 xs.length cap xs rfl (fun i hi => by simpa using h i hi) 9 Ybaf.underlying9

set_option maxHeartbeats 400000 in
theorem errorf_any (F : Interp) (blk tb cap : Nat) (xs : List Int) (w : World) (hF : F.answers w.tape)
    (h0 : w.cell? ⟨blk, 0, none⟩ = some (.iface 30 (.slice (some ⟨tb, 0, none⟩) xs.length cap))) (hc : Cells w tb xs) :
    Calls Ybaf.prog 9 #[.string ⟨#[117, 110, 107, 110, 111, 119, 110, 32, 109, 111, 100, 101, 32, 37, 113]⟩, .slice (some ⟨blk, 0, none⟩) 1 1] w fun e w' => (∃ p, e = .returned (.iface 38 (.pointer (some p)))) ∧ Below w.heap.size w w' := by
  have hF' := answers_open hF
  have hop := opBytes "fmt.errorf" ⟨tb, 0, none⟩ cap xs w hc.list
  go_enter Ybaf.func9, Ybaf.ntmps9
  go_wp2
  go_ret
  exact ⟨⟨_, rfl⟩, ((Below.refl _ _).alloc (Nat.le_refl _) _).drew⟩

theorem unm_perm (mb tb cap : Nat) (old : Value) (w : World) (hm : w.cell? ⟨mb, 0, none⟩ = some old) (hf : w.frozen? ⟨mb, 0, none⟩ = false)
    (hc : Cells w tb [112, 101, 114, 109, 97, 110, 101, 110, 116]) :
    Calls Ybaf.prog 7 #[.pointer (some ⟨mb, 0, none⟩), .slice (some ⟨tb, 0, none⟩) 9 cap] w fun e w' => e = .returned .nilIface ∧ w' = w.setCell ⟨mb, 0, none⟩ (.int .i64 1) := by
  have hb := back9 (cap := cap) hc
  simp only [List.length_cons, List.length_nil] at hb
  have he : strOfNums [112, 101, 114, 109, 97, 110, 101, 110, 116] = ⟨#[112, 101, 114, 109, 97, 110, 101, 110, 116]⟩ := by decide +kernel
  rw [he] at hb
  clear he hc
  go_enter Ybaf.func7, Ybaf.ntmps7
  go_wp2
  go_ret
  exact ⟨rfl, rfl⟩

theorem unm_temp (mb tb cap : Nat) (old : Value) (w : World) (hm : w.cell? ⟨mb, 0, none⟩ = some old) (hf : w.frozen? ⟨mb, 0, none⟩ = false)
    (hc : Cells w tb [116, 101, 109, 112, 111, 114, 97, 114, 121]) :
    Calls Ybaf.prog 7 #[.pointer (some ⟨mb, 0, none⟩), .slice (some ⟨tb, 0, none⟩) 9 cap] w fun e w' => e = .returned .nilIface ∧ w' = w.setCell ⟨mb, 0, none⟩ (.int .i64 2) := by
  have hb := back9 (cap := cap) hc
  simp only [List.length_cons, List.length_nil] at hb
  have he : strOfNums [116, 101, 109, 112, 111, 114, 97, 114, 121] = ⟨#[116, 101, 109, 112, 111, 114, 97, 114, 121]⟩ := by decide +kernel
  rw [he] at hb
  clear he hc
  go_enter Ybaf.func7, Ybaf.ntmps7
  go_wp2
  go_ret
  exact ⟨rfl, rfl⟩

theorem unm_none (F : Interp) (mb tb cap : Nat) (w : World) (hF : F.answers w.tape) (htb : tb < w.heap.size)
    (hc : Cells w tb [110, 111, 110, 101]) :
    Calls Ybaf.prog 7 #[.pointer (some ⟨mb, 0, none⟩), .slice (some ⟨tb, 0, none⟩) 4 cap] w fun e w' => (∃ p, e = .returned (.iface 38 (.pointer (some p)))) ∧ Below w.heap.size w w' := by
  have hb := back9 (cap := cap) hc
  simp only [List.length_cons, List.length_nil] at hb
  have he : strOfNums [110, 111, 110, 101] = ⟨#[110, 111, 110, 101]⟩ := by decide +kernel
  rw [he] at hb
  have HC : Hid (Cells w tb [110, 111, 110, 101]) := hc
  have HF : Hid (F.answers w.tape) := hF
  clear he hc hF
  go_enter Ybaf.func7, Ybaf.ntmps7
  go_wp2_with fail
  refine (errorf_any F w.heap.size tb cap [110, 111, 110, 101] _ (by exact HF.out) (by go_simp) (HC.out.below htb ((Below.refl _ _).alloc (Nat.le_refl _) _))).mono ?_
  rintro e w1 ⟨⟨p, rfl⟩, hb1⟩
  go_wp2
  go_ret
  exact ⟨⟨_, rfl⟩, ((Below.refl _ _).alloc (Nat.le_refl _) _).trans (hb1.mono (by simp))⟩
end Go.Proofs.YbulkgpeFmt
