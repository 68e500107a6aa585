/-
  DERIVED. The walk of LawS0368ARoundTrip, the law itself.
-/
import Derived.Test.YbulkgpeFmtTrip
namespace Go.Proofs.YbulkgpeFmt
open Go.RowKit Go.Extern.Stop Go.Stop Go.Extern

theorem ret_bool {a b : Bool} (h : a = b) : Ending.returned (.bool a) = .returned (.bool b) := by rw [h]

theorem below_mark (w : World) (o : Obj) : Below w.heap.size w (w.drew.alloc o) := (Below.refl _ _).drew.alloc (Nat.le_refl _) _

theorem tobytes (w : World) (s : ByteArray) (xs : List Int) (hx : s.data.toList.map (fun b => (b.toNat : Int)) = xs) :
    ∃ cap w1, (convert 9 30 (.string s)).run Ybaf.prog w = .ok (.slice (some ⟨w.heap.size, 0, none⟩) xs.length cap) w1 ∧ Cells w1 w.heap.size xs ∧ Below w.heap.size w w1 ∧ w.heap.size < w1.heap.size := by
  have hlen : xs.length = s.size := by rw [← hx]; simp
  rw [hlen]
  refine ⟨_, _, run_bytes_of_string (P := Ybaf.prog) w 9 30 5 s Ybaf.underlying9 Ybaf.underlying30 Ybaf.underlying5, fun i hi => ?_, below_mark w _, by simp⟩
  have hi' : i < s.data.size := by rw [hlen] at hi; exact hi
  have h := World.cell?_alloc_mark w.drew (bytesRow s (grownCap w s.size 0 5)) 5 ((bytesRow s (grownCap w s.size 0 5)).size, (bytesRow s (grownCap w s.size 0 5)).size + 1) i
  rw [bytesRow_at s _ i hi'] at h
  have e : xs.getD i 0 = (s.data[i].toNat : Int) := by
    subst hx
    simp [List.getD, Array.getElem?_eq_getElem hi']
  rw [e]
  exact h

set_option maxRecDepth 100000 in
set_option maxHeartbeats 1000000 in
theorem trip0 (F : Interp) (x st : Int) (w : World) (hF : F.answers w.tape) (h0 : 0 ≤ x) (h1 : x ≤ 255) (s0 : -128 ≤ st) (s1 : st ≤ 127) (hx : x % 3 = 0) :
    Calls Ybaf.prog 4 #[.int .u8 x, .int .i8 st] w fun e w' => e = .returned (.bool true) ∧ Below w.heap.size w w' := by
  have HF : Hid (F.answers w.tape) := hF
  clear hF
  obtain ⟨cap, w1, hcv, hcl, hb1, hlt1⟩ := tobytes (w.alloc (.cells #[.int .i64 st] 22)) ⟨#[110, 111, 110, 101]⟩ [110, 111, 110, 101] (by decide)
  have hm : w1.cell? ⟨w.heap.size, 0, none⟩ = some (.int .i64 st) := by
    rw [hb1.cell (p := ⟨w.heap.size, 0, none⟩) (by simp)]; go_simp
  have HC : Hid (Cells w1 (w.alloc (.cells #[.int .i64 st] 22)).heap.size [110, 111, 110, 101]) := hcl
  have HT : Hid (F.answers w1.tape) := by show F.answers w1.tape; rw [hb1.tape]; exact HF.out
  have hbw : Below w.heap.size w w1 := ((Below.refl _ _).alloc (Nat.le_refl _) _).trans (hb1.mono (by simp))
  have hbw1 : w.heap.size + 1 ≤ w1.heap.size := by have := hb1.size; simpa using this
  clear hcl
  go_enter Ybaf.func4, Ybaf.ntmps4
  go_wp2_with fail
  refine (string_any 0 _ (Or.inl rfl)).mono ?_
  rintro e w' ⟨rfl, rfl⟩
  rw [show modeName 0 = ⟨#[110, 111, 110, 101]⟩ from rfl]
  go_wp2_with fail
  refine (unm_none F w'.heap.size (w'.heap.size + 1) cap w1 HT.out (by simpa using hlt1) (by simpa using HC.out)).mono ?_
  rintro e w2 ⟨⟨p, rfl⟩, hb2⟩
  have hm2 : w2.cell? ⟨w'.heap.size, 0, none⟩ = some (.int .i64 st) := by
    rw [hb2.cell (p := ⟨w'.heap.size, 0, none⟩) (Nat.lt_of_lt_of_le (by simp) hbw1)]; exact hm
  have hbw2 : Below w'.heap.size w' w2 := hbw.trans (hb2.mono hbw.size)
  go_wp2
  go_ret
  exact ⟨ret_bool (by simp), hbw2⟩

set_option maxRecDepth 100000 in
set_option maxHeartbeats 1000000 in
theorem trip1 (x st : Int) (w : World) (h0 : 0 ≤ x) (h1 : x ≤ 255) (s0 : -128 ≤ st) (s1 : st ≤ 127) (hx : x % 3 = 1) :
    Calls Ybaf.prog 4 #[.int .u8 x, .int .i8 st] w fun e w' => e = .returned (.bool true) ∧ Below w.heap.size w w' := by
  obtain ⟨cap, w1, hcv, hcl, hb1, hlt1⟩ := tobytes (w.alloc (.cells #[.int .i64 st] 22)) ⟨#[112, 101, 114, 109, 97, 110, 101, 110, 116]⟩ [112, 101, 114, 109, 97, 110, 101, 110, 116] (by decide)
  have hm : w1.cell? ⟨w.heap.size, 0, none⟩ = some (.int .i64 st) := by
    rw [hb1.cell (p := ⟨w.heap.size, 0, none⟩) (by simp)]; go_simp
  have hfz : w1.frozen? ⟨w.heap.size, 0, none⟩ = false := by
    rw [hb1.frozen (p := ⟨w.heap.size, 0, none⟩) (by simp)]; go_simp
  have HC : Hid (Cells w1 (w.alloc (.cells #[.int .i64 st] 22)).heap.size [112, 101, 114, 109, 97, 110, 101, 110, 116]) := hcl
  have hbw : Below w.heap.size w w1 := ((Below.refl _ _).alloc (Nat.le_refl _) _).trans (hb1.mono (by simp))
  clear hcl
  go_enter Ybaf.func4, Ybaf.ntmps4
  go_wp2_with fail
  refine (string_any 1 _ (by omega)).mono ?_
  rintro e w' ⟨rfl, rfl⟩
  rw [show modeName 1 = ⟨#[112, 101, 114, 109, 97, 110, 101, 110, 116]⟩ from rfl]
  go_wp2_with fail
  refine (unm_perm w'.heap.size (w'.heap.size + 1) cap _ w1 hm hfz (by simpa using HC.out)).mono ?_
  rintro e w2 ⟨rfl, rfl⟩
  have hbw2 : Below w'.heap.size w' (w1.setCell ⟨w'.heap.size, 0, none⟩ (.int .i64 1)) := hbw.setCell (Nat.le_refl _) _
  have hm2 : (w1.setCell ⟨w'.heap.size, 0, none⟩ (.int .i64 1)).cell? ⟨w'.heap.size, 0, none⟩ = some (.int .i64 1) := World.cell?_setCell_same _ _ _ hm
  go_wp2
  go_ret
  exact ⟨rfl, hbw2⟩

set_option maxRecDepth 100000 in
set_option maxHeartbeats 1000000 in
theorem trip2 (x st : Int) (w : World) (h0 : 0 ≤ x) (h1 : x ≤ 255) (s0 : -128 ≤ st) (s1 : st ≤ 127) (hx : x % 3 = 2) :
    Calls Ybaf.prog 4 #[.int .u8 x, .int .i8 st] w fun e w' => e = .returned (.bool true) ∧ Below w.heap.size w w' := by
  obtain ⟨cap, w1, hcv, hcl, hb1, hlt1⟩ := tobytes (w.alloc (.cells #[.int .i64 st] 22)) ⟨#[116, 101, 109, 112, 111, 114, 97, 114, 121]⟩ [116, 101, 109, 112, 111, 114, 97, 114, 121] (by decide)
  have hm : w1.cell? ⟨w.heap.size, 0, none⟩ = some (.int .i64 st) := by
    rw [hb1.cell (p := ⟨w.heap.size, 0, none⟩) (by simp)]; go_simp
  have hfz : w1.frozen? ⟨w.heap.size, 0, none⟩ = false := by
    rw [hb1.frozen (p := ⟨w.heap.size, 0, none⟩) (by simp)]; go_simp
  have HC : Hid (Cells w1 (w.alloc (.cells #[.int .i64 st] 22)).heap.size [116, 101, 109, 112, 111, 114, 97, 114, 121]) := hcl
  have hbw : Below w.heap.size w w1 := ((Below.refl _ _).alloc (Nat.le_refl _) _).trans (hb1.mono (by simp))
  clear hcl
  go_enter Ybaf.func4, Ybaf.ntmps4
  go_wp2_with fail
  refine (string_any 2 _ (by omega)).mono ?_
  rintro e w' ⟨rfl, rfl⟩
  rw [show modeName 2 = ⟨#[116, 101, 109, 112, 111, 114, 97, 114, 121]⟩ from rfl]
  go_wp2_with fail
  refine (unm_temp w'.heap.size (w'.heap.size + 1) cap _ w1 hm hfz (by simpa using HC.out)).mono ?_
  rintro e w2 ⟨rfl, rfl⟩
  have hbw2 : Below w'.heap.size w' (w1.setCell ⟨w'.heap.size, 0, none⟩ (.int .i64 2)) := hbw.setCell (Nat.le_refl _) _
  have hm2 : (w1.setCell ⟨w'.heap.size, 0, none⟩ (.int .i64 2)).cell? ⟨w'.heap.size, 0, none⟩ = some (.int .i64 2) := World.cell?_setCell_same _ _ _ hm
  go_wp2
  go_ret
  exact ⟨rfl, hbw2⟩

theorem trip_any (F : Interp) (x st : Int) (w : World) (hF : F.answers w.tape) (h0 : 0 ≤ x) (h1 : x ≤ 255) (s0 : -128 ≤ st) (s1 : st ≤ 127) :
    Calls Ybaf.prog 4 #[.int .u8 x, .int .i8 st] w fun e w' => e = .returned (.bool true) ∧ Below w.heap.size w w' := by
  have hk : x % 3 = 0 ∨ x % 3 = 1 ∨ x % 3 = 2 := by omega
  rcases hk with h | h | h
  · exact trip0 F x st w hF h0 h1 s0 s1 h
  · exact trip1 x st w h0 h1 s0 s1 h
  · exact trip2 x st w h0 h1 s0 s1 h
end Go.Proofs.YbulkgpeFmt
