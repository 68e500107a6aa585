/-
  DERIVED. NO WALK HERE: what is encoded by hand reads back as the same records.
-/
import Derived.Test.YbulkgpsFmtPlain
namespace Go.Proofs.YbulkgpsFmt
open Go

/-- The flags as they are written: the extended length flag set where the value is longer than 255. -/
def fixF (f : Int) (n : Nat) : Int := if 255 < n then setExt f else f
def fix (r : Rec) : Rec := (fixF r.1 r.2.2.length, r.2.1, r.2.2)
/-- The octets of the length. -/
def lenB (f : Int) (n : Nat) : List Int := if ext f then [(n : Int) / 256, (n : Int) % 256] else [(n : Int)]
def enc1 (r : Rec) : List Int := [fixF r.1 r.2.2.length, r.2.1] ++ lenB (fixF r.1 r.2.2.length) r.2.2.length ++ r.2.2
def encAll (L : List Rec) : List Int := L.flatMap enc1

/-- A record that can be encoded: its numbers are octets, its value has at most 4096. -/
def Good (r : Rec) : Prop := (0 ≤ r.1 ∧ r.1 ≤ 255) ∧ (0 ≤ r.2.1 ∧ r.2.1 ≤ 255) ∧ (∀ z ∈ r.2.2, 0 ≤ z ∧ z ≤ 255) ∧ r.2.2.length ≤ 4096

theorem fixF_ok {f : Int} (h : 0 ≤ f ∧ f ≤ 255) (n : Nat) : 0 ≤ fixF f n ∧ fixF f n ≤ 255 ∧ (255 < n → ext (fixF f n) = true) := by
  unfold fixF
  split
  · have := setExt_ok f h.1 h.2
    exact ⟨this.2.1, this.2.2, fun _ => this.1⟩
  · exact ⟨h.1, h.2, fun hn => by contradiction⟩

theorem encAll_snoc (L : List Rec) (r : Rec) : encAll (L ++ [r]) = encAll L ++ enc1 r := by simp [encAll]

theorem lenB_length (f : Int) (n : Nat) : (lenB f n).length + 2 = hdr f := by
  unfold lenB hdr
  split <;> rfl

theorem enc1_length (r : Rec) : (enc1 r).length = hdr (fixF r.1 r.2.2.length) + r.2.2.length := by
  have := lenB_length (fixF r.1 r.2.2.length) r.2.2.length
  simp only [enc1, List.length_append, List.length_cons, List.length_nil]
  omega

theorem enc1_le (r : Rec) (h : Good r) : (enc1 r).length ≤ 4100 := by
  rw [enc1_length]
  have := hdr_pos (fixF r.1 r.2.2.length)
  have := h.2.2.2
  omega

theorem enc1_range (r : Rec) (h : Good r) : ∀ z ∈ enc1 r, 0 ≤ z ∧ z ≤ 255 := by
  intro z hz
  have hf := fixF_ok h.1 r.2.2.length
  have hl := h.2.2.2
  simp only [enc1, List.mem_append, List.mem_cons, List.not_mem_nil, or_false] at hz
  rcases hz with ((rfl | rfl) | hz) | hz
  · exact ⟨hf.1, hf.2.1⟩
  · exact h.2.1
  · unfold lenB at hz
    split at hz
    · simp at hz
      omega
    · rename_i hx
      simp at hz
      have : ¬ 255 < r.2.2.length := fun hn => hx (hf.2.2 hn)
      omega
  · exact h.2.2.1 z hz

theorem enc1_head (r : Rec) (h : Good r) (rest : List Int) :
    (enc1 r ++ rest).getD 0 0 = fixF r.1 r.2.2.length ∧ (enc1 r ++ rest).getD 1 0 = r.2.1 ∧ vlen (enc1 r ++ rest) = r.2.2.length ∧
    (enc1 r ++ rest).drop (hdr (fixF r.1 r.2.2.length)) = r.2.2 ++ rest := by
  have hf := fixF_ok h.1 r.2.2.length
  unfold enc1 vlen lenB hdr
  by_cases hx : ext (fixF r.1 r.2.2.length) = true
  · simp [hx]
    omega
  · simp [hx]

theorem recs_enc : ∀ (L : List Rec) (f : Nat), (∀ r ∈ L, Good r) → (encAll L).length ≤ f → recs f (encAll L) = some (L.map fix)
  | [], f, _, _ => by simp [encAll, recs_nil]
  | r :: L, f, hg, hf => by
    have hr := hg r (by simp)
    have e : encAll (r :: L) = enc1 r ++ encAll L := by simp [encAll]
    obtain ⟨h0, h1, h2, h3⟩ := enc1_head r hr (encAll L)
    have hl := enc1_length r
    have hh := hdr_pos (fixF r.1 r.2.2.length)
    rw [e] at hf ⊢
    have hlen : (enc1 r ++ encAll L).length = hdr (fixF r.1 r.2.2.length) + r.2.2.length + (encAll L).length := by rw [List.length_append, hl]
    rw [recs_step (by omega) hf (by rw [h0, h2]; omega), h0, h1, h2, h3, ← List.drop_drop, h3]
    rw [List.drop_left, List.take_left]
    rw [recs_enc L (f - 1) (fun x hx => hg x (by simp [hx])) (by omega)]
    rfl

theorem encAll_range (L : List Rec) (hg : ∀ r ∈ L, Good r) : ∀ z ∈ encAll L, 0 ≤ z ∧ z ≤ 255 := by
  intro z hz
  obtain ⟨r, hr, hz⟩ := List.mem_flatMap.1 hz
  exact enc1_range r (hg r hr) z hz

theorem encAll_le : ∀ (L : List Rec), (∀ r ∈ L, Good r) → (encAll L).length ≤ 4100 * L.length
  | [], _ => by simp [encAll]
  | r :: L, hg => by
    have e : encAll (r :: L) = enc1 r ++ encAll L := by simp [encAll]
    have h1 := enc1_le r (hg r (by simp))
    have h2 := encAll_le L (fun x hx => hg x (by simp [hx]))
    rw [e, List.length_append, List.length_cons]
    omega
end Go.Proofs.YbulkgpsFmt
