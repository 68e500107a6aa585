/-
  DERIVED. NO Go HERE: the three-state machine over a list of bytes, and its laws.
-/
namespace Go.Proofs.Ybulkgpe

/-- The first sep outside quotes among the bytes that are left, told from position k on; -1 if there is none. States: 0 outside, 1 inside quotes, else just after a backslash inside quotes. -/
def scan (sep : Int) : Nat → List UInt8 → Nat → Int
  | _, [], _ => -1
  | 0, b :: r, k => if (b.toNat : Int) = 34 then scan sep 1 r (k + 1) else if (b.toNat : Int) = sep then (k : Int) else scan sep 0 r (k + 1)
  | 1, b :: r, k => if (b.toNat : Int) = 92 then scan sep 2 r (k + 1) else if (b.toNat : Int) = 34 then scan sep 0 r (k + 1) else scan sep 1 r (k + 1)
  | _ + 2, _ :: r, k => scan sep 1 r (k + 1)

theorem drop_at (l : List UInt8) (k : Nat) (h : k < l.length) : l.drop k = l[k] :: l.drop (k + 1) := List.drop_eq_getElem_cons h

theorem scan_end (sep : Int) (st : Nat) (l : List UInt8) (k j : Nat) (h : l.length ≤ k) : scan sep st (l.drop k) j = -1 := by
  rw [List.drop_of_length_le h]
  cases st <;> simp [scan]

theorem scan_esc (sep : Int) (r : List UInt8) (k : Nat) : scan sep 2 r k = scan sep 1 (r.drop 1) (k + 1) := by
  cases r <;> simp [scan]

theorem scan0_quote {sep : Int} {l : List UInt8} {k : Nat} (h : k < l.length) (hb : (l[k].toNat : Int) = 34) : scan sep 0 (l.drop k) k = scan sep 1 (l.drop (k + 1)) (k + 1) := by
  rw [drop_at l k h, scan, if_pos hb]

theorem scan0_hit {sep : Int} {l : List UInt8} {k : Nat} (h : k < l.length) (hb : ¬ (l[k].toNat : Int) = 34) (hs : (l[k].toNat : Int) = sep) : scan sep 0 (l.drop k) k = k := by
  rw [drop_at l k h, scan, if_neg hb, if_pos hs]

theorem scan0_next {sep : Int} {l : List UInt8} {k : Nat} (h : k < l.length) (hb : ¬ (l[k].toNat : Int) = 34) (hs : ¬ (l[k].toNat : Int) = sep) : scan sep 0 (l.drop k) k = scan sep 0 (l.drop (k + 1)) (k + 1) := by
  rw [drop_at l k h, scan, if_neg hb, if_neg hs]

theorem scan1_slash {sep : Int} {l : List UInt8} {k : Nat} (h : k < l.length) (hb : (l[k].toNat : Int) = 92) : scan sep 1 (l.drop k) k = scan sep 2 (l.drop (k + 1)) (k + 1) := by
  rw [drop_at l k h, scan, if_pos hb]

theorem scan1_slash2 {sep : Int} {l : List UInt8} {k : Nat} (h : k < l.length) (hb : (l[k].toNat : Int) = 92) : scan sep 1 (l.drop k) k = scan sep 1 (l.drop (k + 2)) (k + 2) := by
  rw [scan1_slash h hb, scan_esc, List.drop_drop]

theorem scan1_quote {sep : Int} {l : List UInt8} {k : Nat} (h : k < l.length) (hb : ¬ (l[k].toNat : Int) = 92) (hs : (l[k].toNat : Int) = 34) : scan sep 1 (l.drop k) k = scan sep 0 (l.drop (k + 1)) (k + 1) := by
  rw [drop_at l k h, scan, if_neg hb, if_pos hs]

theorem scan1_next {sep : Int} {l : List UInt8} {k : Nat} (h : k < l.length) (hb : ¬ (l[k].toNat : Int) = 92) (hs : ¬ (l[k].toNat : Int) = 34) : scan sep 1 (l.drop k) k = scan sep 1 (l.drop (k + 1)) (k + 1) := by
  rw [drop_at l k h, scan, if_neg hb, if_neg hs]

theorem scan2_next {sep : Int} {l : List UInt8} {k : Nat} (h : k < l.length) : scan sep 2 (l.drop k) k = scan sep 1 (l.drop (k + 1)) (k + 1) := by
  rw [drop_at l k h, scan]

/-- What the machine answers: -1, or a place at which sep stands. -/
theorem scan_at (sep : Int) : ∀ (l : List UInt8) (st k : Nat), scan sep st l k = -1 ∨ ∃ (j : Nat) (h : j < l.length), scan sep st l k = ((k + j : Nat) : Int) ∧ ((l[j]'h).toNat : Int) = sep
  | [], st, k => by cases st <;> simp [scan]
  | b :: r, st, k => by
    have step : ∀ st', scan sep st' r (k + 1) = -1 ∨ ∃ (j : Nat) (h : j < (b :: r).length), scan sep st' r (k + 1) = ((k + j : Nat) : Int) ∧ (((b :: r)[j]'h).toNat : Int) = sep := by
      intro st'
      rcases scan_at sep r st' (k + 1) with h | ⟨j, hj, he, hs⟩
      · exact Or.inl h
      · exact Or.inr ⟨j + 1, by simpa using hj, by rw [he]; congr 1; omega, by simpa using hs⟩
    match st with
    | 0 =>
      rw [scan]
      split
      · exact step 1
      · split
        · rename_i h
          exact Or.inr ⟨0, by simp, by simp, by simpa using h⟩
        · exact step 0
    | 1 =>
      rw [scan]
      split
      · exact step 2
      · split
        · exact step 0
        · exact step 1
    | n + 2 =>
      rw [scan]
      exact step 1

/-- Where the machine stops, the list is what lies ahead, sep, and what lies behind. -/
theorem scan_split {sep : Int} {l : List UInt8} {r : Nat} (h : scan sep 0 l 0 = (r : Int)) : ∃ h : r < l.length, ((l[r]'h).toNat : Int) = sep ∧ l = l.take r ++ l[r]'h :: l.drop (r + 1) := by
  rcases scan_at sep l 0 0 with h1 | ⟨j, hj, he, hs⟩
  · omega
  · have : r = j := by omega
    subst this
    refine ⟨hj, hs, ?_⟩
    rw [← drop_at l r hj, List.take_append_drop]

theorem scan_range (sep : Int) (l : List UInt8) : scan sep 0 l 0 = -1 ∨ ∃ r : Nat, scan sep 0 l 0 = (r : Int) ∧ r < l.length := by
  rcases scan_at sep l 0 0 with h1 | ⟨j, hj, he, hs⟩
  · exact Or.inl h1
  · exact Or.inr ⟨j, by simpa using he, hj⟩
end Go.Proofs.Ybulkgpe
