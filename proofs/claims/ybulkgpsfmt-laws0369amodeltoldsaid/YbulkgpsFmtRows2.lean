/-
  DERIVED. The row of attributes that parseAttributes builds; slices cut out of slices of bytes.
-/
import Derived.Test.YbulkgpsFmtLib
import Derived.OwnWalk
namespace Go.Proofs.YbulkgpsFmt
open Go.RowKit

/-- An attribute as it lies in memory: the record, and the value that its third cell holds. -/
abbrev Att := Rec × Value
def attCells (Q : List Att) : List Value := Q.flatMap fun q => [.int .u8 q.1.1, .int .u8 q.1.2.1, q.2]

theorem attCells_snoc (Q : List Att) (q : Att) : attCells (Q ++ [q]) = attCells Q ++ [.int .u8 q.1.1, .int .u8 q.1.2.1, q.2] := by
  simp [attCells]

theorem attCells_at : ∀ (Q : List Att) (k : Nat) (q : Att), Q[k]? = some q →
    (attCells Q)[3 * k]? = some (.int .u8 q.1.1) ∧ (attCells Q)[3 * k + 1]? = some (.int .u8 q.1.2.1) ∧ (attCells Q)[3 * k + 2]? = some q.2
  | [], k, q, h => by simp at h
  | p :: Q, 0, q, h => by
    simp at h
    subst h
    simp [attCells]
  | p :: Q, k + 1, q, h => by
    have ih := attCells_at Q k q (by simpa using h)
    have e : attCells (p :: Q) = .int .u8 p.1.1 :: .int .u8 p.1.2.1 :: p.2 :: attCells Q := by simp [attCells]
    rw [e, show 3 * (k + 1) = 3 * k + 1 + 1 + 1 by omega]
    refine ⟨?_, ?_, ?_⟩
    · simpa using ih.1
    · rw [show 3 * k + 1 + 1 + 1 + 1 = (3 * k + 1) + 1 + 1 + 1 by omega]; simpa using ih.2.1
    · rw [show 3 * k + 1 + 1 + 1 + 2 = (3 * k + 2) + 1 + 1 + 1 by omega]; simpa using ih.2.2

/-- What parseAttributes hands back: a row of its own that bears Q, the values as Q's records say. -/
def Attrs (B : Nat) (w : World) (av : Value) (Q : List Att) : Prop :=
  w.ownsRow B 34 3 av Q.length (attCells Q) ∧ ∀ q ∈ Q, Byts w q.2 q.1.2.2

theorem grown_of_below {w w' : World} (hb : Below w.heap.size w w') (row : Option Nat) : w.grownBy w' row := ⟨hb.os, hb.tape, hb.output, hb.size, fun k hk _ => hb.block k hk⟩

theorem owns_below {w w' : World} {B e size n : Nat} {v : Value} {xs : List Value} (h : w.ownsRow B e size v n xs) (hb : Below w.heap.size w w') : w'.ownsRow B e size v n xs :=
  h.kept (grown_of_below hb none) (by cases hv : v.ownBlock <;> simp)

theorem Attrs.below {B : Nat} {w w' : World} {av : Value} {Q : List Att} (h : Attrs B w av Q) (hb : Below w.heap.size w w') : Attrs B w' av Q :=
  ⟨owns_below h.1 hb, fun q hq => (h.2 q hq).below hb⟩

/-- The k-th attribute's three cells. -/
theorem Attrs.at {B : Nat} {w : World} {av : Value} {Q : List Att} (h : Attrs B w av Q) {k : Nat} {q : Att} (hk : Q[k]? = some q) :
    ∃ g cap, av = .slice (some ⟨g, 0, none⟩) Q.length cap ∧ g < w.heap.size ∧ w.cell? ⟨g, k * 3, none⟩ = some (.int .u8 q.1.1) ∧ w.cell? ⟨g, k * 3 + 1, none⟩ = some (.int .u8 q.1.2.1) ∧ w.cell? ⟨g, k * 3 + 2, none⟩ = some q.2 ∧ Byts w q.2 q.1.2.2 := by
  have hq : q ∈ Q := List.mem_of_getElem? hk
  have hlen : k < Q.length := (List.getElem?_eq_some_iff.1 hk).1
  have hc := attCells_at Q k q hk
  rw [Nat.mul_comm] at hc
  rcases h.1.2 with ⟨_, hx⟩ | ⟨g, cap, cur, hv, hbase, hg, _⟩
  · omega
  · have hcells := h.1.cells (g := g) (by rw [hv]; rfl)
    have hadd : ∀ j, (⟨g, 0, none⟩ : Addr).add j = ⟨g, j, none⟩ := fun j => by cases j <;> simp [Addr.add]
    refine ⟨g, cap, hv, (Array.getElem?_eq_some_iff.1 hg).1, ?_, ?_, ?_, h.2 q hq⟩
    · have := hcells _ _ hc.1; rwa [hadd] at this
    · have := hcells _ _ hc.2.1; rwa [hadd] at this
    · have := hcells _ _ hc.2.2; rwa [hadd] at this

/-- A slice cut out of a slice of bytes. -/
theorem Byts.cut {w : World} {b o : Nat} {bs : List Int} (hlt : b < w.heap.size) (hcell : ∀ i, i < bs.length → w.cell? ⟨b, o + i, none⟩ = some (.int .u8 (bs.getD i 0)))
    (l n : Nat) (hn : l + n ≤ bs.length) (sa : Option Addr) (c : Nat) (hc : n ≤ c) (hsa : 0 < n → sa = some ⟨b, o + l, none⟩) : Byts w (.slice sa n c) ((bs.drop l).take n) := by
  have hlen : ((bs.drop l).take n).length = n := by simp; omega
  refine ⟨sa, c, by rw [hlen], by rw [hlen]; exact hc, ?_⟩
  by_cases h0 : n = 0
  · subst h0; exact Or.inl (by simp)
  · refine Or.inr ⟨b, o + l, hsa (by omega), hlt, fun i hi => ?_⟩
    rw [hlen] at hi
    have := hcell (l + i) (by omega)
    rw [Nat.add_assoc, this]
    simp [List.getD, hi]

theorem Byts.tail {w : World} {b o : Nat} {bs : List Int} (hlt : b < w.heap.size) (hcell : ∀ i, i < bs.length → w.cell? ⟨b, o + i, none⟩ = some (.int .u8 (bs.getD i 0)))
    (l : Nat) (hl : l ≤ bs.length) (sa : Option Addr) (c : Nat) (hc : bs.length - l ≤ c) (hsa : l < bs.length → sa = some ⟨b, o + l, none⟩) : Byts w (.slice sa (bs.length - l) c) (bs.drop l) := by
  have h := Byts.cut hlt hcell l (bs.length - l) (by omega) sa c hc (fun h => hsa (by omega))
  rwa [List.take_of_length_le (by simp)] at h
end Go.Proofs.YbulkgpsFmt
