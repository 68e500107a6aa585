/-
  DERIVED. From the reading of a slice of structs to what the walk wants.
-/
import Derived.Test.YbulkgpsFmtTripA
import Derived.ProofKit
import Derived.OpenShut
import Derived.Deep.Slices
import Derived.Deep.Strs
namespace Go.Proofs.YbulkgpsFmt
open Go.ChangeShapes Go.WideShapes Go.ChangeAt Go.RowKit

theorem cells5 : Ybaf.prog.cellsOf 5 = 1 := by kernel_rfl
theorem cells22 : Ybaf.prog.cellsOf 22 = 1 := by kernel_rfl
theorem cells39 : Ybaf.prog.cellsOf 39 = 3 := by kernel_rfl

theorem add_add (b o i j : Nat) : ((⟨b, o, none⟩ : Addr).add i).add j = ⟨b, o + i + j, none⟩ := by
  cases i <;> cases j <;> simp [Addr.add]

/-- A slice of bytes, read as data. -/
theorem byts_read {H : Type} {enc : TypeId × Value → H} {W : World} {fuel : Nat} {v : Value} {y : DataW H × List MemPlace}
    (hf : DataW.trod enc Ybaf.prog W 0 (fun _ => true) true fuel 22 [v] = some y) : ∃ bs : List Int, Byts W v bs ∧ Nice v ∧ ∀ z ∈ bs, 0 ≤ z ∧ z ≤ 255 := by
  rcases open_ints Ybaf.underlying22 Ybaf.underlying5 cells5 hf with ⟨hcs, _⟩ | ⟨x, l, c, zs, hcs, _, hl, hm, hz, _, hcell, hwz⟩
  · simp at hcs
    subst hcs
    exact ⟨[], ⟨none, 0, rfl, Nat.le_refl _, Or.inl rfl⟩, fun n c h => by simp at h; omega, fun z hz => by simp at hz⟩
  · simp at hcs
    subst hcs
    simp at hz
    have hlen : (zs.take l).length = l := by simp; omega
    refine ⟨zs.take l, ⟨some x, c, by rw [hlen], by rw [hlen]; exact hl, ?_⟩, fun n c h => by simp at h, fun z hz' => ?_⟩
    · by_cases h0 : l = 0
      · subst h0; exact Or.inl (by simp)
      · obtain ⟨b, off, spot⟩ := x
        have hc := hcell 0 (by omega)
        have hspot : spot = none := by simpa [Addr.add] using World.cell?_spot hc
        subst hspot
        refine Or.inr ⟨b, off, rfl, ?_, fun i hi => ?_⟩
        · have := World.block_lt_of_cell? _ _ hc
          simpa [Addr.add] using this
        · rw [hlen] at hi
          have := hcell i (by omega)
          rw [show (⟨b, off, none⟩ : Addr).add i = ⟨b, off + i, none⟩ by cases i <;> simp [Addr.add]] at this
          rw [this]
          simp [List.getD, hi]
    · exact bounds_u8 (hwz z (List.mem_of_mem_take hz'))

set_option maxRecDepth 100000 in
theorem asin_of {H : Type} {enc : TypeId × Value → H} {W : World} {a : Option Addr} {len cap : Nat} {d : DataW H} {p : List MemPlace}
    (h : DataW.Trod enc Ybaf.prog W 0 (fun _ => true) true 37 (.slice a len cap) d p) : ∃ Q : List Att, Q.length = len ∧ AsIn W a Q := by
  obtain ⟨fuel, hf⟩ := h
  rcases Go.Deep.open_slice Ybaf.underlying37 hf with ⟨hcs, _⟩ | ⟨x, l, c, m, n, D, Pl, hcs, _, hl, hm, hmm, _, hel⟩
  · simp [Value.cells] at hcs
    obtain ⟨rfl, rfl, rfl⟩ := hcs
    exact ⟨[], rfl, Or.inl rfl⟩
  · simp [Value.cells] at hcs
    obtain ⟨rfl, rfl, rfl⟩ := hcs
    simp at hmm
    subst hmm
    by_cases h0 : len = 0
    · subst h0
      exact ⟨[], rfl, Or.inl rfl⟩
    · obtain ⟨b, o, spot⟩ := x
      have hspot : spot = none := by
        obtain ⟨cs', hc', _⟩ := hel 0 (by omega)
        rw [cells39] at hc'
        obtain ⟨_, hlen, hcc⟩ := World.cells?_some hc'
        have h1 := hcc 0 (by omega)
        rw [List.getElem?_eq_getElem (by omega)] at h1
        simpa [Addr.add] using World.cell?_spot h1
      subst hspot
      have each : ∀ i, i < len → ∃ q : Att, W.cell? ⟨b, o + i * 3, none⟩ = some (.int .u8 q.1.1) ∧ W.cell? ⟨b, o + i * 3 + 1, none⟩ = some (.int .u8 q.1.2.1) ∧ W.cell? ⟨b, o + i * 3 + 2, none⟩ = some q.2 ∧ Byts W q.2 q.1.2.2 ∧ Nice q.2 ∧
          (0 ≤ q.1.1 ∧ q.1.1 ≤ 255) ∧ (0 ≤ q.1.2.1 ∧ q.1.2.1 ≤ 255) ∧ (∀ z ∈ q.1.2.2, 0 ≤ z ∧ z ≤ 255) := by
        intro i hi
        obtain ⟨cs', hc', ht'⟩ := hel i (by omega)
        rw [cells39] at hc'
        obtain ⟨_, hlen, hcc⟩ := World.cells?_some hc'
        match cs', hlen with
        | [v0, v1, v2], _ =>
          obtain ⟨y0, y1, y2, n', _, _, t0, t1, t2⟩ := Go.Deep.trod_struct3 Ybaf.underlying39 ht'
          simp [cells5, cells22] at t0 t1 t2
          obtain ⟨f, e0, _, w0⟩ := DataW.trod_int Ybaf.underlying5 t0
          obtain ⟨t, e1, _, w1⟩ := DataW.trod_int Ybaf.underlying5 t1
          simp at e0 e1
          subst e0 e1
          obtain ⟨bs, hb, hn, hz⟩ := byts_read t2
          have k0 := hcc 0 (by omega)
          have k1 := hcc 1 (by omega)
          have k2 := hcc 2 (by omega)
          rw [add_add] at k0 k1 k2
          exact ⟨((f, t, bs), v2), by simpa using k0, by simpa using k1, by simpa using k2, hb, hn, bounds_u8 w0, bounds_u8 w1, hz⟩
      have hlt : b < W.heap.size := by
        obtain ⟨q, k0, _⟩ := each 0 (by omega)
        exact World.block_lt_of_cell? _ _ k0
      have : Inhabited Att := ⟨((0, 0, []), .nilIface)⟩
      obtain ⟨qf, hq⟩ := Go.Deep.choose_lt each
      refine ⟨(List.range len).map qf, by simp, Or.inr ⟨b, o, rfl, hlt, fun k q hk => ?_⟩⟩
      have hkl : k < len := by
        have := (List.getElem?_eq_some_iff.1 hk).1
        simpa using this
      have e : q = qf k := by simpa [List.getElem?_eq_getElem (show k < (List.range len).length by simpa using hkl)] using hk.symm
      subst e
      exact hq k hkl
end Go.Proofs.YbulkgpsFmt
