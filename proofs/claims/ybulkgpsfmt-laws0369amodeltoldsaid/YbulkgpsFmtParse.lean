/-
  DERIVED. parseAttributes where the bytes are well formed.
-/
import Derived.Test.YbulkgpsFmtRows2
import Derived.Deep.RegionWith
import Derived.Deep.Cut
import Derived.Deep.CutRange
import Derived.Deep.LoopGhost
namespace Go.Proofs.YbulkgpsFmt
open Go.RowKit Go.Extern.Stop Go.Stop Go.Extern

theorem info34 : (Ybaf.prog.info? 34).map (fun i => (i.zero, i.size, i.bytes)) = some (some (.agg #[.int .u8 0, .int .u8 0, .slice none 0 0]), 3, 32) := by kernel_rfl

/-- The length of a slice value: for a loop's measure. -/
def lenOf : Value → Nat | .slice _ n _ => n | _ => 0

/-- What a round knows where the bytes are well formed. -/
theorem round_facts {f : Nat} {rest : List Int} {rs acc : List Rec} (hlt : 0 < rest.length) (hf : rest.length ≤ f) (hrec : addTo acc (recs f rest) = some rs) :
    hdr (rest.getD 0 0) + vlen rest ≤ rest.length ∧ addTo (acc ++ [(rest.getD 0 0, rest.getD 1 0, (rest.drop (hdr (rest.getD 0 0))).take (vlen rest))]) (recs (f - 1) (rest.drop (hdr (rest.getD 0 0) + vlen rest))) = some rs := by
  by_cases h : hdr (rest.getD 0 0) + vlen rest ≤ rest.length
  · refine ⟨h, ?_⟩
    rw [recs_step hlt hf h, addTo_cons] at hrec
    exact hrec
  · rw [recs_past hlt hf (by omega), addTo_none] at hrec
    cases hrec

theorem mem_getD {l : List Int} {i : Nat} (h : i < l.length) : l.getD i 0 ∈ l := by
  simp [List.getD, h]

/-- The local variable's block behind a call that only makes new blocks. -/
theorem a_block {wr w1 : World} {x y v : Value} (hb : Below ((wr.alloc (.cells #[x, y, v] 34)).drew.drew).heap.size ((wr.alloc (.cells #[x, y, v] 34)).drew.drew) w1) :
    wr.heap.size + 1 ≤ w1.heap.size ∧ w1.cell? ⟨wr.heap.size, 0, none⟩ = some x ∧ w1.cell? ⟨wr.heap.size, 1, none⟩ = some y ∧ w1.cell? ⟨wr.heap.size, 2, none⟩ = some v ∧ w1.frozen? ⟨wr.heap.size, 2, none⟩ = false ∧ Hid (Below wr.heap.size wr w1) := by
  have hlt : wr.heap.size < ((wr.alloc (.cells #[x, y, v] 34)).drew.drew).heap.size := by simp
  refine ⟨by have := hb.size; simpa using this, ?_, ?_, ?_, ?_, ?_⟩
  · rw [hb.cell (p := ⟨wr.heap.size, 0, none⟩) hlt]; go_simp
  · rw [hb.cell (p := ⟨wr.heap.size, 1, none⟩) hlt]; go_simp
  · rw [hb.cell (p := ⟨wr.heap.size, 2, none⟩) hlt]; go_simp
  · rw [hb.frozen (p := ⟨wr.heap.size, 2, none⟩) hlt]; go_simp
  · exact ((Below.refl _ _).alloc (Nat.le_refl _) _).drew.drew.trans (hb.mono (by simp))

theorem grown_setCell (w : World) (p : Addr) (u : Value) : w.grownBy (w.setCell p u) (some p.block) :=
  ⟨rfl, rfl, rfl, by simp [World.setCell], fun k _ hne => Below.heap_setCell w p u k (fun e => hne (by rw [e]))⟩

theorem owns_store {w : World} {B e size n : Nat} {v : Value} {xs : List Value} (h : w.ownsRow B e size v n xs) {p : Addr} (hp : ∀ k, v.ownBlock = some k → k ≠ p.block) (u : Value) : (w.setCell p u).ownsRow B e size v n xs := by
  refine h.kept (grown_setCell w p u) ?_
  cases hv : v.ownBlock with
  | none => exact Or.inl rfl
  | some k => exact Or.inr (fun e => hp k hv (Option.some.inj e))

/-- The row so far, in the world in which the append is made. -/
theorem row_there {wr w1 : World} {B n : Nat} {v : Value} {xs : List Value} (h : wr.ownsRow B 34 3 v n xs) (hb : Below wr.heap.size wr w1) (u : Value) (o : Obj) : ((w1.setCell ⟨wr.heap.size, 2, none⟩ u).alloc o).ownsRow B 34 3 v n xs :=
  (owns_store (owns_below h hb) (fun k hk e => by have := (h.lt k hk).2; simp at e; omega) u).alloc o

theorem three_cells {w : World} {x y z : Value} {t : TypeId} {n : Nat} (hn : n = w.heap.size) : ∀ j u, [x, y, z][j]? = some u → (w.alloc (.cells #[x, y, z] t)).cell? ((⟨n, 0, none⟩ : Addr).add j) = some u := by
  intro j u hj
  subst hn
  match j, hj with
  | 0, hj => simp at hj; subst hj; simp [Addr.add]
  | 1, hj => simp at hj; subst hj; simp [Addr.add]
  | 2, hj => simp at hj; subst hj; simp [Addr.add]
  | j + 3, hj => simp at hj

theorem three_one {x y : Int} {a : Option Addr} {n c : Nat} : ∀ u ∈ [Value.int .u8 x, .int .u8 y, .slice a n c], u.oneCell' = true := by
  intro u hu
  simp at hu
  rcases hu with rfl | rfl | rfl <;> rfl

theorem below_there {w wr w1 : World} (hbel : Below w.heap.size w wr) (hbw : Below wr.heap.size wr w1) (u : Value) (ob : Obj) : Below w.heap.size w ((w1.setCell ⟨wr.heap.size, 2, none⟩ u).alloc ob) := by
  have h1 : Below w.heap.size w w1 := hbel.trans (hbw.mono hbel.size)
  have h2 : Below w.heap.size w (w1.setCell ⟨wr.heap.size, 2, none⟩ u) := h1.setCell hbel.size u
  exact h2.alloc h2.size ob

theorem below_here {w wr : World} (hbel : Below w.heap.size w wr) (o1 o2 : Obj) : Below w.heap.size w ((wr.alloc o1).alloc o2).drew := by
  have h1 := hbel.alloc hbel.size o1
  exact (h1.alloc h1.size o2).drew

/-- THE LOOP's RELATION: what is left of the bytes, what has been built, and that both together say what the whole says. -/
def Rel (w : World) (zs : List Int) (R : Option (List Rec)) (sv av : Value) (wr : World) : Prop :=
  ∃ (rest : List Int) (Q : List Att) (f : Nat) (sa : Option Addr) (c : Nat), sv = .slice sa rest.length c ∧ Byts w (.slice sa rest.length c) rest ∧ wr.ownsRow w.heap.size 34 3 av Q.length (attCells Q) ∧ (∀ q ∈ Q, Byts w q.2 q.1.2.2) ∧
    Below w.heap.size w wr ∧ rest.length ≤ f ∧ Q.length + rest.length ≤ zs.length ∧ (∀ z ∈ rest, 0 ≤ z ∧ z ≤ 255) ∧ addTo (Q.map (·.1)) (recs f rest) = R

theorem Rel.start {w : World} {zs : List Int} {sa : Option Addr} {c : Nat} (hv : Byts w (.slice sa zs.length c) zs) (hz : ∀ z ∈ zs, 0 ≤ z ∧ z ≤ 255) : Rel w zs (recs zs.length zs) (.slice sa zs.length c) (.slice none 0 0) w :=
  ⟨zs, [], zs.length, sa, c, rfl, hv, World.ownsRow_nil _ _ _ _, (fun q hq => by simp at hq), Below.refl _ _, Nat.le_refl _, by simp, hz, by rw [List.map_nil, addTo_nil]⟩

/-- A round's end: one attribute more. -/
theorem Rel.next {w wr W w2 : World} {zs rest : List Int} {R : Option (List Rec)} {Q : List Att} {f b o c Hh N : Nat} {av v' : Value} {z0 z1 : Int} {A1 : Addr}
    (hblt : b < w.heap.size) (hcell : ∀ i, i < rest.length → w.cell? ⟨b, o + i, none⟩ = some (.int .u8 (rest.getD i 0))) (hcap : rest.length ≤ c) (hfit : Hh + N ≤ rest.length) (hH : 3 ≤ Hh)
    (hA1 : Hh < rest.length → A1 = ⟨b, o + Hh, none⟩) (hvals : ∀ q ∈ Q, Byts w q.2 q.1.2.2) (hW : Below w.heap.size w W)
    (hown : w2.ownsRow w.heap.size 34 3 v' (Q.length + 1) (attCells Q ++ [.int .u8 z0, .int .u8 z1, .slice (some A1) N (c - Hh)]))
    (howna : wr.ownsRow w.heap.size 34 3 av Q.length (attCells Q)) (hgrow : W.grownBy w2 av.ownBlock)
    (hf : rest.length ≤ f) (hlen : Q.length + rest.length ≤ zs.length) (hrng : ∀ z ∈ rest, 0 ≤ z ∧ z ≤ 255)
    (hrec : addTo (Q.map (·.1) ++ [(z0, z1, (rest.drop Hh).take N)]) (recs (f - 1) (rest.drop (Hh + N))) = R) :
    Rel w zs R (.slice (if c = Hh + N then some ⟨b, o, none⟩ else some ⟨b, o + (Hh + N), none⟩) (rest.length - (Hh + N)) (c - (Hh + N))) v' w2 := by
  have hl : (rest.drop (Hh + N)).length = rest.length - (Hh + N) := by simp
  refine ⟨rest.drop (Hh + N), Q ++ [((z0, z1, (rest.drop Hh).take N), .slice (some A1) N (c - Hh))], f - 1, _, c - (Hh + N), by rw [hl], ?_, ?_, ?_, ?_, by rw [hl]; omega, ?_, fun z hz => hrng z (List.mem_of_mem_drop hz), ?_⟩
  · rw [hl]
    exact Byts.tail hblt hcell (Hh + N) hfit _ _ (by omega) (fun h => by rw [if_neg (by omega)])
  · rw [attCells_snoc]
    simpa using hown
  · intro q hq
    rcases List.mem_append.1 hq with h | h
    · exact hvals q h
    · simp at h
      subst h
      exact Byts.cut hblt hcell Hh N (by omega) _ _ (by omega) (fun h => by rw [hA1 (by omega)])
  · exact hW.grown hgrow hW.size (fun k hk => (howna.lt k hk).1)
  · rw [List.length_append, hl]
    simp
    omega
  · rw [List.map_append]
    exact hrec

set_option maxRecDepth 100000 in
set_option maxHeartbeats 2000000 in
theorem parse_ok (v : Value) (zs : List Int) (rs : List Rec) (w : World) (hv : Byts w v zs) (hz : ∀ z ∈ zs, 0 ≤ z ∧ z ≤ 255) (hm : zs.length ≤ 2000000) (hr : recs zs.length zs = some rs) :
    Calls Ybaf.prog 5 #[v] w fun e w' => ∃ av Q, e = .returned (.tuple #[av, .nilIface]) ∧ Attrs w.heap.size w' av Q ∧ Q.map (·.1) = rs ∧ Below w.heap.size w w' := by
  obtain ⟨i0, hi, hz0, hz1, hz2⟩ := info_parts info34
  have HV : Hid (Byts w v zs) := hv
  have HZ : Hid (∀ z ∈ zs, 0 ≤ z ∧ z ≤ 255) := hz
  have HR : Hid (recs zs.length zs = some rs) := hr
  obtain ⟨sa0, c0, rfl, hcap0, hjunk⟩ := hv
  clear hz hr hjunk hcap0
  go_enter Ybaf.func5, Ybaf.ntmps5
  go_wp2
  go_loopw [0, 4] (fun sv av wr => Rel w zs (some rs) sv av wr) (fun sv _ _ => lenOf sv)
  case atStart => exact HR.out ▸ Rel.start HV.out HZ.out
  case round =>
    obtain ⟨rest, Q, f, sa, c, rfl, hB0, hown0, hvals0, hbel0, hf, hlen, hrng0, hrec0⟩ := hrel
    have hB : Hid (Byts w (.slice sa rest.length c) rest) := hB0
    have hown : Hid (wr.ownsRow w.heap.size 34 3 u4 Q.length (attCells Q)) := hown0
    have hvals : Hid (∀ q ∈ Q, Byts w q.2 q.1.2.2) := hvals0
    have hbel : Hid (Below w.heap.size w wr) := hbel0
    have hrng : Hid (∀ z ∈ rest, 0 ≤ z ∧ z ≤ 255) := hrng0
    have hrec : Hid (addTo (Q.map (·.1)) (recs f rest) = some rs) := hrec0
    clear hB0 hown0 hvals0 hbel0 hrng0 hrec0
    have hsz : w.heap.size ≤ wr.heap.size := hbel.out.size
    by_cases hlt : 0 < rest.length
    · obtain ⟨b, o, c', hveq, hcap, hblt, hcell⟩ := hB.out.cells hlt
      simp only [Value.slice.injEq] at hveq
      obtain ⟨rfl, _, rfl⟩ := hveq
      obtain ⟨hfit, hnext⟩ := round_facts hlt hf hrec.out
      have kc : ∀ i, i < rest.length → wr.cell? ⟨b, o + i, none⟩ = some (.int .u8 (rest.getD i 0)) := fun i hi => (hbel.out.cell (p := ⟨b, o + i, none⟩) hblt).trans (hcell i hi)
      have hrg : ∀ i, i < rest.length → 0 ≤ rest.getD i 0 ∧ rest.getD i 0 ≤ 255 := fun i hi => hrng.out _ (mem_getD hi)
      have hbw : b < wr.heap.size := Nat.lt_of_lt_of_le hblt hsz
      have hh := hdr_pos (rest.getD 0 0)
      have k0 := kc 0 hlt
      have k1 := kc 1 (by omega)
      have k2 := kc 2 (by omega)
      have r0 := hrg 0 hlt
      have r1 := hrg 1 (by omega)
      have r2 := hrg 2 (by omega)
      rw [Nat.add_zero] at k0
      have HC : Hid (∀ i, i < rest.length → w.cell? ⟨b, o + i, none⟩ = some (.int .u8 (rest.getD i 0))) := hcell
      clear hcell
      by_cases hx : ext (rest.getD 0 0) = true
      · have hH : hdr (rest.getD 0 0) = 4 := by unfold hdr; rw [if_pos hx]
        rw [hH] at hfit hnext
        have k3 := kc 3 (by omega)
        have r3 := hrg 3 (by omega)
        have hN : (vlen rest : Int) = rest.getD 2 0 * 256 + rest.getD 3 0 := by unfold vlen; rw [if_pos hx]; omega
        have hxb : (bits BinOp.and IntKind.u8 (rest.getD 0 0) 16 != 0) = true := hx
        clear hx hH kc hrg hh
        generalize hz0e : rest.getD 0 0 = z0 at *
        generalize hz1e : rest.getD 1 0 = z1 at *
        generalize hz2e : rest.getD 2 0 = z2 at *
        generalize hz3e : rest.getD 3 0 = z3 at *
        generalize hNe : vlen rest = N at *
        have HX : Hid (addTo (Q.map (·.1) ++ [(z0, z1, (rest.drop 4).take N)]) (recs (f - 1) (rest.drop (4 + N))) = some rs) := hnext
        have cU : ∀ wx : World, wx.cell? ⟨b, o + 2, none⟩ = some (.int .u8 z2) → wx.cell? ⟨b, o + 3, none⟩ = some (.int .u8 z3) → ∀ ll cc : Nat, 2 ≤ ll → Calls Ybaf.prog 9 #[.agg #[], .slice (some ⟨b, o + 2, none⟩) ll cc] wx fun e w' => e = .returned (.int .u16 (N : Nat)) ∧ Below wx.heap.size wx w' := by
          intro wx q2 q3 ll cc hll
          rw [hN]
          exact u16_any b (o + 2) ll cc z2 z3 wx hll q2 q3 r2 r3
        have hN1 : N ≤ 2000000 := by omega
        have hL1 : rest.length ≤ 2000000 := by omega
        obtain ⟨A1, hA1, hA1p⟩ : ∃ A : Addr, (if c = 4 then some (⟨b, o, none⟩ : Addr) else some ⟨b, o + 4, none⟩) = some A ∧ Hid (4 < rest.length → A = ⟨b, o + 4, none⟩) := by
          by_cases h : c = 4
          · exact ⟨⟨b, o, none⟩, by simp [h], fun h' => by omega⟩
          · exact ⟨⟨b, o + 4, none⟩, by simp [h], fun _ => rfl⟩
        have CU := cU
        clear hz0e hz1e hz2e hz3e hNe hnext hN cU hrec
        go_wp2_with fail
        go_region
        all_goals go_wp2_with fail
        go_region_with (go_at_call 9; refine (CU _ (by go_simp) (by go_simp) _ _ (by omega)).mono ?_; rintro e w1 ⟨rfl, hb1⟩)
        all_goals
          obtain ⟨hs1, a0, a1, a2, fz, hbw1⟩ := a_block hb1
          have hrow := row_there hown.out hbw1.out
          have hrow' : Hid (∀ u o, ((w1.setCell ⟨wr.heap.size, 2, none⟩ u).alloc o).ownsRow w.heap.size 34 3 u4 Q.length (attCells Q)) := hrow
          clear hb1 CU k0 k1 k2 k3 hrow
          go_wp2_with ((at_builtin; refine wpList_append_own _ rfl (.tmp 62) (.tmp 64) 25 rfl w.heap.size 34 i0 _ 3 32 Ybaf.underlying25 hi hz0 hz1 hz2 rfl (by decide) _ _ _ rfl (hrow'.out _ _) ⟨_, 0, none⟩ 1 1 [.int .u8 z0, .int .u8 z1, .slice (some A1) N (c - 4)] rfl rfl (three_cells (by simp)) three_one (by unfold maxLen; omega) (by omega) (by simp; omega) ?_; intro v' w2 hown2 hgrow2 _))
          go_roundw
          case rel => exact Rel.next hblt HC.out hcap hfit (by omega) hA1p.out hvals.out (below_there hbel.out hbw1.out _ _) hown2 hown.out hgrow2 hf hlen hrng.out HX.out
          case measure => simp [lenOf]; omega
      · have hH : hdr (rest.getD 0 0) = 3 := by unfold hdr; rw [if_neg hx]
        rw [hH] at hfit hnext
        have hN : rest.getD 2 0 = (vlen rest : Int) := by unfold vlen; rw [if_neg hx]; omega
        have hxb : (bits BinOp.and IntKind.u8 (rest.getD 0 0) 16 != 0) = false := by
          have : ext (rest.getD 0 0) = false := by simpa using hx
          exact this
        rw [hN] at k2
        clear hx hH kc hrg hh r2
        generalize hz0e : rest.getD 0 0 = z0 at *
        generalize hz1e : rest.getD 1 0 = z1 at *
        generalize hNe : vlen rest = N at *
        have HX : Hid (addTo (Q.map (·.1) ++ [(z0, z1, (rest.drop 3).take N)]) (recs (f - 1) (rest.drop (3 + N))) = some rs) := hnext
        have hN1 : N ≤ 2000000 := by omega
        have hL1 : rest.length ≤ 2000000 := by omega
        obtain ⟨A1, hA1, hA1p⟩ : ∃ A : Addr, (if c = 3 then some (⟨b, o, none⟩ : Addr) else some ⟨b, o + 3, none⟩) = some A ∧ Hid (3 < rest.length → A = ⟨b, o + 3, none⟩) := by
          by_cases h : c = 3
          · exact ⟨⟨b, o, none⟩, by simp [h], fun h' => by omega⟩
          · exact ⟨⟨b, o + 3, none⟩, by simp [h], fun _ => rfl⟩
        have hrow' : Hid (∀ o1 o2, ((wr.alloc o1).alloc o2).drew.ownsRow w.heap.size 34 3 u4 Q.length (attCells Q)) := fun o1 o2 => ((hown.out.alloc o1).alloc o2).drew
        clear hz0e hz1e hNe hnext hN hrec
        go_wp2_with fail
        go_region
        all_goals
          go_wp2_with ((at_builtin; refine wpList_append_own _ rfl (.tmp 62) (.tmp 64) 25 rfl w.heap.size 34 i0 _ 3 32 Ybaf.underlying25 hi hz0 hz1 hz2 rfl (by decide) _ _ _ rfl (hrow'.out _ _) ⟨_, 0, none⟩ 1 1 [.int .u8 z0, .int .u8 z1, .slice (some A1) N (c - 3)] rfl rfl (three_cells (by simp)) three_one (by unfold maxLen; omega) (by omega) (by simp; omega) ?_; intro v' w2 hown2 hgrow2 _))
          go_roundw
          case rel => exact Rel.next hblt HC.out hcap hfit (by omega) hA1p.out hvals.out (below_here hbel.out _ _) hown2 hown.out hgrow2 hf hlen hrng.out HX.out
          case measure => simp [lenOf]; omega
    · have hnil : rest = [] := by cases rest with | nil => rfl | cons a r => simp at hlt
      subst hnil
      go_wp2_with fail
      go_ret2
      refine ⟨_, Q, rfl, ⟨hown.out, fun q hq => (hvals.out q hq).below hbel.out⟩, ?_, hbel.out⟩
      have := hrec.out
      rw [recs_nil, addTo_some] at this
      simpa using this
end Go.Proofs.YbulkgpsFmt
