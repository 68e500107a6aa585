/-
  DERIVED. parseAttributes where a header or a value runs past the end: no attributes, and a *fmt.wrapError around the sentinel.
-/
import Derived.Test.YbulkgpsFmtParse
import Derived.Test.YbulkgpsFmtErrorf
namespace Go.Proofs.YbulkgpsFmt
open Go.RowKit Go.Extern.Stop Go.Stop Go.Extern

theorem cell_lt {w : World} {a : Addr} {v : Value} (h : w.cell? a = some v) : a.block < w.heap.size := by
  rcases Nat.lt_or_ge a.block w.heap.size with h' | h'
  · exact h'
  · simp [World.cell?, Array.getElem?_eq_none h'] at h

/-- The sentinel's variable and its text, where they lie. -/
def Sent (w : World) (a1 : Addr) (s1 : ByteArray) : Prop := w.cell? ⟨0, 0, none⟩ = some (.iface 65 (.pointer (some a1))) ∧ w.cell? a1 = some (.string s1)

theorem Sent.below {w w' : World} {a1 : Addr} {s1 : ByteArray} (h : Sent w a1 s1) (hb : Below w.heap.size w w') : Sent w' a1 s1 :=
  ⟨(hb.cell (p := ⟨0, 0, none⟩) (cell_lt h.1)).trans h.1, (hb.cell (cell_lt h.2)).trans h.2⟩
theorem Sent.alloc {w : World} {a1 : Addr} {s1 : ByteArray} (h : Sent w a1 s1) (o : Obj) : Sent (w.alloc o) a1 s1 := h.below ((Below.refl _ _).alloc (Nat.le_refl _) o)
theorem Sent.drew {w : World} {a1 : Addr} {s1 : ByteArray} (h : Sent w a1 s1) : Sent w.drew a1 s1 := h.below (Below.refl _ _).drew

theorem round_next {f : Nat} {rest : List Int} {R : Option (List Rec)} {acc : List Rec} (hlt : 0 < rest.length) (hf : rest.length ≤ f) (h : hdr (rest.getD 0 0) + vlen rest ≤ rest.length) (hrec : addTo acc (recs f rest) = R) :
    addTo (acc ++ [(rest.getD 0 0, rest.getD 1 0, (rest.drop (hdr (rest.getD 0 0))).take (vlen rest))]) (recs (f - 1) (rest.drop (hdr (rest.getD 0 0) + vlen rest))) = R := by
  rw [recs_step hlt hf h, addTo_cons] at hrec
  exact hrec

set_option maxRecDepth 100000 in
set_option maxHeartbeats 4000000 in
theorem parse_err (F : Interp) (a1 : Addr) (s1 : ByteArray) (v : Value) (zs : List Int) (w : World) (hF : F.answers w.tape) (hS : Sent w a1 s1) (hv : Byts w v zs) (hz : ∀ z ∈ zs, 0 ≤ z ∧ z ≤ 255) (hm : zs.length ≤ 2000000) (hr : recs zs.length zs = none) :
    Calls Ybaf.prog 5 #[v] w fun e w' => ∃ pb, e = .returned (.tuple #[.slice none 0 0, .iface 53 (.pointer (some ⟨pb, 0, none⟩))]) ∧ w'.cell? ⟨pb, 1, none⟩ = some (.iface 65 (.pointer (some a1))) ∧ Below w.heap.size w w' := by
  obtain ⟨i0, hi, hz0, hz1, hz2⟩ := info_parts info34
  have HV : Hid (Byts w v zs) := hv
  have HZ : Hid (∀ z ∈ zs, 0 ≤ z ∧ z ≤ 255) := hz
  have HR : Hid (recs zs.length zs = none) := hr
  have HF : Hid (F.answers w.tape) := hF
  have HS : Hid (Sent w a1 s1) := hS
  obtain ⟨sa0, c0, rfl, hcap0, hjunk⟩ := hv
  clear hz hr hjunk hcap0 hF hS
  go_enter Ybaf.func5, Ybaf.ntmps5
  go_wp2
  go_loopw [0, 4] (fun sv av wr => Rel w zs none sv av wr) (fun sv _ _ => lenOf sv)
  case atStart => exact HR.out ▸ Rel.start HV.out HZ.out
  case round =>
    obtain ⟨rest, Q, f, sa, c, rfl, hB0, hown0, hvals0, hbel0, hf, hlen, hrng0, hrec0⟩ := hrel
    have hB : Hid (Byts w (.slice sa rest.length c) rest) := hB0
    have hown : Hid (wr.ownsRow w.heap.size 34 3 u4 Q.length (attCells Q)) := hown0
    have hvals : Hid (∀ q ∈ Q, Byts w q.2 q.1.2.2) := hvals0
    have hbel : Hid (Below w.heap.size w wr) := hbel0
    have hrng : Hid (∀ z ∈ rest, 0 ≤ z ∧ z ≤ 255) := hrng0
    have hrec : Hid (addTo (Q.map (·.1)) (recs f rest) = none) := hrec0
    clear hB0 hown0 hvals0 hbel0 hrng0 hrec0
    have hsz : w.heap.size ≤ wr.heap.size := hbel.out.size
    have SW : Hid (Sent wr a1 s1) := HS.out.below hbel.out
    have FW : Hid (F.answers wr.tape) := by
      show F.answers wr.tape
      rw [hbel.out.tape]
      exact HF.out
    have hg : wr.cell? ⟨0, 0, none⟩ = some (.iface 65 (.pointer (some a1))) := SW.out.1
    have hg0 : 0 < wr.heap.size := cell_lt hg
    by_cases hlt : 0 < rest.length
    · obtain ⟨b, o, c', hveq, hcap, hblt, hcell⟩ := hB.out.cells hlt
      simp only [Value.slice.injEq] at hveq
      obtain ⟨rfl, _, rfl⟩ := hveq
      have kc : ∀ i, i < rest.length → wr.cell? ⟨b, o + i, none⟩ = some (.int .u8 (rest.getD i 0)) := fun i hi => (hbel.out.cell (p := ⟨b, o + i, none⟩) hblt).trans (hcell i hi)
      have hrg : ∀ i, i < rest.length → 0 ≤ rest.getD i 0 ∧ rest.getD i 0 ≤ 255 := fun i hi => hrng.out _ (mem_getD hi)
      have hbw : b < wr.heap.size := Nat.lt_of_lt_of_le hblt hsz
      have hL1 : rest.length ≤ 2000000 := by omega
      have k0 := kc 0 hlt
      have r0 := hrg 0 hlt
      rw [Nat.add_zero] at k0
      have HC : Hid (∀ i, i < rest.length → w.cell? ⟨b, o + i, none⟩ = some (.int .u8 (rest.getD i 0))) := hcell
      clear hcell
      by_cases hshort : rest.length < hdr (rest.getD 0 0)
      · by_cases hx : ext (rest.getD 0 0) = true
        · have hH : hdr (rest.getD 0 0) = 4 := by unfold hdr; rw [if_pos hx]
          rw [hH] at hshort
          have hxb : (bits BinOp.and IntKind.u8 (rest.getD 0 0) 16 != 0) = true := hx
          clear hx hH kc hrg
          generalize hz0e : rest.getD 0 0 = z0 at *
          clear hz0e
          go_wp2_with fail
          refine (errorf_A F a1 s1 wr.heap.size _ (by exact FW.out) (by go_simp) (by exact (SW.out.alloc _).2)).mono ?_
          rintro e w2 ⟨pb, rfl, hpb, hb2⟩
          go_wp2_with fail
          go_ret2
          exact ⟨pb, rfl, hpb, (hbel.out.alloc hsz _).trans (hb2.mono (by simp; omega))⟩
        · have hH : hdr (rest.getD 0 0) = 3 := by unfold hdr; rw [if_neg hx]
          rw [hH] at hshort
          have hxb : (bits BinOp.and IntKind.u8 (rest.getD 0 0) 16 != 0) = false := by
            have : ext (rest.getD 0 0) = false := by simpa using hx
            exact this
          clear hx hH kc hrg
          generalize hz0e : rest.getD 0 0 = z0 at *
          clear hz0e
          go_wp2_with fail
          refine (errorf_A F a1 s1 wr.heap.size _ (by exact FW.out) (by go_simp) (by exact (SW.out.alloc _).2)).mono ?_
          rintro e w2 ⟨pb, rfl, hpb, hb2⟩
          go_wp2_with fail
          go_ret2
          exact ⟨pb, rfl, hpb, (hbel.out.alloc hsz _).trans (hb2.mono (by simp; omega))⟩
      · have hh := hdr_pos (rest.getD 0 0)
        have k1 := kc 1 (by omega)
        have k2 := kc 2 (by omega)
        have r1 := hrg 1 (by omega)
        have r2 := hrg 2 (by omega)
        by_cases hfit : hdr (rest.getD 0 0) + vlen rest ≤ rest.length
        · have hnext := round_next hlt hf hfit hrec.out
          by_cases hx : ext (rest.getD 0 0) = true
          · have hH : hdr (rest.getD 0 0) = 4 := by unfold hdr; rw [if_pos hx]
            rw [hH] at hfit hnext
            have k3 := kc 3 (by omega)
            have r3 := hrg 3 (by omega)
            have hN : (vlen rest : Int) = rest.getD 2 0 * 256 + rest.getD 3 0 := by unfold vlen; rw [if_pos hx]; omega
            have hxb : (bits BinOp.and IntKind.u8 (rest.getD 0 0) 16 != 0) = true := hx
            clear hx hH kc hrg hh hshort
            generalize hz0e : rest.getD 0 0 = z0 at *
            generalize hz1e : rest.getD 1 0 = z1 at *
            generalize hz2e : rest.getD 2 0 = z2 at *
            generalize hz3e : rest.getD 3 0 = z3 at *
            generalize hNe : vlen rest = N at *
            have HX : Hid (addTo (Q.map (·.1) ++ [(z0, z1, (rest.drop 4).take N)]) (recs (f - 1) (rest.drop (4 + N))) = none) := hnext
            have cU : ∀ wx : World, wx.cell? ⟨b, o + 2, none⟩ = some (.int .u8 z2) → wx.cell? ⟨b, o + 3, none⟩ = some (.int .u8 z3) → ∀ ll cc : Nat, 2 ≤ ll → Calls Ybaf.prog 9 #[.agg #[], .slice (some ⟨b, o + 2, none⟩) ll cc] wx fun e w' => e = .returned (.int .u16 (N : Nat)) ∧ Below wx.heap.size wx w' := by
              intro wx q2 q3 ll cc hll
              rw [hN]
              exact u16_any b (o + 2) ll cc z2 z3 wx hll q2 q3 r2 r3
            have hN1 : N ≤ 2000000 := by omega
            obtain ⟨A1, hA1, hA1p⟩ : ∃ A : Addr, (if c = 4 then some (⟨b, o, none⟩ : Addr) else some ⟨b, o + 4, none⟩) = some A ∧ Hid (4 < rest.length → A = ⟨b, o + 4, none⟩) := by
              by_cases h : c = 4
              · exact ⟨⟨b, o, none⟩, by simp [h], fun h' => by omega⟩
              · exact ⟨⟨b, o + 4, none⟩, by simp [h], fun _ => rfl⟩
            have CU := cU
            clear hz0e hz1e hz2e hz3e hNe hnext hN cU hrec
            go_wp2_with fail
            go_region
            all_goals go_wp2_with fail
            go_region_with (go_at_call 9; refine (CU _ (by go_simp) (by go_simp) _ _ (by omega)).mono ?_; rintro e w1 ⟨rfl, hb1⟩)
            all_goals
              obtain ⟨hs1, a0, a1', a2, fz, hbw1⟩ := a_block hb1
              have hrow := row_there hown.out hbw1.out
              have hrow' : Hid (∀ u o, ((w1.setCell ⟨wr.heap.size, 2, none⟩ u).alloc o).ownsRow w.heap.size 34 3 u4 Q.length (attCells Q)) := hrow
              clear hb1 CU k0 k1 k2 k3 hrow
              go_wp2_with ((at_builtin; refine wpList_append_own _ rfl (.tmp 62) (.tmp 64) 25 rfl w.heap.size 34 i0 _ 3 32 Ybaf.underlying25 hi hz0 hz1 hz2 rfl (by decide) _ _ _ rfl (hrow'.out _ _) ⟨_, 0, none⟩ 1 1 [.int .u8 z0, .int .u8 z1, .slice (some A1) N (c - 4)] rfl rfl (three_cells (by simp)) three_one (by unfold maxLen; omega) (by omega) (by simp; omega) ?_; intro v' w2 hown2 hgrow2 _))
              go_roundw
              case rel => exact Rel.next hblt HC.out hcap hfit (by omega) hA1p.out hvals.out (below_there hbel.out hbw1.out _ _) hown2 hown.out hgrow2 hf hlen hrng.out HX.out
              case measure => simp [lenOf]; omega
          · have hH : hdr (rest.getD 0 0) = 3 := by unfold hdr; rw [if_neg hx]
            rw [hH] at hfit hnext
            have hN : rest.getD 2 0 = (vlen rest : Int) := by unfold vlen; rw [if_neg hx]; omega
            have hxb : (bits BinOp.and IntKind.u8 (rest.getD 0 0) 16 != 0) = false := by
              have : ext (rest.getD 0 0) = false := by simpa using hx
              exact this
            rw [hN] at k2
            clear hx hH kc hrg hh r2 hshort
            generalize hz0e : rest.getD 0 0 = z0 at *
            generalize hz1e : rest.getD 1 0 = z1 at *
            generalize hNe : vlen rest = N at *
            have HX : Hid (addTo (Q.map (·.1) ++ [(z0, z1, (rest.drop 3).take N)]) (recs (f - 1) (rest.drop (3 + N))) = none) := hnext
            have hN1 : N ≤ 2000000 := by omega
            obtain ⟨A1, hA1, hA1p⟩ : ∃ A : Addr, (if c = 3 then some (⟨b, o, none⟩ : Addr) else some ⟨b, o + 3, none⟩) = some A ∧ Hid (3 < rest.length → A = ⟨b, o + 3, none⟩) := by
              by_cases h : c = 3
              · exact ⟨⟨b, o, none⟩, by simp [h], fun h' => by omega⟩
              · exact ⟨⟨b, o + 3, none⟩, by simp [h], fun _ => rfl⟩
            have hrow' : Hid (∀ o1 o2, ((wr.alloc o1).alloc o2).drew.ownsRow w.heap.size 34 3 u4 Q.length (attCells Q)) := fun o1 o2 => ((hown.out.alloc o1).alloc o2).drew
            clear hz0e hz1e hNe hnext hN hrec
            go_wp2_with fail
            go_region
            all_goals
              go_wp2_with ((at_builtin; refine wpList_append_own _ rfl (.tmp 62) (.tmp 64) 25 rfl w.heap.size 34 i0 _ 3 32 Ybaf.underlying25 hi hz0 hz1 hz2 rfl (by decide) _ _ _ rfl (hrow'.out _ _) ⟨_, 0, none⟩ 1 1 [.int .u8 z0, .int .u8 z1, .slice (some A1) N (c - 3)] rfl rfl (three_cells (by simp)) three_one (by unfold maxLen; omega) (by omega) (by simp; omega) ?_; intro v' w2 hown2 hgrow2 _))
              go_roundw
              case rel => exact Rel.next hblt HC.out hcap hfit (by omega) hA1p.out hvals.out (below_here hbel.out _ _) hown2 hown.out hgrow2 hf hlen hrng.out HX.out
              case measure => simp [lenOf]; omega
        · by_cases hx : ext (rest.getD 0 0) = true
          · have hH : hdr (rest.getD 0 0) = 4 := by unfold hdr; rw [if_pos hx]
            rw [hH] at hfit hshort
            have k3 := kc 3 (by omega)
            have r3 := hrg 3 (by omega)
            have hN : (vlen rest : Int) = rest.getD 2 0 * 256 + rest.getD 3 0 := by unfold vlen; rw [if_pos hx]; omega
            have hxb : (bits BinOp.and IntKind.u8 (rest.getD 0 0) 16 != 0) = true := hx
            clear hx hH kc hrg hh
            generalize hz0e : rest.getD 0 0 = z0 at *
            generalize hz1e : rest.getD 1 0 = z1 at *
            generalize hz2e : rest.getD 2 0 = z2 at *
            generalize hz3e : rest.getD 3 0 = z3 at *
            generalize hNe : vlen rest = N at *
            have cU : ∀ wx : World, wx.cell? ⟨b, o + 2, none⟩ = some (.int .u8 z2) → wx.cell? ⟨b, o + 3, none⟩ = some (.int .u8 z3) → ∀ ll cc : Nat, 2 ≤ ll → Calls Ybaf.prog 9 #[.agg #[], .slice (some ⟨b, o + 2, none⟩) ll cc] wx fun e w' => e = .returned (.int .u16 (N : Nat)) ∧ Below wx.heap.size wx w' := by
              intro wx q2 q3 ll cc hll
              rw [hN]
              exact u16_any b (o + 2) ll cc z2 z3 wx hll q2 q3 r2 r3
            have hN1 : N ≤ 2000000 := by omega
            have CU := cU
            clear hz0e hz1e hz2e hz3e hNe hN cU hrec
            go_wp2_with fail
            go_region
            all_goals go_wp2_with fail
            go_region_with (go_at_call 9; refine (CU _ (by go_simp) (by go_simp) _ _ (by omega)).mono ?_; rintro e w1 ⟨rfl, hb1⟩)
            all_goals
              obtain ⟨hs1, a0, a1', a2, fz, hbw1⟩ := a_block hb1
              have SW1 : Hid (Sent w1 a1 s1) := SW.out.below hbw1.out
              have FW1 : Hid (F.answers w1.tape) := by
                show F.answers w1.tape
                rw [hbw1.out.tape]
                exact FW.out
              have hg1 : w1.cell? ⟨0, 0, none⟩ = some (.iface 65 (.pointer (some a1))) := SW1.out.1
              clear hb1 CU k0 k1 k2 k3
              go_wp2_with fail
              refine (errorf_B F a1 s1 z1 N w1.heap.size _ (by exact FW1.out) (by go_simp) (by go_simp) (by go_simp) (by exact (SW1.out.alloc _).2)).mono ?_
              rintro e w2 ⟨pb, rfl, hpb, hb2⟩
              go_wp2_with fail
              go_ret2
              exact ⟨pb, rfl, hpb, ((hbel.out.trans (hbw1.out.mono hsz)).alloc (by omega) _).trans (hb2.mono (by simp; omega))⟩
          · have hH : hdr (rest.getD 0 0) = 3 := by unfold hdr; rw [if_neg hx]
            rw [hH] at hfit hshort
            have hN : rest.getD 2 0 = (vlen rest : Int) := by unfold vlen; rw [if_neg hx]; omega
            have hxb : (bits BinOp.and IntKind.u8 (rest.getD 0 0) 16 != 0) = false := by
              have : ext (rest.getD 0 0) = false := by simpa using hx
              exact this
            rw [hN] at k2 r2
            clear hx hH kc hrg hh
            generalize hz0e : rest.getD 0 0 = z0 at *
            generalize hz1e : rest.getD 1 0 = z1 at *
            generalize hNe : vlen rest = N at *
            have hN1 : N ≤ 2000000 := by omega
            clear hz0e hz1e hNe hN hrec
            go_wp2_with fail
            go_region
            all_goals
              go_wp2_with fail
              refine (errorf_B F a1 s1 z1 N (wr.heap.size + 1) _ (by exact FW.out) (by go_simp) (by go_simp) (by go_simp) (by exact (((SW.out.alloc _).drew).alloc _).2)).mono ?_
              rintro e w2 ⟨pb, rfl, hpb, hb2⟩
              go_wp2_with fail
              go_ret2
              exact ⟨pb, rfl, hpb, (below_here hbel.out _ _).trans (hb2.mono (by simp; omega))⟩
    · have hnil : rest = [] := by cases rest with | nil => rfl | cons a r => simp at hlt
      subst hnil
      have := hrec.out
      rw [recs_nil, addTo_some] at this
      cases this
end Go.Proofs.YbulkgpsFmt
