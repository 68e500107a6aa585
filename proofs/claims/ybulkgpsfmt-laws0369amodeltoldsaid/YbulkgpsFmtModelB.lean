/-
  DERIVED. LawS0369AModel: the walk.
-/
import Derived.Test.YbulkgpsFmtModelA
namespace Go.Proofs.YbulkgpsFmt
open Go.RowKit Go.Extern.Stop Go.Stop Go.Extern

theorem nilRow (w : World) : (binOp .eql 25 (.slice none 0 0) (.slice none 0 0)).run Ybaf.prog w = .ok (.bool true) w := by kernel_rfl

set_option maxRecDepth 100000 in
set_option maxHeartbeats 4000000 in
theorem model_any (F : Interp) (a1 : Addr) (s1 : ByteArray) (a : Option Addr) (cap : Nat) (zs : List Int) (w : World) (hF : F.answers w.tape) (hS : Sent w a1 s1) (hv : Byts w (.slice a zs.length cap) zs) (hz : ∀ z ∈ zs, 0 ≤ z ∧ z ≤ 255) :
    Calls Ybaf.prog 3 #[.slice a zs.length cap] w fun e w' => e = .returned (.bool true) ∧ Below w.heap.size w w' := by
  obtain ⟨i3, hi, hz0, hz1, hz2⟩ := info_parts info3
  have HV : Hid (Byts w (.slice a zs.length cap) zs) := hv
  have HZ : Hid (∀ z ∈ zs, 0 ≤ z ∧ z ≤ 255) := hz
  have HF : Hid (F.answers w.tape) := hF
  have HS : Hid (Sent w a1 s1) := hS
  clear hz hF hS hv
  by_cases hbig : 4096 < zs.length
  · go_enter Ybaf.func3, Ybaf.ntmps3
    go_wp2
    go_ret
    exact ⟨rfl, Below.refl _ _⟩
  · go_enter Ybaf.func3, Ybaf.ntmps3
    go_wp2
    go_loopw [3, 4, 5, 6, 7] (fun u3 u4 u5 u6 u7 wr => Rel1 w zs (recs zs.length zs) u3 u4 u5 u6 u7 wr) (fun _ _ _ _ i _ => zs.length - (intOf i).toNat)
    case atStart => exact Rel1.start w zs
    case round =>
      obtain ⟨P, i, f, rfl, rfl, hile, hf, hPl, hall0, hrows0, hbel0, hrec0⟩ := hrel
      have hrows : Hid (Rows3 w.heap.size wr P u3 u4 u5) := hrows0
      have hall : Hid (∀ p ∈ P, 3 ≤ p.2.1 ∧ p.1 + p.2.1 + p.2.2 ≤ zs.length) := hall0
      have hbel : Hid (Below w.heap.size w wr) := hbel0
      have hrec : Hid (addTo (P.map (tri zs)) (recs f (zs.drop i)) = recs zs.length zs) := hrec0
      clear hrows0 hall0 hbel0 hrec0
      have hsz : w.heap.size ≤ wr.heap.size := hbel.out.size
      have SW : Hid (Sent wr a1 s1) := HS.out.below hbel.out
      have FW : Hid (F.answers wr.tape) := by
        show F.answers wr.tape
        rw [hbel.out.tape]
        exact HF.out
      have HVr : Hid (Byts wr (.slice a zs.length cap) zs) := HV.out.below hbel.out
      by_cases hlt : i < zs.length
      · obtain ⟨b, o, c', hveq, hcap, hblt, hcell⟩ := HV.out.cells (by omega)
        simp only [Value.slice.injEq] at hveq
        obtain ⟨rfl, _, rfl⟩ := hveq
        have kc : ∀ j, i + j < zs.length → wr.cell? ⟨b, o + (i + j), none⟩ = some (.int .u8 (zs.getD (i + j) 0)) := fun j hj => (hbel.out.cell (p := ⟨b, o + (i + j), none⟩) hblt).trans (hcell _ hj)
        have hrg : ∀ j, i + j < zs.length → 0 ≤ zs.getD (i + j) 0 ∧ zs.getD (i + j) 0 ≤ 255 := fun j hj => HZ.out _ (mem_getD hj)
        have k0 := kc 0 hlt
        have r0 := hrg 0 hlt
        rw [Nat.add_zero] at k0 r0
        have hd : (zs.drop i).length = zs.length - i := by simp
        have hd0 : (zs.drop i).getD 0 0 = zs.getD i 0 := by rw [getD_drop, Nat.add_zero]
        by_cases hshort : zs.length - i < hdr (zs.getD i 0)
        · have HR : Hid (recs zs.length zs = none) := by
            show recs zs.length zs = none
            rw [← hrec.out, recs_short (by omega) (by omega) (by rw [hd0]; omega), addTo_none]
          by_cases hx : ext (zs.getD i 0) = true
          · have hH : hdr (zs.getD i 0) = 4 := by unfold hdr; rw [if_pos hx]
            rw [hH] at hshort
            have hxb : (bits BinOp.and IntKind.u8 (zs.getD i 0) 16 != 0) = true := hx
            clear hx hH kc hrg hrec hd hd0
            generalize hz0e : zs.getD i 0 = z0 at *
            clear hz0e
            go_wp2_with fail
            refine (parse_err F a1 s1 _ zs wr FW.out SW.out HVr.out HZ.out (by omega) HR.out).mono ?_
            rintro e w5 ⟨pb, rfl, hpb, hb5⟩
            have hg5 : w5.cell? ⟨0, 0, none⟩ = some (.iface 65 (.pointer (some a1))) := (SW.out.below hb5).1
            have hnil := nilRow w5
            go_wp2_with fail
            refine (is_wrap_same pb 0 a1 _ hpb).mono ?_
            rintro e w6 ⟨rfl, rfl⟩
            go_wp2_with fail
            go_ret
            exact ⟨rfl, hbel.out.trans (hb5.mono hsz)⟩
          · have hH : hdr (zs.getD i 0) = 3 := by unfold hdr; rw [if_neg hx]
            rw [hH] at hshort
            have hxb : (bits BinOp.and IntKind.u8 (zs.getD i 0) 16 != 0) = false := by
              have : ext (zs.getD i 0) = false := by simpa using hx
              exact this
            clear hx hH kc hrg hrec hd hd0
            generalize hz0e : zs.getD i 0 = z0 at *
            clear hz0e
            go_wp2_with fail
            refine (parse_err F a1 s1 _ zs wr FW.out SW.out HVr.out HZ.out (by omega) HR.out).mono ?_
            rintro e w5 ⟨pb, rfl, hpb, hb5⟩
            have hg5 : w5.cell? ⟨0, 0, none⟩ = some (.iface 65 (.pointer (some a1))) := (SW.out.below hb5).1
            have hnil := nilRow w5
            go_wp2_with fail
            refine (is_wrap_same pb 0 a1 _ hpb).mono ?_
            rintro e w6 ⟨rfl, rfl⟩
            go_wp2_with fail
            go_ret
            exact ⟨rfl, hbel.out.trans (hb5.mono hsz)⟩
        · have hh := hdr_pos (zs.getD i 0)
          have k2 := kc 2 (by omega)
          have r2 := hrg 2 (by omega)
          have k1 := kc 1 (by omega)
          by_cases hfit : i + hdr (zs.getD i 0) + vlen (zs.drop i) ≤ zs.length
          · by_cases hx : ext (zs.getD i 0) = true
            · have hH : hdr (zs.getD i 0) = 4 := by unfold hdr; rw [if_pos hx]
              rw [hH] at hfit hshort
              have k3 := kc 3 (by omega)
              have r3 := hrg 3 (by omega)
              have hN : zs.getD (i + 2) 0 * 256 + zs.getD (i + 3) 0 = (vlen (zs.drop i) : Int) := by unfold vlen; rw [hd0, getD_drop, getD_drop, if_pos hx]; omega
              have hor := or_i64 (zs.getD (i + 3) 0) (zs.getD (i + 2) 0) (by omega) (by omega) (by omega) (by omega)
              rw [hN] at hor
              have hxb : (bits BinOp.and IntKind.u8 (zs.getD i 0) 16 != 0) = true := hx
              have hO3 : Hid (∀ ob, (wr.alloc ob).ownsRow w.heap.size 3 1 u3 P.length (P.map fun p => Value.int .i64 (p.1 : Nat))) := fun ob => hrows.out.1.alloc ob
              have HH : Hid (hdr (zs.getD i 0) = 4) := hH
              generalize hNe : vlen (zs.drop i) = N at *
              have HNe : Hid (vlen (zs.drop i) = N) := hNe
              clear hx hH kc hrg hd hd0 hNe hh
              generalize hz0e : zs.getD i 0 = z0 at *
              generalize hz2e : zs.getD (i + 2) 0 = z2 at *
              generalize hz3e : zs.getD (i + 3) 0 = z3 at *
              have HZ0 := hide hz0e
              clear hz0e hz2e hz3e hN
              go_wp2_with (first | (at_builtin; refine wpList_append_own_at _ rfl (.tmp 58) (.tmp 60) 23 rfl w.heap.size 3 i3 (.int .i64 0) 1 8 Ybaf.underlying23 hi hz0 hz1 hz2 rfl (by decide) _ _ _ rfl (hO3.out _) ⟨_, 0, none⟩ 1 1 [_] rfl rfl (one_cell (by simp)) int_one (by unfold maxLen; omega) (by omega) (by simp; omega) ?_; intro v3 w2 hown3 hg3 _ ht3; have H3 := hide hown3; have G3 := hide hg3; have T3 := hide ht3; have hs2 : w.heap.size ≤ w2.heap.size := grown_le hsz hg3; have O4 := hide (other_kept hrows.out.2.1 hrows.out.2.2.2.1 hg3 ht3).1; have O5 := hide (other_kept hrows.out.2.2.1 hrows.out.2.2.2.2.1 hg3 ht3).1; clear hown3 hg3 ht3) | (at_builtin; refine wpList_append_own_at _ rfl (.tmp 62) (.tmp 64) 23 rfl w.heap.size 3 i3 (.int .i64 0) 1 8 Ybaf.underlying23 hi hz0 hz1 hz2 rfl (by decide) _ _ _ rfl (O4.out.alloc _) ⟨_, 0, none⟩ 1 1 [_] rfl rfl (one_cell (by simp)) int_one (by unfold maxLen; omega) (by omega) (by simp; omega) ?_; intro v4 w3 hown4 hg4 _ ht4; have H4 := hide hown4; have G4 := hide hg4; have T4 := hide ht4; have hs3 : w.heap.size ≤ w3.heap.size := grown_le hs2 hg4; have O5' := hide (other_kept O5.out hrows.out.2.2.2.2.2 hg4 ht4).1; clear hown4 hg4 ht4) | (at_builtin; refine wpList_append_own_at _ rfl (.tmp 66) (.tmp 72) 23 rfl w.heap.size 3 i3 (.int .i64 0) 1 8 Ybaf.underlying23 hi hz0 hz1 hz2 rfl (by decide) _ _ _ rfl (O5'.out.alloc _) ⟨_, 0, none⟩ 1 1 [_] rfl rfl (one_cell (by simp)) int_one (by unfold maxLen; omega) (by omega) (by simp; omega) ?_; intro v5 w4 hown5 hg5 _ ht5; have H5 := hide hown5; have G5 := hide hg5; have T5 := hide ht5; clear hown5 hg5 ht5))
              go_roundw
              case rel => exact Rel1.next hlt hf hPl hall.out (by rw [HZ0.out]; exact HH.out) HNe.out (by omega) hrec.out (Rows3.next hrows.out H3.out G3.out T3.out rfl H4.out G4.out T4.out rfl H5.out G5.out T5.out (by go_num)) (below3 hbel.out hsz hrows.out G3.out G4.out G5.out) (by go_num)
              case measure => simp [intOf]; omega
            · have hH : hdr (zs.getD i 0) = 3 := by unfold hdr; rw [if_neg hx]
              rw [hH] at hfit hshort
              have hN : zs.getD (i + 2) 0 = (vlen (zs.drop i) : Int) := by unfold vlen; rw [hd0, getD_drop, if_neg hx]; omega
              have hxb : (bits BinOp.and IntKind.u8 (zs.getD i 0) 16 != 0) = false := by
                have : ext (zs.getD i 0) = false := by simpa using hx
                exact this
              have hO3 : Hid (∀ ob, (wr.alloc ob).ownsRow w.heap.size 3 1 u3 P.length (P.map fun p => Value.int .i64 (p.1 : Nat))) := fun ob => hrows.out.1.alloc ob
              have HH : Hid (hdr (zs.getD i 0) = 3) := hH
              rw [hN] at k2 r2
              generalize hNe : vlen (zs.drop i) = N at *
              have HNe : Hid (vlen (zs.drop i) = N) := hNe
              clear hx hH kc hrg hd hd0 hNe hh hN
              generalize hz0e : zs.getD i 0 = z0 at *
              have HZ0 := hide hz0e
              clear hz0e
              go_wp2_with (first | (at_builtin; refine wpList_append_own_at _ rfl (.tmp 58) (.tmp 60) 23 rfl w.heap.size 3 i3 (.int .i64 0) 1 8 Ybaf.underlying23 hi hz0 hz1 hz2 rfl (by decide) _ _ _ rfl (hO3.out _) ⟨_, 0, none⟩ 1 1 [_] rfl rfl (one_cell (by simp)) int_one (by unfold maxLen; omega) (by omega) (by simp; omega) ?_; intro v3 w2 hown3 hg3 _ ht3; have H3 := hide hown3; have G3 := hide hg3; have T3 := hide ht3; have hs2 : w.heap.size ≤ w2.heap.size := grown_le hsz hg3; have O4 := hide (other_kept hrows.out.2.1 hrows.out.2.2.2.1 hg3 ht3).1; have O5 := hide (other_kept hrows.out.2.2.1 hrows.out.2.2.2.2.1 hg3 ht3).1; clear hown3 hg3 ht3) | (at_builtin; refine wpList_append_own_at _ rfl (.tmp 62) (.tmp 64) 23 rfl w.heap.size 3 i3 (.int .i64 0) 1 8 Ybaf.underlying23 hi hz0 hz1 hz2 rfl (by decide) _ _ _ rfl (O4.out.alloc _) ⟨_, 0, none⟩ 1 1 [_] rfl rfl (one_cell (by simp)) int_one (by unfold maxLen; omega) (by omega) (by simp; omega) ?_; intro v4 w3 hown4 hg4 _ ht4; have H4 := hide hown4; have G4 := hide hg4; have T4 := hide ht4; have hs3 : w.heap.size ≤ w3.heap.size := grown_le hs2 hg4; have O5' := hide (other_kept O5.out hrows.out.2.2.2.2.2 hg4 ht4).1; clear hown4 hg4 ht4) | (at_builtin; refine wpList_append_own_at _ rfl (.tmp 66) (.tmp 72) 23 rfl w.heap.size 3 i3 (.int .i64 0) 1 8 Ybaf.underlying23 hi hz0 hz1 hz2 rfl (by decide) _ _ _ rfl (O5'.out.alloc _) ⟨_, 0, none⟩ 1 1 [_] rfl rfl (one_cell (by simp)) int_one (by unfold maxLen; omega) (by omega) (by simp; omega) ?_; intro v5 w4 hown5 hg5 _ ht5; have H5 := hide hown5; have G5 := hide hg5; have T5 := hide ht5; clear hown5 hg5 ht5))
              go_roundw
              case rel => exact Rel1.next hlt hf hPl hall.out (by rw [HZ0.out]; exact HH.out) HNe.out (by omega) hrec.out (Rows3.next hrows.out H3.out G3.out T3.out rfl H4.out G4.out T4.out rfl H5.out G5.out T5.out (by go_num)) (below3 hbel.out hsz hrows.out G3.out G4.out G5.out) (by go_num)
              case measure => simp [intOf]; omega
          · have HR : Hid (recs zs.length zs = none) := by
              show recs zs.length zs = none
              rw [← hrec.out, recs_past (by omega) (by omega) (by rw [hd0]; omega), addTo_none]
            by_cases hx : ext (zs.getD i 0) = true
            · have hH : hdr (zs.getD i 0) = 4 := by unfold hdr; rw [if_pos hx]
              rw [hH] at hfit hshort
              have k3 := kc 3 (by omega)
              have r3 := hrg 3 (by omega)
              have hN : zs.getD (i + 2) 0 * 256 + zs.getD (i + 3) 0 = (vlen (zs.drop i) : Int) := by unfold vlen; rw [hd0, getD_drop, getD_drop, if_pos hx]; omega
              have hor := or_i64 (zs.getD (i + 3) 0) (zs.getD (i + 2) 0) (by omega) (by omega) (by omega) (by omega)
              rw [hN] at hor
              have hxb : (bits BinOp.and IntKind.u8 (zs.getD i 0) 16 != 0) = true := hx
              have hNb : vlen (zs.drop i) ≤ 70000 := by omega
              generalize hNe : vlen (zs.drop i) = N at *
              clear hx hH kc hrg hd hd0 hNe hh hrec
              generalize hz0e : zs.getD i 0 = z0 at *
              generalize hz2e : zs.getD (i + 2) 0 = z2 at *
              generalize hz3e : zs.getD (i + 3) 0 = z3 at *
              clear hz0e hz2e hz3e hN
              go_wp2_with fail
              refine (parse_err F a1 s1 _ zs wr FW.out SW.out HVr.out HZ.out (by omega) HR.out).mono ?_
              rintro e w5 ⟨pb, rfl, hpb, hb5⟩
              have hg5 : w5.cell? ⟨0, 0, none⟩ = some (.iface 65 (.pointer (some a1))) := (SW.out.below hb5).1
              have hnil := nilRow w5
              go_wp2_with fail
              refine (is_wrap_same pb 0 a1 _ hpb).mono ?_
              rintro e w6 ⟨rfl, rfl⟩
              go_wp2_with fail
              go_ret
              exact ⟨rfl, hbel.out.trans (hb5.mono hsz)⟩
            · have hH : hdr (zs.getD i 0) = 3 := by unfold hdr; rw [if_neg hx]
              rw [hH] at hfit hshort
              have hN : zs.getD (i + 2) 0 = (vlen (zs.drop i) : Int) := by unfold vlen; rw [hd0, getD_drop, if_neg hx]; omega
              have hxb : (bits BinOp.and IntKind.u8 (zs.getD i 0) 16 != 0) = false := by
                have : ext (zs.getD i 0) = false := by simpa using hx
                exact this
              rw [hN] at k2 r2
              generalize hNe : vlen (zs.drop i) = N at *
              clear hx hH kc hrg hd hd0 hNe hh hN hrec
              generalize hz0e : zs.getD i 0 = z0 at *
              clear hz0e
              go_wp2_with fail
              refine (parse_err F a1 s1 _ zs wr FW.out SW.out HVr.out HZ.out (by omega) HR.out).mono ?_
              rintro e w5 ⟨pb, rfl, hpb, hb5⟩
              have hg5 : w5.cell? ⟨0, 0, none⟩ = some (.iface 65 (.pointer (some a1))) := (SW.out.below hb5).1
              have hnil := nilRow w5
              go_wp2_with fail
              refine (is_wrap_same pb 0 a1 _ hpb).mono ?_
              rintro e w6 ⟨rfl, rfl⟩
              go_wp2_with fail
              go_ret
              exact ⟨rfl, hbel.out.trans (hb5.mono hsz)⟩
      · have ei : i = zs.length := by omega
        have HR : Hid (recs zs.length zs = some (P.map (tri zs))) := by
          show recs zs.length zs = some (P.map (tri zs))
          rw [← hrec.out, ei, List.drop_length, recs_nil, addTo_some, List.append_nil]
        obtain ⟨a3, c3, hu3⟩ := row_shape hrows.out.1
        subst hu3
        clear ei hrec
        go_wp2_with fail
        refine (parse_ok _ zs _ wr HVr.out HZ.out (by omega) HR.out).mono ?_
        rintro e w5 ⟨av, Q, rfl, hat, hQ, hb5⟩
        have hl2 : Q.length = P.length := by have := congrArg List.length hQ; simpa using this
        obtain ⟨ao, ac, hav⟩ := hat.shape
        subst hav
        have HA : Hid (Attrs wr.heap.size w5 (.slice ao Q.length ac) Q) := hat
        have HQ : Hid (Q.map (·.1) = P.map (tri zs)) := hQ
        have hbw5 : Hid (Below w.heap.size w w5) := hbel.out.trans (hb5.mono hsz)
        have R5 : Hid (Rows3 w.heap.size w5 P (.slice a3 P.length c3) u4 u5) := hrows.out.below hb5
        have HV5 : Hid (Byts w5 (.slice a zs.length cap) zs) := HV.out.below hbw5.out
        rw [hl2] at HA
        clear hat hQ hb5 hrows
        rw [hl2]
        go_wp2_with fail
        go_loopw [12] (fun i w6 => ∃ (k nq : Nat), k ≤ P.length ∧ i = .int .i64 k ∧ w6 = w5.drewN nq) (fun i _ => P.length - (intOf i).toNat)
        case atStart => exact ⟨0, 0, Nat.zero_le _, rfl, rfl⟩
        case round =>
          obtain ⟨k, nq, hk, rfl, rfl⟩ := hrel
          by_cases hltk : k < P.length
          · obtain ⟨p, hp⟩ : ∃ p, P[k]? = some p := ⟨_, List.getElem?_eq_getElem hltk⟩
            obtain ⟨q, hq, hqt⟩ := tri_at HQ.out hp
            obtain ⟨hp3, hpe⟩ := hall.out p (List.mem_of_getElem? hp)
            obtain ⟨b, o, c', hveq, hcap, hblt, hcell⟩ := HV5.out.cells (by omega)
            simp only [Value.slice.injEq] at hveq
            obtain ⟨rfl, _, rfl⟩ := hveq
            obtain ⟨g, cg, hgv, hglt, a0, a1, a2, aby⟩ := HA.out.at hq
            simp only [Value.slice.injEq] at hgv
            obtain ⟨rfl, hjunk, rfl⟩ := hgv
            clear hjunk
            obtain ⟨b3, d3, hv3, hb3, hc3⟩ := row_at (g := fun p => Value.int .i64 (p.1 : Nat)) R5.out.1 hp
            simp only [Value.slice.injEq] at hv3
            obtain ⟨rfl, hjunk, rfl⟩ := hv3
            clear hjunk
            obtain ⟨b4, d4, hv4, hb4, hc4⟩ := row_at (g := fun p => Value.int .i64 (p.2.1 : Nat)) R5.out.2.1 hp
            subst hv4
            obtain ⟨b5, d5, hv5, hb5, hc5⟩ := row_at (g := fun p => Value.int .i64 ((p.1 + p.2.1 + p.2.2 : Nat) : Int)) R5.out.2.2.1 hp
            subst hv5
            rw [hqt] at a0 a1 aby
            have B1 : Hid (Byts w5 q.2 ((zs.drop (p.1 + p.2.1)).take p.2.2)) := aby
            have a0' : w5.cell? ⟨g, k * 3, none⟩ = some (.int .u8 (zs.getD p.1 0)) := a0
            have a1' : w5.cell? ⟨g, k * 3 + 1, none⟩ = some (.int .u8 (zs.getD (p.1 + 1) 0)) := a1
            have e0 := hcell p.1 (by omega)
            have e1 := hcell (p.1 + 1) (by omega)
            have HC := hide hcell
            clear aby a0 a1 hcell hqt hq hp
            obtain ⟨S, H, N⟩ := p
            dsimp only at *
            generalize zs.getD S 0 = z0 at *
            generalize zs.getD (S + 1) 0 = z1 at *
            generalize q.2 = V at *
            go_wp2_with fail
            go_quiet (fail)
            go_wp2_with fail
            obtain ⟨A1, hA1, hA1p⟩ : ∃ A : Addr, (if cap = S + H then some (⟨b, o, none⟩ : Addr) else some ⟨b, o + (S + H), none⟩) = some A ∧ Hid (S + H < zs.length → A = ⟨b, o + (S + H), none⟩) := by
              by_cases h : cap = S + H
              · exact ⟨⟨b, o, none⟩, by simp [h], fun h' => by omega⟩
              · exact ⟨⟨b, o + (S + H), none⟩, by simp [h], fun _ => rfl⟩
            have B2 : Hid (Byts w5 (.slice (some A1) N (cap - (S + H))) ((zs.drop (S + H)).take N)) := Byts.cut hblt HC.out (S + H) N (by omega) _ _ (by omega) (fun h => by rw [hA1p.out (by omega)])
            generalize (zs.drop (S + H)).take N = BS at *
            go_quiet ((go_at_call 7; refine (equal_same _ _ BS _ (B1.out.drewN _) (B2.out.drewN _)).mono ?_; rintro e w'' ⟨rfl, rfl⟩; exact ⟨rfl, _, rfl⟩))
            go_wp2_with fail
            go_roundw
            case rel => exact ⟨k + 1, _, by omega, by go_num, rfl⟩
            case measure => simp [intOf]; omega
          · go_wp2_with fail
            go_ret
            exact ⟨rfl, below_drewN hbw5.out _⟩
end Go.Proofs.YbulkgpsFmt
