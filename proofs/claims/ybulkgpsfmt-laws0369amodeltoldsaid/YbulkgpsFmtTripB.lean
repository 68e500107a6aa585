/-
  DERIVED. LawS0369ARoundTrip: the walk.
-/
import Derived.Test.YbulkgpsFmtTripA
namespace Go.Proofs.YbulkgpsFmt
open Go.RowKit Go.Extern.Stop Go.Stop Go.Extern

/-- The lengths of the first k values are at most 4096. -/
def Short (Q : List Att) (k : Nat) : Prop := ∀ q ∈ Q.take k, q.1.2.2.length ≤ 4096

theorem Short.next {Q : List Att} {k : Nat} {q : Att} (h : Short Q k) (hq : Q[k]? = some q) (hl : q.1.2.2.length ≤ 4096) : Short Q (k + 1) := by
  intro p hp
  obtain ⟨hk, he⟩ := List.getElem?_eq_some_iff.1 hq
  rw [List.take_succ_eq_append_getElem hk] at hp
  rcases List.mem_append.1 hp with hp | hp
  · exact h p hp
  · simp at hp
    subst hp
    rw [he]; exact hl

/-- What has been encoded of the first k attributes. -/
def Enc (Q : List Att) (k : Nat) : List Int := encAll ((Q.take k).map (·.1))

/-- The row of flags: every cell is there and may be written; the first k are as they shall be. -/
def FlagsRow (w : World) (g : Nat) (Q : List Att) (k : Nat) : Prop :=
  (∀ j, j < Q.length → (w.cell? ⟨g, j, none⟩).isSome = true ∧ w.frozen? ⟨g, j, none⟩ = false) ∧ ∀ j q, j < k → Q[j]? = some q → w.cell? ⟨g, j, none⟩ = some (.int .u8 (fix q.1).1)

def Rel2 (w : World) (Q : List Att) (bv kv : Value) (wr : World) : Prop :=
  ∃ k : Nat, k ≤ Q.length ∧ kv = .int .i64 k ∧ wr.ownsRow (w.heap.size + 1) 5 1 bv (Enc Q k).length ((Enc Q k).map (Value.int .u8)) ∧ FlagsRow wr w.heap.size Q k ∧ Below w.heap.size w wr ∧ w.heap.size < wr.heap.size

theorem made_flags {w w0 : World} {n : Nat} {xs : List Value} (h : w0.ownsRow w.heap.size 5 1 (.slice (some ⟨w.heap.size, 0, none⟩) n n) n xs) (Q : List Att) (hn : Q.length = n) : FlagsRow w0 w.heap.size Q 0 := by
  refine ⟨fun j hj => ?_, fun j q hj => by omega⟩
  have hlen := h.1
  have hc := h.cells (g := w.heap.size) rfl
  have hjx : j < xs.length := by omega
  have h1 := hc j xs[j] (List.getElem?_eq_getElem hjx)
  rw [show (⟨w.heap.size, 0, none⟩ : Addr).add j = ⟨w.heap.size, j, none⟩ by cases j <;> simp [Addr.add]] at h1
  refine ⟨by rw [h1]; rfl, ?_⟩
  rcases h.2 with ⟨hv, _⟩ | ⟨g, cap, cur, hv, hb, hg, _⟩
  · simp at hv
  · simp at hv
    obtain ⟨rfl, _⟩ := hv
    simp [World.frozen?, hg]

/-- From the store of a flag on: an append onto the buffer, out of a new block. -/
theorem chain1 {w wr w2 : World} {k n : Nat} {u bv : Value} {xs : List Value} {o1 : Obj} (hsz : w.heap.size < wr.heap.size) (hown : wr.ownsRow (w.heap.size + 1) 5 1 bv n xs)
    (hg : ((wr.setCell ⟨w.heap.size, k, none⟩ u).alloc o1).grownBy w2 bv.ownBlock) : Below (w.heap.size + 1) (wr.setCell ⟨w.heap.size, k, none⟩ u) w2 := by
  have h0 : w.heap.size + 1 ≤ (wr.setCell ⟨w.heap.size, k, none⟩ u).heap.size := by simp [World.setCell]; omega
  have h1 := (Below.refl (w.heap.size + 1) (wr.setCell ⟨w.heap.size, k, none⟩ u)).alloc h0 o1
  exact h1.grown hg (by simp [World.setCell]; omega) (fun k hk => (hown.lt k hk).1)

theorem chain2 {W w2 w3 : World} {B n : Nat} {v : Value} {xs : List Value} {o : Obj} (h : Below B W w2) (hB : B ≤ w2.heap.size) (hown : w2.ownsRow B 5 1 v n xs) (hg : (w2.alloc o).grownBy w3 v.ownBlock) : Below B W w3 := by
  have h1 := h.alloc hB o
  exact h1.grown hg (by simp; omega) (fun k hk => (hown.lt k hk).1)

theorem chain3 {W w3 w4 : World} {B n : Nat} {v : Value} {xs : List Value} (h : Below B W w3) (hB : B ≤ w3.heap.size) (hown : w3.ownsRow B 5 1 v n xs) (hg : w3.grownBy w4 v.ownBlock) : Below B W w4 :=
  h.grown hg hB (fun k hk => (hown.lt k hk).1)

theorem two_cells {w : World} {x y : Value} {t : TypeId} {n : Nat} (hn : n = w.heap.size) : ∀ j u, [x, y][j]? = some u → (w.alloc (.cells #[x, y] t)).cell? ((⟨n, 0, none⟩ : Addr).add j) = some u := by
  intro j u hj
  subst hn
  match j, hj with
  | 0, hj => simp at hj; subst hj; simp [Addr.add]
  | 1, hj => simp at hj; subst hj; simp [Addr.add]
  | j + 2, hj => simp at hj

theorem one_cell {w : World} {x : Value} {t : TypeId} {n : Nat} (hn : n = w.heap.size) : ∀ j u, [x][j]? = some u → (w.alloc (.cells #[x] t)).cell? ((⟨n, 0, none⟩ : Addr).add j) = some u := by
  intro j u hj
  subst hn
  match j, hj with
  | 0, hj => simp at hj; subst hj; simp [Addr.add]
  | j + 1, hj => simp at hj

theorem two_one {x y : Int} : ∀ u ∈ [Value.int .u8 x, .int .u8 y], u.oneCell' = true := by
  intro u hu; simp at hu; rcases hu with rfl | rfl <;> rfl
theorem one_one {x : Int} : ∀ u ∈ [Value.int .u8 x], u.oneCell' = true := by
  intro u hu; simp at hu; subst hu; rfl

theorem ne_off {p q : Addr} (h : p.off ≠ q.off) : p ≠ q := fun e => h (by rw [e])
theorem ne_block {p q : Addr} (h : p.block ≠ q.block) : p ≠ q := fun e => h (by rw [e])

theorem enc1_A {r : Rec} (h : 255 < r.2.2.length) (h0 : 0 ≤ r.1 ∧ r.1 ≤ 255) : enc1 r = [setExt r.1, r.2.1] ++ [(r.2.2.length : Int) / 256, (r.2.2.length : Int) % 256] ++ r.2.2 := by
  have e : fixF r.1 r.2.2.length = setExt r.1 := by unfold fixF; rw [if_pos h]
  unfold enc1 lenB
  rw [e, if_pos (setExt_ok r.1 h0.1 h0.2).1]
theorem enc1_B {r : Rec} (h : ¬ 255 < r.2.2.length) (hx : ext r.1 = true) : enc1 r = [r.1, r.2.1] ++ [(r.2.2.length : Int) / 256, (r.2.2.length : Int) % 256] ++ r.2.2 := by
  have e : fixF r.1 r.2.2.length = r.1 := by unfold fixF; rw [if_neg h]
  unfold enc1 lenB
  rw [e, if_pos hx]
theorem enc1_C {r : Rec} (h : ¬ 255 < r.2.2.length) (hx : ext r.1 = false) : enc1 r = [r.1, r.2.1] ++ [(r.2.2.length : Int)] ++ r.2.2 := by
  have e : fixF r.1 r.2.2.length = r.1 := by unfold fixF; rw [if_neg h]
  unfold enc1 lenB
  rw [e, if_neg (by simp [hx])]

/-- The flags behind the store. -/
theorem FlagsRow.put {w : World} {g : Nat} {Q : List Att} {k : Nat} {q : Att} (h : FlagsRow w g Q k) (hq : Q[k]? = some q) : FlagsRow (w.setCell ⟨g, k, none⟩ (.int .u8 (fix q.1).1)) g Q (k + 1) := by
  have hk : k < Q.length := (List.getElem?_eq_some_iff.1 hq).1
  obtain ⟨old, hold⟩ := Option.isSome_iff_exists.1 (h.1 k hk).1
  refine ⟨fun j hj => ⟨?_, ?_⟩, fun j p hj hp => ?_⟩
  · by_cases e : j = k
    · subst e; rw [World.cell?_setCell_same _ _ _ hold]; rfl
    · rw [World.cell?_setCell_other _ _ _ _ (ne_off (fun h => e h.symm))]; exact (h.1 j hj).1
  · rw [World.frozen?_setCell]; exact (h.1 j hj).2
  · by_cases e : j = k
    · subst e
      rw [hq] at hp
      cases hp
      exact World.cell?_setCell_same _ _ _ hold
    · rw [World.cell?_setCell_other _ _ _ _ (ne_off (fun h => e h.symm))]; exact h.2 j p (by omega) hp

theorem FlagsRow.below {w w' : World} {B g : Nat} {Q : List Att} {k : Nat} (h : FlagsRow w g Q k) (hb : Below B w w') (hg : g < B) : FlagsRow w' g Q k :=
  ⟨fun j hj => by rw [hb.cell (p := ⟨g, j, none⟩) hg, hb.frozen (p := ⟨g, j, none⟩) hg]; exact h.1 j hj, fun j q hj hq => by rw [hb.cell (p := ⟨g, j, none⟩) hg]; exact h.2 j q hj hq⟩

theorem Enc_succ {Q : List Att} {k : Nat} {q : Att} (hq : Q[k]? = some q) : Enc Q (k + 1) = Enc Q k ++ enc1 q.1 := by
  obtain ⟨hk, he⟩ := List.getElem?_eq_some_iff.1 hq
  unfold Enc
  rw [List.take_succ_eq_append_getElem hk, List.map_append, List.map_cons, List.map_nil, encAll_snoc, he]

theorem good_all {w : World} {a : Option Addr} {Q : List Att} (h : AsIn w a Q) (hs : Short Q Q.length) : ∀ r ∈ Q.map (·.1), Good r := by
  intro r hr
  obtain ⟨q, hq, rfl⟩ := List.mem_map.1 hr
  obtain ⟨k, hk⟩ := List.mem_iff_getElem?.1 hq
  obtain ⟨_, _, q', _, _, hq', _, _, _, _, _, r0, r1, rz⟩ := h.at (List.getElem?_eq_some_iff.1 hk).1
  rw [hk] at hq'
  cases hq'
  exact ⟨r0, r1, rz, hs q (by rw [List.take_length]; exact hq)⟩

theorem Enc_le {Q : List Att} (hg : ∀ r ∈ Q.map (·.1), Good r) (hn : Q.length ≤ 256) (k : Nat) : (Enc Q k).length ≤ 1049600 := by
  have h := encAll_le ((Q.take k).map (·.1)) (fun r hr => by
    obtain ⟨q, hq, rfl⟩ := List.mem_map.1 hr
    exact hg _ (List.mem_map.2 ⟨q, List.mem_of_mem_take hq, rfl⟩))
  unfold Enc
  have : ((Q.take k).map (·.1)).length ≤ 256 := by simp; omega
  omega

/-- A round's end. -/
theorem Rel2.next {w wr w4 : World} {Q : List Att} {k : Nat} {q : Att} {v3 : Value} (hk : k < Q.length) (hq : Q[k]? = some q) (hfl : FlagsRow wr w.heap.size Q k) (hbel : Below w.heap.size w wr) (hsz : w.heap.size < wr.heap.size)
    (hb : Below (w.heap.size + 1) (wr.setCell ⟨w.heap.size, k, none⟩ (.int .u8 (fix q.1).1)) w4)
    {n : Nat} {xs : List Value} (hown : w4.ownsRow (w.heap.size + 1) 5 1 v3 n xs) (hn : n = (Enc Q k ++ enc1 q.1).length) (hxs : xs = (Enc Q k ++ enc1 q.1).map (Value.int .u8)) : Rel2 w Q v3 (.int .i64 ((k : Int) + 1)) w4 := by
  subst hn hxs
  refine ⟨k + 1, by omega, by go_num, by rw [Enc_succ hq]; exact hown, (hfl.put hq).below hb (by omega), (hbel.setCell (Nat.le_refl _) _).trans (hb.mono (by omega)), ?_⟩
  have := hb.size
  simp [World.setCell] at this
  omega

theorem Byts.drewN {w : World} {v : Value} {bs : List Int} (h : Byts w v bs) (n : Nat) : Byts (w.drewN n) v bs := h

theorem byts_owned {w : World} {B : Nat} {v : Value} {bs : List Int} (h : w.ownsRow B 5 1 v bs.length (bs.map (Value.int .u8))) : Byts w v bs := by
  rcases h.2 with ⟨hv, hn⟩ | ⟨g, cap, cur, hv, hb, hg, hl, _⟩
  · have hbs : bs = [] := List.length_eq_zero_iff.1 hn
    subst hbs
    exact ⟨none, 0, by rw [hv]; rfl, Nat.le_refl _, Or.inl rfl⟩
  · refine ⟨some ⟨g, 0, none⟩, cap, hv, hl, Or.inr ⟨g, 0, rfl, (Array.getElem?_eq_some_iff.1 hg).1, fun i hi => ?_⟩⟩
    have hc := h.cells (g := g) (by rw [hv]; rfl) i (.int .u8 (bs.getD i 0)) (by simp [List.getD, hi])
    rwa [show (⟨g, 0, none⟩ : Addr).add i = ⟨g, 0 + i, none⟩ by cases i <;> simp [Addr.add]] at hc

theorem Attrs.shape {B : Nat} {w : World} {av : Value} {Q : List Att} (h : Attrs B w av Q) : ∃ ao ac, av = .slice ao Q.length ac := by
  rcases h.1.2 with ⟨hv, hn⟩ | ⟨g, cap, cur, hv, _⟩
  · exact ⟨none, 0, by rw [hv, hn]⟩
  · exact ⟨_, _, hv⟩

theorem Enc_all (Q : List Att) : Enc Q Q.length = encAll (Q.map (·.1)) := by unfold Enc; rw [List.take_length]

theorem fix_at {Q Q2 : List Att} (h : Q2.map (·.1) = (Q.map (·.1)).map fix) {k : Nat} {q : Att} (hq : Q[k]? = some q) : ∃ q2, Q2[k]? = some q2 ∧ q2.1 = fix q.1 := by
  have hl : Q2.length = Q.length := by have := congrArg List.length h; simpa using this
  have hk := (List.getElem?_eq_some_iff.1 hq).1
  refine ⟨Q2[k]'(by omega), List.getElem?_eq_getElem _, ?_⟩
  have h1 : (Q2.map (·.1))[k]? = ((Q.map (·.1)).map fix)[k]? := by rw [h]
  simpa [List.getElem?_map, hq, List.getElem?_eq_getElem (show k < Q2.length by omega)] using h1

set_option maxRecDepth 100000 in
set_option maxHeartbeats 4000000 in
theorem trip_any (a : Option Addr) (cap : Nat) (Q : List Att) (w : World) (hin : AsIn w a Q) :
    Calls Ybaf.prog 4 #[.slice a Q.length cap] w fun e w' => e = .returned (.bool true) ∧ Below w.heap.size w w' := by
  obtain ⟨i5, hi, hz0, hz1, hz2⟩ := info_parts info5
  have HI : Hid (AsIn w a Q) := hin
  clear hin
  by_cases hbig : 256 < Q.length
  · go_enter Ybaf.func4, Ybaf.ntmps4
    go_wp2
    go_ret
    exact ⟨rfl, Below.refl _ _⟩
  · go_enter Ybaf.func4, Ybaf.ntmps4
    go_wp2
    go_loop [3] (fun i => ∃ k : Nat, k ≤ Q.length ∧ i = .int .i64 k ∧ Hid (Short Q k)) (fun i => Q.length - (intOf i).toNat)
    case atStart => exact ⟨0, Nat.zero_le _, rfl, fun q hq => by simp at hq⟩
    case round =>
      obtain ⟨k, hk, rfl, hsh⟩ := hrel
      by_cases hlt : k < Q.length
      · obtain ⟨b, o, q, rfl, hb, hq, c0, c1, c2, hby, hnice, r0, r1, rz⟩ := HI.out.at hlt
        obtain ⟨sa, c, hqv, hcc, hcells⟩ := hby
        rw [hqv] at c2
        clear hcells c0 c1 r0 r1 rz hnice
        have HQ : Hid (Q[k]? = some q) := hq
        clear hq hqv
        go_wp2_with fail
        · go_ret
          exact ⟨rfl, Below.refl _ _⟩
        · go_round
          case rel => exact ⟨k + 1, by omega, by go_num, hsh.out.next HQ.out (by omega)⟩
          case measure => simp [intOf]; omega
      · have hfull : Hid (Short Q Q.length) := by
          have e : k = Q.length := by omega
          subst e; exact hsh
        clear hsh
        go_wp2_with (at_make; refine wpList_make_full _ rfl _ _ 22 rfl w.heap.size 5 i5 (.int .u8 0) 1 Ybaf.underlying22 hi hz0 hz1 _ _ _ _ Q.length rfl rfl rfl rfl (by rw [hz2]; omega) (by unfold maxLen; omega) (Nat.le_refl _) ?_)
        intro w0 hown0 hgrow0
        have HF : Hid (FlagsRow w0 w.heap.size Q 0) := made_flags hown0 Q rfl
        have hb0 : Hid (Below w.heap.size w w0) := (Below.refl _ _).grown hgrow0 (Nat.le_refl _) (fun k h => by cases h)
        have hs0 : w.heap.size < w0.heap.size := (hown0.lt w.heap.size rfl).2
        clear hown0 hgrow0 hk hlt
        go_wp2
        go_loopw [4, 6] (fun bv kv wr => Rel2 w Q bv kv wr) (fun _ i _ => Q.length - (intOf i).toNat)
        case atStart => exact ⟨0, Nat.zero_le _, rfl, World.ownsRow_nil _ _ _ _, HF.out, hb0.out, hs0⟩
        case round =>
          obtain ⟨k, hk, rfl, hown0, hfl0, hbel0, hsz⟩ := hrel
          have hown : Hid (wr.ownsRow (w.heap.size + 1) 5 1 u4 (Enc Q k).length ((Enc Q k).map (Value.int .u8))) := hown0
          have hfl : Hid (FlagsRow wr w.heap.size Q k) := hfl0
          have hbel : Hid (Below w.heap.size w wr) := hbel0
          clear hown0 hfl0 hbel0
          by_cases hlt : k < Q.length
          · obtain ⟨b, o, q, rfl, hb, hq, c0, c1, c2, hby, hnice, r0, r1, rz⟩ := HI.out.at hlt
            have hle : q.1.2.2.length ≤ 4096 := hfull.out q (by rw [List.take_length]; exact List.mem_of_getElem? hq)
            have HQ : Hid (Q[k]? = some q) := hq
            have hby' := hby
            obtain ⟨sa, c, hqv, hcc, hcells⟩ := hby
            rw [hqv] at c2 hby' hnice
            have HBY : Hid (Byts w (.slice sa q.1.2.2.length c) q.1.2.2) := hby'
            have HNI : Hid (Nice (.slice sa q.1.2.2.length c)) := hnice
            have d0 := (hbel.out.cell (p := ⟨b, o + k * 3, none⟩) hb).trans c0
            have d1 := (hbel.out.cell (p := ⟨b, o + k * 3 + 1, none⟩) hb).trans c1
            have d2 := (hbel.out.cell (p := ⟨b, o + k * 3 + 2, none⟩) hb).trans c2
            have d1' : ∀ u, (wr.setCell ⟨w.heap.size, k, none⟩ u).cell? ⟨b, o + k * 3 + 1, none⟩ = some (.int .u8 q.1.2.1) := fun u => by
              rw [World.cell?_setCell_other _ _ _ _ (ne_block (fun e => by have e' : w.heap.size = b := e; omega))]; exact d1
            obtain ⟨old, hold⟩ := Option.isSome_iff_exists.1 (hfl.out.1 k hlt).1
            have hfz := (hfl.out.1 k hlt).2
            clear hnice hby' hq hqv hcells c0 c1 c2
            have hO1 : Hid (∀ u ob, ((wr.setCell ⟨w.heap.size, k, none⟩ u).alloc ob).ownsRow (w.heap.size + 1) 5 1 u4 (Enc Q k).length ((Enc Q k).map (Value.int .u8))) := fun u ob => (ownsRow_setCell_below hown.out (by simp) u).alloc ob
            have hEl := Enc_le (good_all HI.out hfull.out) (by omega) k
            by_cases hl : 255 < q.1.2.2.length
            · have hx : (bits BinOp.and IntKind.u8 (bits BinOp.or IntKind.u8 q.1.1 16) 16 != 0) = true := (setExt_ok q.1.1 r0.1 r0.2).1
              have hF : Hid ((fix q.1).1 = bits BinOp.or IntKind.u8 q.1.1 16) := by show fixF _ _ = _; unfold fixF; rw [if_pos hl]; rfl
              have HE : Hid (enc1 q.1 = _) := enc1_A hl r0
              generalize hEe : (Enc Q k).length = EL at *
              have HEe : Hid ((Enc Q k).length = EL) := hEe
              clear hEe
              go_wp2_with (first | (at_builtin; refine wpList_append_own _ rfl (.tmp 56) (.tmp 63) 22 rfl (w.heap.size + 1) 5 i5 (.int .u8 0) 1 1 Ybaf.underlying22 hi hz0 hz1 hz2 rfl (by decide) _ _ _ rfl (hO1.out _ _) ⟨_, 0, none⟩ 2 2 [_, _] rfl rfl (two_cells (by simp)) two_one (by unfold maxLen; omega) (by omega) (by simp; omega) ?_; intro v1 w2 hown1 hgrow1 _; have cb1 := chain1 hsz hown.out hgrow1; have hs2 : w.heap.size + 1 ≤ w2.heap.size := Nat.le_trans (by simp [World.setCell]; omega) cb1.size) | (at_builtin; refine wpList_append_own _ rfl (.tmp 68) (.tmp 76) 22 rfl (w.heap.size + 1) 5 i5 (.int .u8 0) 1 1 Ybaf.underlying22 hi hz0 hz1 hz2 rfl (by decide) _ _ _ rfl (hown1.alloc _) ⟨_, 0, none⟩ 2 2 [_, _] rfl rfl (two_cells (by simp)) two_one (by unfold maxLen; omega) (by omega) (by simp; omega) ?_; intro v2 w3 hown2 hgrow2 _; have cb2 := chain2 cb1 hs2 hown1 hgrow2; have hs3 : w.heap.size + 1 ≤ w3.heap.size := Nat.le_trans (by simp [World.setCell]; omega) cb2.size) | (at_builtin; refine wpList_append_byts rfl (.tmp 84) (.tmp 85) rfl (w.heap.size + 1) i5 hi hz0 hz1 hz2 _ _ _ rfl hown2 _ q.1.2.2 rfl (by exact HBY.out.below ((hbel.out.setCell (Nat.le_refl _) _).trans (cb2.mono (by omega)))) (by exact HNI.out) (by omega) hs3 ?_; intro v3 w4 hown3 hgrow3; have cb3 := chain3 cb2 hs3 hown2 hgrow3))
              go_roundw
              case rel => exact Rel2.next hlt HQ.out hfl.out hbel.out hsz (hF.out ▸ cb3) hown3 (by rw [HE.out, List.length_append, HEe.out]; simp; omega) (by rw [HE.out]; simp [setExt])
              case measure => simp [intOf]; omega
            · have hF : Hid ((fix q.1).1 = q.1.1) := by show fixF _ _ = _; unfold fixF; rw [if_neg hl]
              by_cases hxx : ext q.1.1 = true
              · have hx : (bits BinOp.and IntKind.u8 q.1.1 16 != 0) = true := hxx
                have HE : Hid (enc1 q.1 = _) := enc1_B hl hxx
                clear hxx
                generalize hEe : (Enc Q k).length = EL at *
                have HEe : Hid ((Enc Q k).length = EL) := hEe
                clear hEe
                go_wp2_with (first | (at_builtin; refine wpList_append_own _ rfl (.tmp 56) (.tmp 63) 22 rfl (w.heap.size + 1) 5 i5 (.int .u8 0) 1 1 Ybaf.underlying22 hi hz0 hz1 hz2 rfl (by decide) _ _ _ rfl (hO1.out _ _) ⟨_, 0, none⟩ 2 2 [_, _] rfl rfl (two_cells (by simp)) two_one (by unfold maxLen; omega) (by omega) (by simp; omega) ?_; intro v1 w2 hown1 hgrow1 _; have cb1 := chain1 hsz hown.out hgrow1; have hs2 : w.heap.size + 1 ≤ w2.heap.size := Nat.le_trans (by simp [World.setCell]; omega) cb1.size) | (at_builtin; refine wpList_append_own _ rfl (.tmp 68) (.tmp 76) 22 rfl (w.heap.size + 1) 5 i5 (.int .u8 0) 1 1 Ybaf.underlying22 hi hz0 hz1 hz2 rfl (by decide) _ _ _ rfl (hown1.alloc _) ⟨_, 0, none⟩ 2 2 [_, _] rfl rfl (two_cells (by simp)) two_one (by unfold maxLen; omega) (by omega) (by simp; omega) ?_; intro v2 w3 hown2 hgrow2 _; have cb2 := chain2 cb1 hs2 hown1 hgrow2; have hs3 : w.heap.size + 1 ≤ w3.heap.size := Nat.le_trans (by simp [World.setCell]; omega) cb2.size) | (at_builtin; refine wpList_append_byts rfl (.tmp 84) (.tmp 85) rfl (w.heap.size + 1) i5 hi hz0 hz1 hz2 _ _ _ rfl hown2 _ q.1.2.2 rfl (by exact HBY.out.below ((hbel.out.setCell (Nat.le_refl _) _).trans (cb2.mono (by omega)))) (by exact HNI.out) (by omega) hs3 ?_; intro v3 w4 hown3 hgrow3; have cb3 := chain3 cb2 hs3 hown2 hgrow3))
                go_roundw
                case rel => exact Rel2.next hlt HQ.out hfl.out hbel.out hsz (hF.out ▸ cb3) hown3 (by rw [HE.out, List.length_append, HEe.out]; simp; omega) (by rw [HE.out]; simp; omega)
                case measure => simp [intOf]; omega
              · have hxf : ext q.1.1 = false := by simpa using hxx
                have hx : (bits BinOp.and IntKind.u8 q.1.1 16 != 0) = false := hxf
                have HE : Hid (enc1 q.1 = _) := enc1_C hl hxf
                clear hxx hxf
                generalize hEe : (Enc Q k).length = EL at *
                have HEe : Hid ((Enc Q k).length = EL) := hEe
                clear hEe
                go_wp2_with (first | (at_builtin; refine wpList_append_own _ rfl (.tmp 56) (.tmp 63) 22 rfl (w.heap.size + 1) 5 i5 (.int .u8 0) 1 1 Ybaf.underlying22 hi hz0 hz1 hz2 rfl (by decide) _ _ _ rfl (hO1.out _ _) ⟨_, 0, none⟩ 2 2 [_, _] rfl rfl (two_cells (by simp)) two_one (by unfold maxLen; omega) (by omega) (by simp; omega) ?_; intro v1 w2 hown1 hgrow1 _; have cb1 := chain1 hsz hown.out hgrow1; have hs2 : w.heap.size + 1 ≤ w2.heap.size := Nat.le_trans (by simp [World.setCell]; omega) cb1.size) | (at_builtin; refine wpList_append_own _ rfl (.tmp 78) (.tmp 82) 22 rfl (w.heap.size + 1) 5 i5 (.int .u8 0) 1 1 Ybaf.underlying22 hi hz0 hz1 hz2 rfl (by decide) _ _ _ rfl (hown1.alloc _) ⟨_, 0, none⟩ 1 1 [_] rfl rfl (one_cell (by simp)) one_one (by unfold maxLen; omega) (by omega) (by simp; omega) ?_; intro v2 w3 hown2 hgrow2 _; have cb2 := chain2 cb1 hs2 hown1 hgrow2; have hs3 : w.heap.size + 1 ≤ w3.heap.size := Nat.le_trans (by simp [World.setCell]; omega) cb2.size) | (at_builtin; refine wpList_append_byts rfl (.tmp 84) (.tmp 85) rfl (w.heap.size + 1) i5 hi hz0 hz1 hz2 _ _ _ rfl hown2 _ q.1.2.2 rfl (by exact HBY.out.below ((hbel.out.setCell (Nat.le_refl _) _).trans (cb2.mono (by omega)))) (by exact HNI.out) (by omega) hs3 ?_; intro v3 w4 hown3 hgrow3; have cb3 := chain3 cb2 hs3 hown2 hgrow3))
                go_roundw
                case rel => exact Rel2.next hlt HQ.out hfl.out hbel.out hsz (hF.out ▸ cb3) hown3 (by rw [HE.out, List.length_append, HEe.out]; simp; omega) (by rw [HE.out]; simp)
                case measure => simp [intOf]; omega
          · have ek : k = Q.length := by omega
            have hgood := good_all HI.out hfull.out
            have hE : Hid (Byts wr u4 (Enc Q Q.length)) := byts_owned (ek ▸ hown.out)
            have hfl' : Hid (FlagsRow wr w.heap.size Q Q.length) := ek ▸ hfl.out
            have hEl := Enc_le hgood (by omega) Q.length
            have hpz : Hid (∀ z ∈ Enc Q Q.length, 0 ≤ z ∧ z ≤ 255) := by
              show ∀ z ∈ Enc Q Q.length, 0 ≤ z ∧ z ≤ 255
              rw [Enc_all]; exact encAll_range _ hgood
            have hpr : Hid (recs (Enc Q Q.length).length (Enc Q Q.length) = some ((Q.map (·.1)).map fix)) := by
              show recs _ _ = _
              rw [Enc_all]; exact recs_enc _ _ hgood (Nat.le_refl _)
            clear hgood ek hown hfl
            go_wp2_with fail
            refine (parse_ok u4 (Enc Q Q.length) _ wr hE.out hpz.out (by omega) hpr.out).mono ?_
            rintro e w5 ⟨av, Q2, rfl, hat, hQ2, hb5⟩
            have hl2 : Q2.length = Q.length := by have := congrArg List.length hQ2; simpa using this
            obtain ⟨ao, ac, hav⟩ := hat.shape
            subst hav
            have HA : Hid (Attrs wr.heap.size w5 (.slice ao Q2.length ac) Q2) := hat
            have HQ2 : Hid (Q2.map (·.1) = (Q.map (·.1)).map fix) := hQ2
            have hbw5 : Hid (Below w.heap.size w w5) := hbel.out.trans (hb5.mono hbel.out.size)
            have hfl5 : Hid (FlagsRow w5 w.heap.size Q Q.length) := hfl'.out.below hb5 hsz
            rw [hl2] at HA
            clear hat hQ2 hb5 hfl' hE hpz hpr hEl hk hlt
            rw [hl2]
            go_wp2_with fail
            go_loopw [11] (fun i w6 => ∃ (k nq : Nat), k ≤ Q.length ∧ i = .int .i64 k ∧ w6 = w5.drewN nq) (fun i _ => Q.length - (intOf i).toNat)
            case atStart => exact ⟨0, 0, Nat.zero_le _, rfl, rfl⟩
            case round =>
              obtain ⟨k, nq, hk, rfl, rfl⟩ := hrel
              by_cases hlt : k < Q.length
              · obtain ⟨b, o, q, rfl, hb, hq, c0, c1, c2, hby, hnice, r0, r1, rz⟩ := HI.out.at hlt
                obtain ⟨q2, hq2, hfix⟩ := fix_at HQ2.out hq
                obtain ⟨g, cg, hgv, hglt, a0, a1, a2, aby⟩ := HA.out.at hq2
                simp only [Value.slice.injEq] at hgv
                obtain ⟨rfl, hjunk, rfl⟩ := hgv
                clear hjunk
                have f0 := hfl5.out.2 k q hlt hq
                rw [hfix] at a0 a1 aby
                have d1 := (hbw5.out.cell (p := ⟨b, o + k * 3 + 1, none⟩) hb).trans c1
                have d2 := (hbw5.out.cell (p := ⟨b, o + k * 3 + 2, none⟩) hb).trans c2
                have B1 : Hid (Byts w5 q2.2 q.1.2.2) := aby
                have B2 : Hid (Byts w5 q.2 q.1.2.2) := hby.below hbw5.out
                have a1' : w5.cell? ⟨g, k * 3 + 1, none⟩ = some (.int .u8 q.1.2.1) := a1
                clear c0 c1 c2 hby hnice r0 r1 rz hq hq2 aby a1 hfix
                generalize (fix q.1).1 = F at *
                generalize q.1.2.1 = T at *
                generalize q.1.2.2 = BS at *
                generalize q.2 = V at *
                generalize q2.2 = V2 at *
                go_wp2_with fail
                go_quiet (fail)
                go_wp2_with fail
                go_quiet ((go_at_call 7; refine (equal_same _ _ BS _ (B1.out.drewN _) (B2.out.drewN _)).mono ?_; rintro e w'' ⟨rfl, rfl⟩; exact ⟨rfl, _, rfl⟩))
                go_wp2_with fail
                go_roundw
                case rel => exact ⟨k + 1, _, by omega, by go_num, rfl⟩
                case measure => simp [intOf]; omega
              · go_wp2_with fail
                go_ret
                exact ⟨rfl, below_drewN hbw5.out _⟩
end Go.Proofs.YbulkgpsFmt
