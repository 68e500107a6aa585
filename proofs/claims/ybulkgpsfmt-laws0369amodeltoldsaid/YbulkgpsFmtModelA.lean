/-
  DERIVED. LawS0369AModel: the positions that its first loop finds, and the three rows that hold them.
-/
import Derived.Test.YbulkgpsFmtTripB
import Derived.Test.YbulkgpsFmtParse2
import Derived.Test.YbulkgpsFmtIs
import Derived.Maps.AppendAt
namespace Go.Proofs.YbulkgpsFmt
open Go.RowKit Go.Extern.Stop Go.Stop Go.Extern

theorem info3 : (Ybaf.prog.info? 3).map (fun i => (i.zero, i.size, i.bytes)) = some (some (.int .i64 0), 1, 8) := by kernel_rfl

/-- A record's place: its start, its header's length, its value's length. -/
abbrev Pos := Nat × Nat × Nat
def tri (zs : List Int) (p : Pos) : Rec := (zs.getD p.1 0, zs.getD (p.1 + 1) 0, (zs.drop (p.1 + p.2.1)).take p.2.2)

theorem getD_drop (zs : List Int) (i j : Nat) : (zs.drop i).getD j 0 = zs.getD (i + j) 0 := by
  simp [List.getD, List.getElem?_drop]

theorem pos_next {f i : Nat} {zs : List Int} {R : Option (List Rec)} {P : List Pos} {h n : Nat} (hlt : i < zs.length) (hf : zs.length - i ≤ f) (hh : hdr (zs.getD i 0) = h) (hn : vlen (zs.drop i) = n)
    (hfit : i + h + n ≤ zs.length) (hrec : addTo (P.map (tri zs)) (recs f (zs.drop i)) = R) :
    addTo ((P ++ [(i, h, n)]).map (tri zs)) (recs (f - 1) (zs.drop (i + (h + n)))) = R := by
  have hl : (zs.drop i).length = zs.length - i := by simp
  have e0 : (zs.drop i).getD 0 0 = zs.getD i 0 := by rw [getD_drop, Nat.add_zero]
  have h1 := round_next (rest := zs.drop i) (f := f) (acc := P.map (tri zs)) (R := R) (by omega) (by omega) (by rw [e0, hh, hn, hl]; omega) hrec
  rw [e0, hh, hn, getD_drop, List.drop_drop, List.drop_drop] at h1
  rw [List.map_append]
  exact h1

/-- Two slices that do not lie in one block. -/
def Apart (u v : Value) : Prop := ∀ k, u.ownBlock = some k → v.ownBlock = some k → False
theorem Apart.symm {u v : Value} (h : Apart u v) : Apart v u := fun k h1 h2 => h k h2 h1

theorem other_kept {w w2 : World} {o : Obj} {u u' v : Value} {B e size n : Nat} {xs : List Value} (hv : w.ownsRow B e size v n xs) (hA : Apart u v) (hg : (w.alloc o).grownBy w2 u.ownBlock)
    (hat : u'.ownBlock = u.ownBlock ∨ u'.ownBlock = some (w.alloc o).heap.size) : w2.ownsRow B e size v n xs ∧ Apart u' v := by
  refine ⟨(hv.alloc o).kept hg ?_, ?_⟩
  · cases hb : v.ownBlock with
    | none => exact Or.inl rfl
    | some k => exact Or.inr (fun e => hA k e.symm hb)
  · intro k hu hvk
    rcases hat with h | h
    · exact hA k (h ▸ hu) hvk
    · have h1 := (hv.lt k hvk).2
      rw [h] at hu
      have h2 := Option.some.inj hu
      simp at h2
      omega

/-- The three rows. -/
def Rows3 (B : Nat) (w : World) (P : List Pos) (u3 u4 u5 : Value) : Prop :=
  w.ownsRow B 3 1 u3 P.length (P.map fun p => .int .i64 (p.1 : Nat)) ∧ w.ownsRow B 3 1 u4 P.length (P.map fun p => .int .i64 (p.2.1 : Nat)) ∧ w.ownsRow B 3 1 u5 P.length (P.map fun p => .int .i64 ((p.1 + p.2.1 + p.2.2 : Nat) : Int)) ∧
    Apart u3 u4 ∧ Apart u3 u5 ∧ Apart u4 u5

theorem Rows3.next {B i h n : Nat} {w w2 w3 w4 : World} {P : List Pos} {u3 u4 u5 v3 v4 v5 x3 x4 x5 : Value} {o3 o4 o5 : Obj} (hR : Rows3 B w P u3 u4 u5)
    (h3 : w2.ownsRow B 3 1 v3 (P.length + 1) ((P.map fun p => Value.int .i64 (p.1 : Nat)) ++ [x3])) (g3 : (w.alloc o3).grownBy w2 u3.ownBlock) (t3 : v3.ownBlock = u3.ownBlock ∨ v3.ownBlock = some (w.alloc o3).heap.size) (e3 : x3 = .int .i64 (i : Nat))
    (h4 : w3.ownsRow B 3 1 v4 (P.length + 1) ((P.map fun p => Value.int .i64 (p.2.1 : Nat)) ++ [x4])) (g4 : (w2.alloc o4).grownBy w3 u4.ownBlock) (t4 : v4.ownBlock = u4.ownBlock ∨ v4.ownBlock = some (w2.alloc o4).heap.size) (e4 : x4 = .int .i64 (h : Nat))
    (h5 : w4.ownsRow B 3 1 v5 (P.length + 1) ((P.map fun p => Value.int .i64 ((p.1 + p.2.1 + p.2.2 : Nat) : Int)) ++ [x5])) (g5 : (w3.alloc o5).grownBy w4 u5.ownBlock) (t5 : v5.ownBlock = u5.ownBlock ∨ v5.ownBlock = some (w3.alloc o5).heap.size) (e5 : x5 = .int .i64 ((i + h + n : Nat) : Int)) :
    Rows3 B w4 (P ++ [(i, h, n)]) v3 v4 v5 := by
  subst e3 e4 e5
  obtain ⟨_, r4, r5, a34, a35, a45⟩ := hR
  obtain ⟨k4, b34⟩ := other_kept r4 a34 g3 t3
  obtain ⟨k5, b35⟩ := other_kept r5 a35 g3 t3
  obtain ⟨l3, c43⟩ := other_kept h3 b34.symm g4 t4
  obtain ⟨l5, c45⟩ := other_kept k5 a45 g4 t4
  obtain ⟨m3, d53⟩ := other_kept l3 b35.symm g5 t5
  obtain ⟨m4, d54⟩ := other_kept h4 c45.symm g5 t5
  refine ⟨by simpa using m3, by simpa using m4, by simpa using h5, c43.symm, d53.symm, d54.symm⟩

theorem Rows3.below {B : Nat} {w w' : World} {P : List Pos} {u3 u4 u5 : Value} (h : Rows3 B w P u3 u4 u5) (hb : Below w.heap.size w w') : Rows3 B w' P u3 u4 u5 :=
  ⟨owns_below h.1 hb, owns_below h.2.1 hb, owns_below h.2.2.1 hb, h.2.2.2⟩

theorem row_at {B : Nat} {w : World} {v : Value} {P : List Pos} {g : Pos → Value} (h : w.ownsRow B 3 1 v P.length (P.map g)) {k : Nat} {p : Pos} (hp : P[k]? = some p) :
    ∃ b c, v = .slice (some ⟨b, 0, none⟩) P.length c ∧ b < w.heap.size ∧ w.cell? ⟨b, k, none⟩ = some (g p) := by
  have hk := (List.getElem?_eq_some_iff.1 hp).1
  rcases h.2 with ⟨_, hn⟩ | ⟨b, cap, cur, hv, hb, hg, hl, _⟩
  · omega
  · refine ⟨b, cap, hv, (Array.getElem?_eq_some_iff.1 hg).1, ?_⟩
    subst hv
    rw [h.cellAt k (by omega)]
    simp [hp]

/-- The first loop's relation. -/
def Rel1 (w : World) (zs : List Int) (R : Option (List Rec)) (u3 u4 u5 u6 u7 : Value) (wr : World) : Prop :=
  ∃ (P : List Pos) (i f : Nat), u6 = .bool true ∧ u7 = .int .i64 (i : Nat) ∧ i ≤ zs.length ∧ zs.length - i ≤ f ∧ P.length ≤ i ∧ (∀ p ∈ P, 3 ≤ p.2.1 ∧ p.1 + p.2.1 + p.2.2 ≤ zs.length) ∧
    Rows3 w.heap.size wr P u3 u4 u5 ∧ Below w.heap.size w wr ∧ addTo (P.map (tri zs)) (recs f (zs.drop i)) = R

theorem Rel1.start (w : World) (zs : List Int) : Rel1 w zs (recs zs.length zs) (.slice none 0 0) (.slice none 0 0) (.slice none 0 0) (.bool true) (.int .i64 0) w :=
  ⟨[], 0, zs.length, rfl, rfl, Nat.zero_le _, by omega, by simp, (fun p hp => by simp at hp), ⟨World.ownsRow_nil _ _ _ _, World.ownsRow_nil _ _ _ _, World.ownsRow_nil _ _ _ _, (fun k h => by cases h), (fun k h => by cases h), (fun k h => by cases h)⟩, Below.refl _ _, by rw [List.map_nil, addTo_nil, List.drop_zero]⟩

theorem Rel1.next {w w4 : World} {zs : List Int} {R : Option (List Rec)} {P : List Pos} {i f h n : Nat} {v3 v4 v5 x7 : Value} (hlt : i < zs.length) (hf : zs.length - i ≤ f) (hle : P.length ≤ i)
    (hall : ∀ p ∈ P, 3 ≤ p.2.1 ∧ p.1 + p.2.1 + p.2.2 ≤ zs.length) (hh : hdr (zs.getD i 0) = h) (hn : vlen (zs.drop i) = n) (hfit : i + h + n ≤ zs.length) (hrec : addTo (P.map (tri zs)) (recs f (zs.drop i)) = R)
    (hR : Rows3 w.heap.size w4 (P ++ [(i, h, n)]) v3 v4 v5) (hb : Below w.heap.size w w4) (e7 : x7 = .int .i64 ((i + (h + n) : Nat) : Int)) : Rel1 w zs R v3 v4 v5 (.bool true) x7 w4 := by
  have h3 : 3 ≤ h := hh ▸ (hdr_pos _).1
  refine ⟨P ++ [(i, h, n)], i + (h + n), f - 1, rfl, e7, by omega, by omega, by simp; omega, ?_, hR, hb, pos_next hlt hf hh hn hfit hrec⟩
  intro p hp
  rcases List.mem_append.1 hp with h | h
  · exact hall p h
  · simp at h
    subst h
    exact ⟨h3, hfit⟩

/-- The two octets of a length, as the law joins them. -/
theorem or_i64 (y x : Int) (hy₀ : 0 ≤ y) (hy : y < 256) (hx₀ : 0 ≤ x) (hx : x < 256) : bits BinOp.or IntKind.i64 (x * 256) y = x * 256 + y :=
  bits_join .i64 16 (by decide) (fun n h0 h1 => by rw [IntKind.wrap_i64]; omega) 8 (x * 256) y (by omega) (by omega) (by omega) hy₀ (by omega) (by omega)

theorem tri_at {zs : List Int} {Q : List Att} {P : List Pos} (h : Q.map (·.1) = P.map (tri zs)) {k : Nat} {p : Pos} (hp : P[k]? = some p) : ∃ q, Q[k]? = some q ∧ q.1 = tri zs p := by
  have hl : Q.length = P.length := by have := congrArg List.length h; simpa using this
  have hk := (List.getElem?_eq_some_iff.1 hp).1
  refine ⟨Q[k]'(by omega), List.getElem?_eq_getElem _, ?_⟩
  have h1 : (Q.map (·.1))[k]? = (P.map (tri zs))[k]? := by rw [h]
  simpa [List.getElem?_map, hp, List.getElem?_eq_getElem (show k < Q.length by omega)] using h1

theorem hide {p : Prop} (h : p) : Hid p := h

theorem below3 {B : Nat} {w wr w2 w3 w4 : World} {P : List Pos} {u3 u4 u5 : Value} {o3 o4 o5 : Obj} (hbel : Below B w wr) (hsz : B ≤ wr.heap.size) (hR : Rows3 B wr P u3 u4 u5)
    (g3 : (wr.alloc o3).grownBy w2 u3.ownBlock) (g4 : (w2.alloc o4).grownBy w3 u4.ownBlock) (g5 : (w3.alloc o5).grownBy w4 u5.ownBlock) : Below B w w4 := by
  have s1 : B ≤ (wr.alloc o3).heap.size := by simp; omega
  have b2 := (hbel.alloc hsz o3).grown g3 s1 (fun k hk => (hR.1.lt k hk).1)
  have s2 : B ≤ w2.heap.size := Nat.le_trans s1 g3.size
  have s2' : B ≤ (w2.alloc o4).heap.size := by simp; omega
  have b3 := (b2.alloc s2 o4).grown g4 s2' (fun k hk => (hR.2.1.lt k hk).1)
  have s3 : B ≤ w3.heap.size := Nat.le_trans s2' g4.size
  have s3' : B ≤ (w3.alloc o5).heap.size := by simp; omega
  exact (b3.alloc s3 o5).grown g5 s3' (fun k hk => (hR.2.2.1.lt k hk).1)

theorem grown_le {B : Nat} {wr w2 : World} {o : Obj} {row : Option Nat} (h : B ≤ wr.heap.size) (g : (wr.alloc o).grownBy w2 row) : B ≤ w2.heap.size :=
  Nat.le_trans (by simp; omega) g.size

theorem int_one {x : Int} : ∀ u ∈ [Value.int .i64 x], u.oneCell' = true := by
  intro u hu; simp at hu; subst hu; rfl

theorem row_shape {B : Nat} {w : World} {v : Value} {n : Nat} {xs : List Value} (h : w.ownsRow B 3 1 v n xs) : ∃ ao ac, v = .slice ao n ac := by
  rcases h.2 with ⟨hv, hn⟩ | ⟨g, cap, cur, hv, _⟩
  · exact ⟨none, 0, by rw [hv, hn]⟩
  · exact ⟨_, _, hv⟩
end Go.Proofs.YbulkgpsFmt
