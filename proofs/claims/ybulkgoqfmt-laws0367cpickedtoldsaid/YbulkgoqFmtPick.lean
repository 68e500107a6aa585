/-
  DERIVED. zzs0367cpick: some slice of strings, as long as what it picks from.
-/
import Derived.Test.YbulkgoqFmtValid
import Derived.OwnWalk
import Derived.Laws.Cover3
namespace Go.Proofs.YbulkgoqFmt
open Go.RowKit Go.Extern.Stop Go.Stop Go.Extern

theorem eqlNil (a : Option Addr) (l c : Nat) (w : World) : (binOp .eql 27 (.slice a l c) (.slice none 0 0)).run Ybaf.prog w = .ok (.bool a.isNone) w := by
  simp only [binOp]
  simp [run_equal_slice_nil w 27 5 a l c Ybaf.underlying27]

theorem info9 : (Ybaf.prog.info? 9).map (fun i => (i.zero, i.size, i.bytes)) = some (some (.string ⟨#[]⟩), 1, 16) := by kernel_rfl

/-- WHAT THE WALK IS TOLD OF A SLICE OF BYTES: it is nil, or its cells hold bytes. -/
def Byts (w : World) (a : Option Addr) (len : Nat) : Prop :=
  (a = none ∧ len = 0) ∨ ∃ x, a = some x ∧ ∀ i, i < len → ∃ b off z, x = ⟨b, off, none⟩ ∧ b < w.heap.size ∧ w.cell? ⟨b, off + i, none⟩ = some (.int .u8 z) ∧ 0 ≤ z ∧ z ≤ 255

theorem Byts.below {w w' : World} {a : Option Addr} {len : Nat} (h : Byts w a len) (hb : Below w.heap.size w w') : Byts w' a len := by
  rcases h with h | ⟨x, ha, hc⟩
  · exact Or.inl h
  · refine Or.inr ⟨x, ha, fun i hi => ?_⟩
    obtain ⟨b, off, z, hx, hlt, hcell, hz⟩ := hc i hi
    exact ⟨b, off, z, hx, Nat.lt_of_lt_of_le hlt hb.size, by rw [hb.cell (p := ⟨b, off + i, none⟩) hlt]; exact hcell, hz⟩

theorem strs_owned {w : World} {B k cap : Nat} {ss : List ByteArray} (h : w.ownsRow B 9 1 (.slice (some ⟨B, 0, none⟩) k cap) k (ss.map Value.string)) : Strs w (some ⟨B, 0, none⟩) ss := by
  refine Or.inr ⟨B, 0, rfl, (h.lt B rfl).2, fun i hi => ?_⟩
  have := h.cells (g := B) rfl i (.string (ss.getD i ByteArray.empty)) (by simp [List.getD, hi])
  rw [show (⟨B, 0, none⟩ : Addr).add i = ⟨B, 0 + i, none⟩ by cases i <;> simp [Addr.add]] at this
  exact this

theorem one_cell {w : World} {v : Value} {t : TypeId} : ∀ j u, [v][j]? = some u → (w.alloc (.cells #[v] t)).cell? ((⟨w.heap.size, 0, none⟩ : Addr).add j) = some u := by
  intro j u hj
  match j, hj with
  | 0, hj => simp at hj; subst hj; simp [Addr.add]

theorem len_snoc {ss : List ByteArray} {k : Nat} (h : ss.length = k) (s : ByteArray) : Hid ((ss ++ [s]).length = k + 1) := by
  show (ss ++ [s]).length = k + 1
  simp [h]

theorem one_str (s : ByteArray) : ∀ u ∈ [Value.string s], u.oneCell' = true := by
  intro u hu; simp at hu; subst hu; rfl

set_option maxRecDepth 100000 in
set_option maxHeartbeats 1000000 in
theorem pick_any (a : Option Addr) (len cap : Nat) (bad : ByteArray) (w : World) (hs : Byts w a len) (hm : len ≤ 1024) :
    Calls Ybaf.prog 15 #[.slice a len cap, .string bad] w fun e w' => ∃ a' cap' ss, e = .returned (.slice a' ss.length cap') ∧ Strs w' a' ss ∧ ss.length = len ∧ Below w.heap.size w w' := by
  have hnil := eqlNil
  rcases hs with ⟨rfl, rfl⟩ | ⟨x, rfl, hc⟩
  · go_enter Ybaf.func15, Ybaf.ntmps15
    go_wp2
    go_ret
    exact ⟨none, 0, [], rfl, Or.inl rfl, rfl, Below.refl _ _⟩
  · obtain ⟨i0, hi, hz0, hz1, hz2⟩ := info_parts info9
    have HC : Hid (∀ i, i < len → ∃ b off z, x = ⟨b, off, none⟩ ∧ b < w.heap.size ∧ w.cell? ⟨b, off + i, none⟩ = some (.int .u8 z) ∧ 0 ≤ z ∧ z ≤ 255) := hc
    clear hc
    go_enter Ybaf.func15, Ybaf.ntmps15
    go_wp2_with (at_make; refine wpList_make_own _ rfl _ _ 42 rfl w.heap.size 9 i0 (.string ⟨#[]⟩) 1 Ybaf.underlying42 hi hz0 hz1 _ _ _ len rfl rfl rfl (by rw [hz2]; omega) (by unfold maxLen; omega) (Nat.le_refl _) ?_)
    intro w0 hown0 hgrow0
    go_wp2
    go_loopw [5, 6] (fun out i wr => ∃ (k : Nat) (ss : List ByteArray), k ≤ len ∧ Hid (ss.length = k) ∧ i = .int .i64 k ∧ out = .slice (some ⟨w.heap.size, 0, none⟩) k len ∧ wr.ownsRow w.heap.size 9 1 (.slice (some ⟨w.heap.size, 0, none⟩) k len) k (ss.map Value.string) ∧ Below w.heap.size w wr)
      (fun _ i _ => len - (intOf i).toNat)
    case atStart => exact ⟨0, [], Nat.zero_le _, rfl, rfl, rfl, hown0, (Below.refl _ _).grown hgrow0 (Nat.le_refl _) (fun k h => by cases h)⟩
    case round =>
      obtain ⟨k, ss, hk, hss, rfl, rfl, hown, hnx⟩ := hrel
      by_cases hlt : k < len
      · obtain ⟨b, off, z, rfl, hb, hcell, hz1', hz2'⟩ := HC.out k hlt
        have g : wr.cell? ⟨b, off + k, none⟩ = some (.int .u8 z) := (hnx.cell (p := ⟨b, off + k, none⟩) hb).trans hcell
        clear hcell
        go_wp2_with (first
          | (at_builtin; refine wpList_append_fits _ rfl (.tmp 30) (.tmp 31) 42 rfl w.heap.size 9 i0 1 Ybaf.underlying42 hi hz1 w.heap.size k len _ rfl (hown.alloc _) ⟨wr.heap.size, 0, none⟩ 1 1 [.string ⟨#[116, 114, 117, 101]⟩] rfl rfl one_cell (one_str _) (by omega) ?_; intro w1 hown1 hgrow1)
          | (at_builtin; refine wpList_append_fits _ rfl (.tmp 35) (.tmp 36) 42 rfl w.heap.size 9 i0 1 Ybaf.underlying42 hi hz1 w.heap.size k len _ rfl (hown.alloc _) ⟨wr.heap.size, 0, none⟩ 1 1 [.string ⟨#[102, 97, 108, 115, 101]⟩] rfl rfl one_cell (one_str _) (by omega) ?_; intro w1 hown1 hgrow1)
          | (at_builtin; refine wpList_append_fits _ rfl (.tmp 24) (.tmp 26) 42 rfl w.heap.size 9 i0 1 Ybaf.underlying42 hi hz1 w.heap.size k len _ rfl (hown.alloc _) ⟨wr.heap.size, 0, none⟩ 1 1 [.string bad] rfl rfl one_cell (one_str _) (by omega) ?_; intro w1 hown1 hgrow1))
        · go_roundw
          case rel => exact ⟨k + 1, ss ++ [⟨#[116, 114, 117, 101]⟩], by omega, len_snoc hss.out _, by go_num, rfl, by simpa using hown1, (hnx.alloc hnx.size _).grown hgrow1 (by have := hnx.size; simp; omega) (fun k hk => by cases hk; exact Nat.le_refl _)⟩
          case measure => simp [intOf]; omega
        · go_roundw
          case rel => exact ⟨k + 1, ss ++ [⟨#[102, 97, 108, 115, 101]⟩], by omega, len_snoc hss.out _, by go_num, rfl, by simpa using hown1, (hnx.alloc hnx.size _).grown hgrow1 (by have := hnx.size; simp; omega) (fun k hk => by cases hk; exact Nat.le_refl _)⟩
          case measure => simp [intOf]; omega
        · go_roundw
          case rel => exact ⟨k + 1, ss ++ [bad], by omega, len_snoc hss.out _, by go_num, rfl, by simpa using hown1, (hnx.alloc hnx.size _).grown hgrow1 (by have := hnx.size; simp; omega) (fun k hk => by cases hk; exact Nat.le_refl _)⟩
          case measure => simp [intOf]; omega
      · go_wp2_with fail
        go_ret
        have e : k = len := by omega
        refine ⟨_, len, ss, ?_, strs_owned hown, by rw [hss.out, e], hnx⟩
        rw [hss.out]
        rfl
end Go.Proofs.YbulkgoqFmt
