/-
  DERIVED. LawS0369ARoundTrip: what its walk is told of its argument; an append from a slice of bytes.
-/
import Derived.Test.YbulkgpsFmtParse
import Derived.Test.YbulkgpsFmtEnc
import Derived.Laws.AppendOwnNone
namespace Go.Proofs.YbulkgpsFmt
open Go.RowKit Go.Extern.Stop Go.Stop Go.Extern

/-- A value that holds a slice: where it has no address it is the nil slice. -/
def Nice (v : Value) : Prop := ∀ n c, v = .slice none n c → n = 0 ∧ c = 0

/-- THE ARGUMENT: a slice of structs of three cells, which reads as the records of Q. -/
def AsIn (w : World) (a : Option Addr) (Q : List Att) : Prop :=
  Q = [] ∨ ∃ b o, a = some ⟨b, o, none⟩ ∧ b < w.heap.size ∧ ∀ k q, Q[k]? = some q →
    w.cell? ⟨b, o + k * 3, none⟩ = some (.int .u8 q.1.1) ∧ w.cell? ⟨b, o + k * 3 + 1, none⟩ = some (.int .u8 q.1.2.1) ∧ w.cell? ⟨b, o + k * 3 + 2, none⟩ = some q.2 ∧ Byts w q.2 q.1.2.2 ∧ Nice q.2 ∧
    (0 ≤ q.1.1 ∧ q.1.1 ≤ 255) ∧ (0 ≤ q.1.2.1 ∧ q.1.2.1 ≤ 255) ∧ (∀ z ∈ q.1.2.2, 0 ≤ z ∧ z ≤ 255)

theorem AsIn.at {w : World} {a : Option Addr} {Q : List Att} (h : AsIn w a Q) {k : Nat} (hk : k < Q.length) :
    ∃ b o q, a = some ⟨b, o, none⟩ ∧ b < w.heap.size ∧ Q[k]? = some q ∧
    w.cell? ⟨b, o + k * 3, none⟩ = some (.int .u8 q.1.1) ∧ w.cell? ⟨b, o + k * 3 + 1, none⟩ = some (.int .u8 q.1.2.1) ∧ w.cell? ⟨b, o + k * 3 + 2, none⟩ = some q.2 ∧ Byts w q.2 q.1.2.2 ∧ Nice q.2 ∧
    (0 ≤ q.1.1 ∧ q.1.1 ≤ 255) ∧ (0 ≤ q.1.2.1 ∧ q.1.2.1 ≤ 255) ∧ (∀ z ∈ q.1.2.2, 0 ≤ z ∧ z ≤ 255) := by
  rcases h with rfl | ⟨b, o, ha, hlt, hc⟩
  · simp at hk
  · exact ⟨b, o, Q[k], ha, hlt, List.getElem?_eq_getElem hk, hc k Q[k] (List.getElem?_eq_getElem hk)⟩

theorem info5 : (Ybaf.prog.info? 5).map (fun i => (i.zero, i.size, i.bytes)) = some (some (.int .u8 0), 1, 1) := by kernel_rfl

theorem ints_one (bs : List Int) : ∀ u ∈ bs.map (Value.int .u8), u.oneCell' = true := ints_oneCell .u8 bs

/-- 'append(buf, v...)' ONTO A ROW OF THE CALL's OWN, v A SLICE OF BYTES: nil, empty or not. -/
theorem wpList_append_byts {w : World} {ops : Array Oper} {rest : List Oper} {op : Oper} {a : Act} {QQ : Exit → Act → World → Prop} (hgd : op.guard = none) (s x : Operand)
    (ho : op.op = .call { callee := .builtin .append, args := #[s, x], argTypes := #[22, 22] })
    (base : Nat) (i : TypeInfo) (hi : Ybaf.prog.info? 5 = some i) (hz : i.zero = some (.int .u8 0)) (hsize : i.size = 1) (hby : i.bytes = 1)
    (v : Value) (n : Nat) (xs : List Value) (hs : a.eval s = v) (hown : w.ownsRow base 5 1 v n xs)
    (xv : Value) (bs : List Int) (hx : a.eval x = xv) (hb : Byts w xv bs) (hnice : Nice xv) (hbig : n + bs.length ≤ 140737488355328) (hbase : base ≤ w.heap.size)
    (h : ∀ v' w', w'.ownsRow base 5 1 v' (n + bs.length) (xs ++ bs.map (Value.int .u8)) → w.grownBy w' v.ownBlock → wpList Ybaf.prog ops QQ rest (a.put op.dst v') w') : wpList Ybaf.prog ops QQ (op :: rest) a w := by
  obtain ⟨sa, c, rfl, hc, hcase⟩ := hb
  cases sa with
  | none =>
    obtain ⟨hl, rfl⟩ := hnice _ _ rfl
    have hbs : bs = [] := List.length_eq_zero_iff.1 hl
    subst hbs
    refine wpList_append_own_none hgd s x 22 ho base 5 i 1 Ybaf.underlying22 hi v n xs hs hown hx ?_
    exact h v w (by simpa using hown) (World.grownBy.refl _ _)
  | some ad =>
    refine wpList_append_own w hgd s x 22 ho base 5 i (.int .u8 0) 1 1 Ybaf.underlying22 hi hz hsize hby rfl (by decide) v n xs hs hown ad bs.length c (bs.map (Value.int .u8)) hx (by simp) ?_ (ints_one bs) (by unfold maxLen; omega) (by omega) hbase ?_
    · intro j u hj
      rcases hcase with rfl | ⟨b, o, had, hlt, hcell⟩
      · simp at hj
      · simp only [Option.some.injEq] at had
        subst had
        have hjl : j < bs.length := by
          rcases Nat.lt_or_ge j bs.length with h | h
          · exact h
          · simp [List.getElem?_eq_none (show (bs.map (Value.int .u8)).length ≤ j by simpa using h)] at hj
        rw [show (⟨b, o, none⟩ : Addr).add j = ⟨b, o + j, none⟩ by cases j <;> simp [Addr.add], hcell j hjl]
        simp [List.getElem?_eq_getElem hjl] at hj
        subst hj
        simp [List.getD, List.getElem?_eq_getElem hjl]
    · intro v' w' h1 h2 _
      exact h v' w' h1 h2
end Go.Proofs.YbulkgpsFmt
