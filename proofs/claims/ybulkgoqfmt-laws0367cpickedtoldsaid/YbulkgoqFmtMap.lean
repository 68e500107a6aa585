/-
  DERIVED. The road's map (url.Values) at keys that are strings: what a look-up and a store do, the block written out.
-/
import Derived.Test.YbulkgoqFmtFacts
import Derived.WideMake
namespace Go.Proofs.YbulkgoqFmt

/-- What a look-up at a key finds among entries: the element, or the nil slice. -/
def mget (es : Array MapEntry) (k : ByteArray) : Option Value :=
  (Instr.findNow .string (.string k) es.toList 0).map fun r => match r with
    | some (_, v) => v
    | none => .slice none 0 0

theorem lookup_run {w : World} {m : Nat} {es : Array MapEntry} {clock : Nat} {k : ByteArray} {v : Value} (hb : w.heap[m]? = some (.map es clock)) (hf : mget es k = some v) :
    (Instr.lookup 44 (.map (some m)) (.string k) false).run Ybaf.prog w = .ok v w := by
  have hc : (Instr.checkKey es.isEmpty 10000 9 (.string k)).run Ybaf.prog w = .ok () w := MapKept.run_checkKey (k := .string k) Ybaf.underlying9 (by simp [MapKept.IsKey]) _ 9999
  unfold mget at hf
  cases hn : Instr.findNow .string (.string k) es.toList 0 with
  | none => rw [hn] at hf; simp at hf
  | some r =>
    rw [hn] at hf
    cases r with
    | none =>
      simp at hf
      simp [Instr.lookup, run_underlying Ybaf.underlying44, MapKept.run_getObj_map hb, hc, MapKept.run_findKey Ybaf.underlying9 hn, Result.andThen, hf]
    | some p =>
      simp at hf
      simp [Instr.lookup, run_underlying Ybaf.underlying44, MapKept.run_getObj_map hb, hc, MapKept.run_findKey Ybaf.underlying9 hn, Result.andThen, hf]

theorem set_new (w : World) (o o' : Obj) : ({ w.alloc o with heap := (w.alloc o).heap.setIfInBounds w.heap.size o' } : World) = w.alloc o' := by
  have e : (w.alloc o).heap.setIfInBounds w.heap.size o' = w.heap.push o' := by
    show (w.heap.push o).setIfInBounds w.heap.size o' = _
    apply Array.ext_getElem?
    intro i
    rw [Array.getElem?_setIfInBounds, Array.getElem?_push, Array.getElem?_push]
    by_cases h : w.heap.size = i
    · subst h; simp
    · have h' : ¬ i = w.heap.size := fun e => h e.symm
      simp [h, h']
  rw [e]
  rfl

/-- A store at a key that is not there, into the newest block. -/
theorem update_run (w : World) {es : Array MapEntry} {clock : Nat} {k : ByteArray} (v : Value) (hn : Instr.findNow .string (.string k) es.toList 0 = some none) :
    (Instr.mapUpdate 44 (.map (some w.heap.size)) (.string k) v).run Ybaf.prog (w.alloc (.map es clock)) = .ok () (w.alloc (.map (es.push { key := .string k, val := v, born := clock }) (clock + 1))) := by
  have hb : (w.alloc (.map es clock)).heap[w.heap.size]? = some (.map es clock) := (MapKept.heap_alloc w _).1
  have hc : (Instr.checkKey false 10000 9 (.string k)).run Ybaf.prog (w.alloc (.map es clock)) = .ok () (w.alloc (.map es clock)) := MapKept.run_checkKey (k := .string k) Ybaf.underlying9 (by simp [MapKept.IsKey]) _ 9999
  have e : (Instr.mapUpdate 44 (.map (some w.heap.size)) (.string k) v).run Ybaf.prog (w.alloc (.map es clock)) = .ok () { w.alloc (.map es clock) with heap := (w.alloc (.map es clock)).heap.setIfInBounds w.heap.size (.map (es.push { key := .string k, val := v, born := clock }) (clock + 1)) } := by
    simp [Instr.mapUpdate, run_underlying Ybaf.underlying44, MapKept.run_getObj_map hb, hc, MapKept.run_findKey Ybaf.underlying9 hn, MapKept.run_setObj_map _ hb, Result.andThen]
  rw [e, set_new]
end Go.Proofs.YbulkgoqFmt
