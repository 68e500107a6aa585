/-
  DERIVED. errors.Is at a *fmt.wrapError that wraps the sentinel itself (turned from the kit's worked text for another program).
-/
import Derived.Test.YbulkgpsFmtChecked
import Derived.Test.YbulkgpsFmtProg
import Derived.WalkKit
import Derived.LaidEql
import Derived.Stop.Asserts
import Derived.RowKitTokens
namespace Go.Proofs.YbulkgpsFmt
open Go.RowKit Go.Extern.Stop Go.Stop Go.Extern

/-! ### CLOSED FACTS: what 'reflectlite.TypeOf(target).Comparable()' gives at such a target -/
theorem isTypeOf (v : Value) (w : World) : (Extern.ReflectliteType.typeOf #[.iface 65 v]).run Ybaf.prog w = .ok (.iface 55 (.agg #[.pointer (some ⟨3, 65, none⟩)])) w := by kernel_rfl
def compEntry : Array Value → Sem Value := Extern.ReflectliteType.method fun t => do Go.Extern.Rtype.noPackHeld "Comparable" t; pure (.bool (← typeInfo t).comparable)
theorem isComparable (w : World) : (compEntry #[.agg #[.pointer (some ⟨3, 65, none⟩)]]).run Ybaf.prog w = .ok (.bool true) w := by kernel_rfl
theorem isMethodComparable (v : Value) (w : World) : (Go.method 220 55 v "Comparable").run Ybaf.prog w = .ok (48, v) w := by kernel_rfl
theorem isComp : (Ybaf.prog.info? 65).map (·.comparable) = some true := by kernel_rfl
theorem isSize : (Ybaf.prog.info? 67).map (·.size) = some 1 := by kernel_rfl

/-! ### CLOSED FACTS ON THE METHOD SETS: what errors.is's assertions find -/
theorem noIsE (v : Value) (xT : TypeId) (w : World) : (Instr.typeAssert (.iface 65 v) xT 57 true).run Ybaf.prog w = .ok (.tuple #[.nilIface, .bool false]) w := run_typeAssert_lacksB Ybaf.underlying57 (by kernel_rfl) (by kernel_rfl) v xT w
theorem noUnwrapE (v : Value) (xT : TypeId) (w : World) : (Instr.typeAssert (.iface 65 v) xT 60 true).run Ybaf.prog w = .ok (.tuple #[.nilIface, .bool false]) w := run_typeAssert_lacksB Ybaf.underlying60 (by kernel_rfl) (by kernel_rfl) v xT w
theorem noUnwrapsE (v : Value) (xT : TypeId) (w : World) : (Instr.typeAssert (.iface 65 v) xT 62 true).run Ybaf.prog w = .ok (.tuple #[.nilIface, .bool false]) w := run_typeAssert_lacksB Ybaf.underlying62 (by kernel_rfl) (by kernel_rfl) v xT w
theorem noIsW (v : Value) (xT : TypeId) (w : World) : (Instr.typeAssert (.iface 53 v) xT 57 true).run Ybaf.prog w = .ok (.tuple #[.nilIface, .bool false]) w := run_typeAssert_lacksB Ybaf.underlying57 (by kernel_rfl) (by kernel_rfl) v xT w
theorem hasUnwrapW (v : Value) (xT : TypeId) (w : World) : (Instr.typeAssert (.iface 53 v) xT 60 true).run Ybaf.prog w = .ok (.tuple #[.iface 53 v, .bool true]) w := run_typeAssert_hasB Ybaf.underlying60 (by kernel_rfl) v xT w
theorem methodUnwrap (v : Value) (w : World) : (Go.method 220 53 v "Unwrap").run Ybaf.prog w = .ok (44, v) w := by kernel_rfl

set_option maxRecDepth 100000 in
/-- errors.Is(e, x), e a *fmt.wrapError that wraps x itself: one Unwrap, then equal. -/
theorem is_wrap_same (pb po : Nat) (b : Addr) (w : World) (h1 : w.cell? ⟨pb, po + 1, none⟩ = some (.iface 65 (.pointer (some b)))) :
    Calls Ybaf.prog 6 #[.iface 53 (.pointer (some ⟨pb, po, none⟩)), .iface 65 (.pointer (some b))] w fun e w' => e = .returned (.bool true) ∧ w' = w := by
  obtain ⟨i, hi, hcmp⟩ := Option.map_eq_some_iff.1 isComp
  obtain ⟨j, hj, hjs⟩ := Option.map_eq_some_iff.1 isSize
  have h8 := @run_callFunc_extern Ybaf.prog 10 _ Extern.ReflectliteType.typeOf Ybaf.func10 (by kernel_rfl) (by kernel_rfl) (by kernel_rfl) (by kernel_rfl)
  have h32 := @run_callFunc_extern Ybaf.prog 48 _ compEntry Ybaf.func48 (by kernel_rfl) (by kernel_rfl) (by kernel_rfl) (by kernel_rfl)
  have tT := isTypeOf
  have cT := isComparable
  have mR := isMethodComparable
  have nE := noIsE
  have uE := noUnwrapE
  have vE := noUnwrapsE
  have nW := noIsW
  have uW := hasUnwrapW
  have mU := methodUnwrap
  have heq := run_eql_iface_ptr_same (P := Ybaf.prog) w b Ybaf.underlying27 Ybaf.underlying65 hi hcmp hj
  have hty := run_eql_iface_types (P := Ybaf.prog) 53 65 (.pointer (some ⟨pb, po, none⟩)) (.pointer (some b)) Ybaf.underlying27 (by decide) w
  go_enter Ybaf.func6, Ybaf.ntmps6
  go_wp2
  refine wp_loop_rounds 2 ?_
  rw [rounds_succ]
  go_wp2
  rw [rounds_succ]
  go_wp2
  go_ret
  exact ⟨rfl, rfl⟩


end Go.Proofs.YbulkgpsFmt
