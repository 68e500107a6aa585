/-
  DERIVED. THE CLOSED FACTS of the seat's dump that the walks want: fmt.errorf's stop at the one format of the road, the operand's shape, the error's type; maps keyed by strings.
-/
import Derived.Test.YbulkgoqFmtRows
import Derived.WideLaws
import Derived.WalkKit
import Derived.MapKept
import Derived.Carry
namespace Go.Proofs.YbulkgoqFmt
open Go.Extern.Stop Go.Stop Go.Extern

theorem call30 (args : Array Value) (w : World) : (callFunc 30 args).run Ybaf.prog w = ((FmtStop.errorf #[9, 71] #[34] args).run Ybaf.prog w).andThen fun v w' => .ok (.value v) w' :=
  run_callFunc_extern Ybaf.func30 (by kernel_rfl) (by kernel_rfl) (by kernel_rfl) (by kernel_rfl) args w

theorem fguard (name : String) (w : World) : (FmtStop.guard name).run Ybaf.prog w = .ok () w := by kernel_rfl

-- the format of valuesIn
theorem fmt0r (w : World) : (FmtDoors.printed ⟨#[37, 115, 32, 37, 113, 32, 105, 115, 32, 110, 111, 116, 32, 37, 115]⟩ 3).run Ybaf.prog w = .ok [(0, 115, false), (1, 113, false), (2, 115, false)] w := by kernel_rfl

def shape9 : List UInt8 := [12, 6, 0, 0, 0, 0, 0, 0, 0, 115, 116, 114, 105, 110, 103]
theorem op9_115w (name : String) (x : ByteArray) (w : World) : (FmtStop.operand name true 115 false (.iface 9 (.string x))).run Ybaf.prog w = .ok (shape9, FmtStop.pack x.data.toList) w := by kernel_rfl
theorem op9_113w (name : String) (x : ByteArray) (w : World) : (FmtStop.operand name true 113 false (.iface 9 (.string x))).run Ybaf.prog w = .ok (shape9, FmtStop.pack x.data.toList) w := by kernel_rfl

theorem ptr88 (w : World) : (FmtStop.ptrTo "errors.errorString").run Ybaf.prog w = .ok 88 w := by kernel_rfl
theorem elem88 (w : World) : (elemOf 88).run Ybaf.prog w = .ok 90 w := by kernel_rfl

end Go.Proofs.YbulkgoqFmt
