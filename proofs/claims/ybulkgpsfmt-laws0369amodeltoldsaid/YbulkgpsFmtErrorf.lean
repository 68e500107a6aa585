/-
  DERIVED. fmt.Errorf at the two formats of parseAttributes: a *fmt.wrapError that holds the sentinel's own value.
-/
import Derived.Test.YbulkgpsFmtChecked
import Derived.Test.YbulkgpsFmtProg
import Derived.WalkKit
import Derived.WideLaws
import Derived.Stop.CallBack
import Derived.Stop.FmtLaws
import Derived.Stop.Texts
import Derived.WalkSpells
import Derived.Below
namespace Go.Proofs.YbulkgpsFmt
open Go.RowKit Go.Extern.Stop Go.Stop Go.Extern

theorem call12 (args : Array Value) (w : World) : (callFunc 12 args).run Ybaf.prog w = (FmtCalls.errorf #[9, 51] #[27] args).run Ybaf.prog w :=
  run_callFunc_next Ybaf.func12 (by kernel_rfl) (by kernel_rfl) (by kernel_rfl) args w
theorem fguard (name : String) (w : World) : (FmtStop.guard name).run Ybaf.prog w = .ok () w := by kernel_rfl
theorem nextTurns : Extern.next FmtCalls.turnsRow = some (FmtCalls.begun #[] #[]) := by kernel_rfl

def textA : ByteArray := ⟨#[37, 119, 58, 32, 85, 80, 68, 65, 84, 69, 58, 32, 97, 110, 32, 97, 116, 116, 114, 105, 98, 117, 116, 101, 32, 104, 101, 97, 100, 101, 114, 32, 114, 117, 110, 115, 32, 112, 97, 115, 116, 32, 116, 104, 101, 32, 112, 97, 116, 104, 32, 97, 116, 116, 114, 105, 98, 117, 116, 101, 115]⟩
def textB : ByteArray := ⟨([37, 119, 58, 32, 85, 80, 68, 65, 84, 69, 58, 32, 97, 116, 116, 114, 105, 98, 117, 116, 101, 32, 116, 121, 112, 101, 32, 37, 100, 32, 111, 102, 32, 37, 100, 32].append [111, 99, 116, 101, 116, 115, 32, 114, 117, 110, 115, 32, 112, 97, 115, 116, 32, 116, 104, 101, 32, 112, 97, 116, 104, 32, 97, 116, 116, 114, 105, 98, 117, 116, 101, 115]).toArray⟩
theorem fmtA (w : World) : (FmtDoors.printed textA 1).run Ybaf.prog w = .ok [(0, 119, false)] w := by kernel_rfl
theorem fmtB (w : World) : (FmtDoors.printed textB 3).run Ybaf.prog w = .ok [(0, 119, false), (1, 100, false), (2, 100, false)] w := by kernel_rfl

theorem act65 (name : String) (x : Value) (w : World) : (FmtCalls.act name true 119 false (.iface 65 x)).run Ybaf.prog w = .ok (.closed true) w := by kernel_rfl
theorem act32 (name : String) (x : Value) (w : World) : (FmtCalls.act name true 100 false (.iface 32 x)).run Ybaf.prog w = .ok (.closed true) w := by kernel_rfl
theorem act3 (name : String) (x : Value) (w : World) : (FmtCalls.act name true 100 false (.iface 3 x)).run Ybaf.prog w = .ok (.closed true) w := by kernel_rfl
theorem isError65 (w : World) : (FmtDoors.textMethod 65 "Error").run Ybaf.prog w = .ok true w := by kernel_rfl
theorem ptrW (w : World) : (FmtStop.ptrTo "fmt.wrapError").run Ybaf.prog w = .ok 53 w := by kernel_rfl
theorem elemW (w : World) : (elemOf 53).run Ybaf.prog w = .ok 107 w := by kernel_rfl

def shape3 : List UInt8 := [5, 3, 0, 0, 0, 0, 0, 0, 0, 105, 110, 116]
def shape32 : List UInt8 := [6, 12, 0, 0, 0, 0, 0, 0, 0, 98, 103, 112, 46, 65, 116, 116, 114, 84, 121, 112, 101]
theorem op3 (name : String) (x : Int) (w : World) : (FmtStop.operand name true 100 false (.iface 3 (.int .i64 x))).run Ybaf.prog w = .ok (shape3, Go.Extern.Stop.digits 8 (x % 2 ^ 64).toNat) w := by kernel_rfl
theorem op32 (name : String) (x : Int) (w : World) : (FmtStop.operand name true 100 false (.iface 32 (.int .u8 x))).run Ybaf.prog w = .ok (shape32, Go.Extern.Stop.digits 8 (x % 2 ^ 64).toNat) w := by kernel_rfl
def plain65 : List UInt8 := 14 :: FmtStop.pack "*errors.errorString".toUTF8.data.toList
theorem op65 (name : String) (a : Addr) (s : ByteArray) (w : World) (hc : w.cell? a = some (.string s)) :
    (FmtStop.operand name true 119 false (.iface 65 (.pointer (some a)))).run Ybaf.prog w = .ok (plain65, s.data.toList) w := by
  have h1 : (typeStr 65).run Ybaf.prog w = .ok "*errors.errorString" w := by kernel_rfl
  have d2 : Ybaf.t65.desc = .pointer 67 := rfl
  have d3 : Ybaf.t67.desc = .named "errors.errorString" 66 := rfl
  simp [FmtStop.operand, h1, d2, d3, run_load, hc, plain65]

attribute [local go_sem] call12 fguard fmtA fmtB act65 act32 act3 isError65 ptrW elemW op3 op32

set_option maxRecDepth 100000 in
set_option maxHeartbeats 800000 in
theorem errorf_A (F : Interp) (a1 : Addr) (s1 : ByteArray) (blk : Nat) (w : World) (hF : F.answers w.tape)
    (h0 : w.cell? ⟨blk, 0, none⟩ = some (.iface 65 (.pointer (some a1)))) (hc : w.cell? a1 = some (.string s1)) :
    Calls Ybaf.prog 8 #[.string textA, .slice (some ⟨blk, 0, none⟩) 1 1] w fun e w' => ∃ pb, e = .returned (.iface 53 (.pointer (some ⟨pb, 0, none⟩))) ∧ w'.cell? ⟨pb, 1, none⟩ = some (.iface 65 (.pointer (some a1))) ∧ Below w.heap.size w w' := by
  have hF' := answers_open hF
  have hop := fun name => op65 name a1 s1 w hc
  go_enter Ybaf.func8, Ybaf.ntmps8
  go_wp2
  apply rows_value nextTurns
  case hr =>
    go_simp
    exact ⟨rfl, rfl⟩
  case h =>
    go_wp2
    go_ret
    exact ⟨_, rfl, by simp, ((Below.refl _ _).alloc (Nat.le_refl _) _).drew⟩

set_option maxRecDepth 100000 in
set_option maxHeartbeats 800000 in
theorem errorf_B (F : Interp) (a1 : Addr) (s1 : ByteArray) (x y : Int) (blk : Nat) (w : World) (hF : F.answers w.tape)
    (h0 : w.cell? ⟨blk, 0, none⟩ = some (.iface 65 (.pointer (some a1)))) (h1 : w.cell? ⟨blk, 1, none⟩ = some (.iface 32 (.int .u8 x))) (h2 : w.cell? ⟨blk, 2, none⟩ = some (.iface 3 (.int .i64 y))) (hc : w.cell? a1 = some (.string s1)) :
    Calls Ybaf.prog 8 #[.string textB, .slice (some ⟨blk, 0, none⟩) 3 3] w fun e w' => ∃ pb, e = .returned (.iface 53 (.pointer (some ⟨pb, 0, none⟩))) ∧ w'.cell? ⟨pb, 1, none⟩ = some (.iface 65 (.pointer (some a1))) ∧ Below w.heap.size w w' := by
  have hF' := answers_open hF
  have hop := fun name => op65 name a1 s1 w hc
  go_enter Ybaf.func8, Ybaf.ntmps8
  go_wp2
  apply rows_value nextTurns
  case hr =>
    go_simp
    exact ⟨rfl, rfl⟩
  case h =>
    go_wp2
    go_ret
    exact ⟨_, rfl, by simp, ((Below.refl _ _).alloc (Nat.le_refl _) _).drew⟩
end Go.Proofs.YbulkgpsFmt
