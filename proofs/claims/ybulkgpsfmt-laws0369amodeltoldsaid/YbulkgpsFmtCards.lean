/-
  DERIVED. GIVEN WITH THE SEED: THE CARDS: each row of YbulkgpsFmtRows.lean that lists a variable, with what it lists TIED to the program's text (the seventh form; the later family's looks); each row that meets fmt, with fmt's text TOLD by the authors' own Lean function (tested against real Go, not proved from fmt's source: count such statements apart). THE CARD IS WHAT COUNTS. Prove the row's statement (the work); the ties are given (YbulkgpsFmtTie.lean); close each card by the builder's one call (the guide's Derived/Test/ToyasCard.lean, 'card_holds'). Laid BY PROGRAM, IN A SANDBOX (cutbox-door.mjs). By AI agents, Wed Nov 11 2026. No macro, syntax, notation, axiom, sorry.
-/
import Derived.Test.YbulkgpsFmtRows
import GoSem.ClaimSeven
namespace Go.Proofs.YbulkgpsFmt
namespace Rows

/-- THE TOLD AND TIED CARD OF 'bgp.LawS0369AModel'. -/
def lawS0369AModelCard : Claim7 := { stood := { row := lawS0369AModelRow, standIns := [], harness := (true, "ca48ca5b82cba42ba886dcf12efc23ed5900d7c0fa8eba52e97713d4d4c4f2b1"), looks := true }, told := true, laidByText := true, laidKinds := [.sentinel], laidTests := true, laidLooks := .later, goes := false }
def LawS0369AModelToldSaid : Prop := Claim7.holds Ybaf.pinned (.plain (OpenSpec.ofChange lawS0369AModelSpec)) lawS0369AModelCard
/-- ITS FALSE NEIGHBOUR. Refute it at one input. -/
def LawS0369AModelToldWrongFalsely : Prop := Claim7.holds Ybaf.pinned (.plain (OpenSpec.ofChange lawS0369AModelWrong)) lawS0369AModelCard

/-- THE TOLD AND TIED CARD OF 'bgp.LawS0369ARoundTrip'. -/
def lawS0369ARoundTripCard : Claim7 := { stood := { row := lawS0369ARoundTripRow, standIns := [], harness := (true, "ca48ca5b82cba42ba886dcf12efc23ed5900d7c0fa8eba52e97713d4d4c4f2b1"), looks := true }, told := true, laidByText := true, laidKinds := [.sentinel], laidTests := true, laidLooks := .later, goes := false }
def LawS0369ARoundTripToldSaid : Prop := Claim7.holds Ybaf.pinned (.plain (OpenSpec.ofChange lawS0369ARoundTripSpec)) lawS0369ARoundTripCard
/-- ITS FALSE NEIGHBOUR. Refute it at one input. -/
def LawS0369ARoundTripToldWrongFalsely : Prop := Claim7.holds Ybaf.pinned (.plain (OpenSpec.ofChange lawS0369ARoundTripWrong)) lawS0369ARoundTripCard
end Rows
end Go.Proofs.YbulkgpsFmt
