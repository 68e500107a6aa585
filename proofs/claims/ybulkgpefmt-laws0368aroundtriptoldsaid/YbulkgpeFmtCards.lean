/-
  DERIVED. GIVEN WITH THE SEED: THE CARDS: each row of YbulkgpeFmtRows.lean that lists a variable, with what it lists TIED to the program's text (the seventh form; the later family's looks); each row that meets fmt, with fmt's text TOLD by the authors' own Lean function (tested against real Go, not proved from fmt's source: count such statements apart). THE CARD IS WHAT COUNTS. Prove the row's statement (the work); the ties are given (YbulkgpeFmtTie.lean); close each card by the builder's one call (the guide's Derived/Test/ToyasCard.lean, 'card_holds'). Laid BY PROGRAM, IN A SANDBOX (cutbox-door.mjs). By AI agents, Wed Nov 11 2026. No macro, syntax, notation, axiom, sorry.
-/
import Derived.Test.YbulkgpeFmtRows
import GoSem.ClaimSeven
namespace Go.Proofs.YbulkgpeFmt
namespace Rows

/-- THE TOLD CARD OF 'identity.LawS0368ANames'. -/
def lawS0368ANamesCard : Claim7 := { stood := { row := lawS0368ANamesRow, standIns := [], harness := (true, "356d6a3f2944145dc53ae314ba9e9057ac2a29a4bb4d5f0996c261ddde06dff6"), looks := false }, told := true, goes := false }
def LawS0368ANamesToldSaid : Prop := Claim7.holds Ybaf.pinned (.plain (OpenSpec.ofChange lawS0368ANamesSpec)) lawS0368ANamesCard
/-- ITS FALSE NEIGHBOUR. Refute it at one input. -/
def LawS0368ANamesToldWrongFalsely : Prop := Claim7.holds Ybaf.pinned (.plain (OpenSpec.ofChange lawS0368ANamesWrong)) lawS0368ANamesCard

/-- THE TOLD CARD OF 'identity.LawS0368ARoundTrip'. -/
def lawS0368ARoundTripCard : Claim7 := { stood := { row := lawS0368ARoundTripRow, standIns := [], harness := (true, "356d6a3f2944145dc53ae314ba9e9057ac2a29a4bb4d5f0996c261ddde06dff6"), looks := false }, told := true, goes := false }
def LawS0368ARoundTripToldSaid : Prop := Claim7.holds Ybaf.pinned (.plain (OpenSpec.ofChange lawS0368ARoundTripSpec)) lawS0368ARoundTripCard
/-- ITS FALSE NEIGHBOUR. Refute it at one input. -/
def LawS0368ARoundTripToldWrongFalsely : Prop := Claim7.holds Ybaf.pinned (.plain (OpenSpec.ofChange lawS0368ARoundTripWrong)) lawS0368ARoundTripCard
end Rows
end Go.Proofs.YbulkgpeFmt
