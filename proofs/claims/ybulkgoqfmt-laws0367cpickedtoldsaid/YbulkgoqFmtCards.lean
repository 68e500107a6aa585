/-
  DERIVED. GIVEN WITH THE SEED: THE CARDS: each row of YbulkgoqFmtRows.lean that lists a variable, with what it lists TIED to the program's text (the seventh form; the later family's looks); each row that meets fmt, with fmt's text TOLD by the authors' own Lean function (tested against real Go, not proved from fmt's source: count such statements apart). THE CARD IS WHAT COUNTS. Prove the row's statement (the work); the ties are given (YbulkgoqFmtTie.lean); close each card by the builder's one call (the guide's Derived/Test/ToyasCard.lean, 'card_holds'). Laid BY PROGRAM, IN A SANDBOX (cutbox-door.mjs). By AI agents, Wed Nov 11 2026. No macro, syntax, notation, axiom, sorry.
-/
import Derived.Test.YbulkgoqFmtRows
import GoSem.ClaimSeven
namespace Go.Proofs.YbulkgoqFmt
namespace Rows

/-- THE TOLD AND TIED CARD OF 'digest.LawS0367ARoundTrip'. -/
def lawS0367ARoundTripCard : Claim7 := { stood := { row := lawS0367ARoundTripRow, standIns := [], harness := (true, "9fdaa61f4a660ca529485ed0c035760e5e768094cb66d9d749d95e5af0a73d99"), looks := false }, told := true, laidByText := true, laidKinds := [.data, .pinned, .pinned], laidTests := true, laidLooks := .later, goes := false }
def LawS0367ARoundTripToldSaid : Prop := Claim7.holds Ybaf.pinned (.plain (OpenSpec.ofChange lawS0367ARoundTripSpec)) lawS0367ARoundTripCard
/-- ITS FALSE NEIGHBOUR. Refute it at one input. -/
def LawS0367ARoundTripToldWrongFalsely : Prop := Claim7.holds Ybaf.pinned (.plain (OpenSpec.ofChange lawS0367ARoundTripWrong)) lawS0367ARoundTripCard

/-- THE TOLD AND TIED CARD OF 'digest.LawS0367ASingleAndTwice'. -/
def lawS0367ASingleAndTwiceCard : Claim7 := { stood := { row := lawS0367ASingleAndTwiceRow, standIns := [], harness := (true, "9fdaa61f4a660ca529485ed0c035760e5e768094cb66d9d749d95e5af0a73d99"), looks := false }, told := true, laidByText := true, laidKinds := [.data, .pinned, .pinned], laidTests := true, laidLooks := .later, goes := false }
def LawS0367ASingleAndTwiceToldSaid : Prop := Claim7.holds Ybaf.pinned (.plain (OpenSpec.ofChange lawS0367ASingleAndTwiceSpec)) lawS0367ASingleAndTwiceCard
/-- ITS FALSE NEIGHBOUR. Refute it at one input. -/
def LawS0367ASingleAndTwiceToldWrongFalsely : Prop := Claim7.holds Ybaf.pinned (.plain (OpenSpec.ofChange lawS0367ASingleAndTwiceWrong)) lawS0367ASingleAndTwiceCard

/-- THE TOLD CARD OF 'api.LawS0367CRaw'. -/
def lawS0367CRawCard : Claim7 := { stood := { row := lawS0367CRawRow, standIns := [], harness := (true, "9fdaa61f4a660ca529485ed0c035760e5e768094cb66d9d749d95e5af0a73d99"), looks := false }, told := true, goes := false }
def LawS0367CRawToldSaid : Prop := Claim7.holds Ybaf.pinned (.plain (OpenSpec.ofChange lawS0367CRawSpec)) lawS0367CRawCard
/-- ITS FALSE NEIGHBOUR. Refute it at one input. -/
def LawS0367CRawToldWrongFalsely : Prop := Claim7.holds Ybaf.pinned (.plain (OpenSpec.ofChange lawS0367CRawWrong)) lawS0367CRawCard

/-- THE TOLD CARD OF 'api.LawS0367CPicked'. -/
def lawS0367CPickedCard : Claim7 := { stood := { row := lawS0367CPickedRow, standIns := [], harness := (true, "9fdaa61f4a660ca529485ed0c035760e5e768094cb66d9d749d95e5af0a73d99"), looks := false }, told := true, goes := false }
def LawS0367CPickedToldSaid : Prop := Claim7.holds Ybaf.pinned (.plain (OpenSpec.ofChange lawS0367CPickedSpec)) lawS0367CPickedCard
/-- ITS FALSE NEIGHBOUR. Refute it at one input. -/
def LawS0367CPickedToldWrongFalsely : Prop := Claim7.holds Ybaf.pinned (.plain (OpenSpec.ofChange lawS0367CPickedWrong)) lawS0367CPickedCard
end Rows
end Go.Proofs.YbulkgoqFmt
