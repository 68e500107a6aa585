/-
  No cell of these rows narrows 'for every input' (looked for: loops, veiled, ifaces, maps, wideKeys, modest, calm, conditions, laid).
  DERIVED. THE GIVEN ROWS OF THIS SEAT. 2 by the template 'for every input the law returns true; each argument reads behind the call as it read before'; 0 by the template 'total and deterministic' (their statements: YbulkgpeFmtTotals.lean).
  GIVEN WITH THE SEED: the statements are not yours to turn. If you find one false, say at which input.
  Laid BY PROGRAM, IN A SANDBOX (cutbox-rows.mjs): the forced cells as the released guide's own fill.sh prints them over the translation ebd3887b0be419cf… (all of the seat's roots in one cut). By AI agents, Wed Nov 11 2026. No macro, syntax, notation, axiom, sorry.
-/
import Derived.Test.YbulkgpeFmtChecked
import GoSem.Claim
import GoSem.ClaimJoined
import GoSem.ClaimMapViews
import Derived.JoinedTies
import Derived.KernelRfl
namespace Go.Proofs.YbulkgpeFmt
/- THE CELL 'sum', in the pinned program and in every row, IS THE sha256 OF THE DUMP (.gsa) THAT YbulkgpeFmtProg.lean LOADS. Nothing in Lean hashes anything: it is a label: what it is worth is what the hold of that sum in a sandbox is worth. -/
noncomputable def Ybaf.pinned : Pinned := { name := "ybulkgpefmt", sum := "ebd3887b0be419cf56adace4fb7b1fb2ddc6502905abc3ad4769117b436b97b6", checked := Ybaf.checked }
namespace Rows
def none {H : Type} : Left H := { results := [], args := [] }

/-- 'identity.LawS0368ANames': WHATEVER THE INPUT: true; the input reads as it did. -/
def lawS0368ANamesSpec : ChangeSpec := { name := "lawS0368ANames", fn := fun _ => fun
  | [d] => { results := [.lit (.bool true)], args := [d] }
  | _ => none }
def lawS0368ANamesRow : OpenClaim := { program := "ybulkgpefmt", sum := "ebd3887b0be419cf56adace4fb7b1fb2ddc6502905abc3ad4769117b436b97b6", func := "example.com/callerveil/callerveil/internal/identity.LawS0368ANames", spec := "lawS0368ANames", stops := ["fmt.Sprintf", "fmt.errorf"], inPlace := ["fmt.Sprintf"], apart := false }
/-- NO THEOREM (fmt's text is open here; it may be false): for the released tool's asking of the row's closed facts alone. THE STATEMENT IS 'LawS0368ANamesToldSaid' (YbulkgpeFmtCards.lean). -/
def LawS0368ANamesFormAsk : Prop := lawS0368ANamesRow.holds Ybaf.pinned (OpenSpec.ofChange lawS0368ANamesSpec)

/-- ITS FALSE NEIGHBOUR: 'it returns false'. Refute it at one input. -/
def lawS0368ANamesWrong : ChangeSpec := { name := "lawS0368ANames", fn := fun _ => fun
  | [d] => { results := [.lit (.bool false)], args := [d] }
  | _ => none }
def LawS0368ANamesWrongFormAsk : Prop := lawS0368ANamesRow.holds Ybaf.pinned (OpenSpec.ofChange lawS0368ANamesWrong)

/-- 'identity.LawS0368ARoundTrip': WHATEVER THE INPUT: true; the input reads as it did. -/
def lawS0368ARoundTripSpec : ChangeSpec := { name := "lawS0368ARoundTrip", fn := fun _ => fun
  | [d1, d2] => { results := [.lit (.bool true)], args := [d1, d2] }
  | _ => none }
def lawS0368ARoundTripRow : OpenClaim := { program := "ybulkgpefmt", sum := "ebd3887b0be419cf56adace4fb7b1fb2ddc6502905abc3ad4769117b436b97b6", func := "example.com/callerveil/callerveil/internal/identity.LawS0368ARoundTrip", spec := "lawS0368ARoundTrip", stops := ["fmt.Sprintf", "fmt.errorf"], inPlace := ["fmt.Sprintf", "fmt.errorf"], apart := false }
/-- NO THEOREM (fmt's text is open here; it may be false): for the released tool's asking of the row's closed facts alone. THE STATEMENT IS 'LawS0368ARoundTripToldSaid' (YbulkgpeFmtCards.lean). -/
def LawS0368ARoundTripFormAsk : Prop := lawS0368ARoundTripRow.holds Ybaf.pinned (OpenSpec.ofChange lawS0368ARoundTripSpec)

/-- ITS FALSE NEIGHBOUR: 'it returns false'. Refute it at one input. -/
def lawS0368ARoundTripWrong : ChangeSpec := { name := "lawS0368ARoundTrip", fn := fun _ => fun
  | [d1, d2] => { results := [.lit (.bool false)], args := [d1, d2] }
  | _ => none }
def LawS0368ARoundTripWrongFormAsk : Prop := lawS0368ARoundTripRow.holds Ybaf.pinned (OpenSpec.ofChange lawS0368ARoundTripWrong)

end Rows
end Go.Proofs.YbulkgpeFmt
