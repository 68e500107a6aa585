/-
  NARROWER THAN 'FOR EVERY INPUT', by the rows' own cells (each row's printed sentence says how): LawS0369AModel: ifaces, laid · LawS0369ARoundTrip: ifaces, laid.
  DERIVED. THE GIVEN ROWS OF THIS SEAT. 2 by the template 'for every input the law returns true; each argument reads behind the call as it read before'; 0 by the template 'total and deterministic' (their statements: YbulkgpsFmtTotals.lean).
  GIVEN WITH THE SEED: the statements are not yours to turn. If you find one false, say at which input.
  Laid BY PROGRAM, IN A SANDBOX (cutbox-rows.mjs): the forced cells as the released guide's own fill.sh prints them over the translation 859c88fa664b77ae… (all of the seat's roots in one cut). By AI agents, Wed Nov 11 2026. No macro, syntax, notation, axiom, sorry.
-/
import Derived.Test.YbulkgpsFmtChecked
import GoSem.Claim
import GoSem.ClaimJoined
import GoSem.ClaimMapViews
import Derived.JoinedTies
import Derived.KernelRfl
namespace Go.Proofs.YbulkgpsFmt
/- THE CELL 'sum', in the pinned program and in every row, IS THE sha256 OF THE DUMP (.gsa) THAT YbulkgpsFmtProg.lean LOADS. Nothing in Lean hashes anything: it is a label: what it is worth is what the hold of that sum in a sandbox is worth. -/
noncomputable def Ybaf.pinned : Pinned := { name := "ybulkgpsfmt", sum := "859c88fa664b77ae54c5e6f989dd95d948dea5a6be9f7a19aa2e3e5bc531c7dd", checked := Ybaf.checked }
namespace Rows
def none {H : Type} : Left H := { results := [], args := [] }

/- WHAT THE LISTED PACKAGE-LEVEL VARIABLES READ AS WHEN THE CALL BEGINS. Each datum BY PROGRAM (the guide's laid-datum.mjs) off the statement by which the dump's own 'gosem.cut.vars' lays the variable. In a bare row this is a premise. The card (YbulkgpsFmtCards.lean) ties it to the program's text. -/
def laid_example_com_pathwarden_pathwarden_pkg_bgp_ErrMalformed {H : Type} : DataW H := .iface "*errors.errorString" (.ptr (.agg [.lit (.string [109, 97, 108, 102, 111, 114, 109, 101, 100, 32, 66, 71, 80, 32, 109, 101, 115, 115, 97, 103, 101])]))

/-- 'bgp.LawS0369AModel': WHATEVER THE INPUT: true; the input reads as it did. -/
def lawS0369AModelSpec : ChangeSpec := { name := "lawS0369AModel", vars := ["example.com/pathwarden/pathwarden/pkg/bgp.ErrMalformed"], fn := fun _ => fun
  | [d, g1] => { results := [.lit (.bool true)], args := [d], vars := [g1] }
  | _ => none }
def lawS0369AModelRow : OpenClaim := { program := "ybulkgpsfmt", sum := "859c88fa664b77ae54c5e6f989dd95d948dea5a6be9f7a19aa2e3e5bc531c7dd", func := "example.com/pathwarden/pathwarden/pkg/bgp.LawS0369AModel", spec := "lawS0369AModel", stops := ["fmt.errorf, its operands' methods called", "fmt.Sprintf"], inPlace := ["fmt.errorf", "internal/reflectlite.TypeOf"], unfollowed := true, recurses := true, named := ["example.com/pathwarden/pathwarden/pkg/bgp.ErrMalformed", "encoding/binary.BigEndian"], ifaces := true, apart := false, laid := [("example.com/pathwarden/pathwarden/pkg/bgp.ErrMalformed", laid_example_com_pathwarden_pathwarden_pkg_bgp_ErrMalformed)] }
/-- NO THEOREM (fmt's text is open here; it may be false): for the released tool's asking of the row's closed facts alone. THE STATEMENT IS 'LawS0369AModelToldSaid' (YbulkgpsFmtCards.lean). -/
def LawS0369AModelFormAsk : Prop := lawS0369AModelRow.holds Ybaf.pinned (OpenSpec.ofChange lawS0369AModelSpec)

/-- ITS FALSE NEIGHBOUR: 'it returns false'. Refute it at one input. -/
def lawS0369AModelWrong : ChangeSpec := { name := "lawS0369AModel", vars := ["example.com/pathwarden/pathwarden/pkg/bgp.ErrMalformed"], fn := fun _ => fun
  | [d, g1] => { results := [.lit (.bool false)], args := [d], vars := [g1] }
  | _ => none }
def LawS0369AModelWrongFormAsk : Prop := lawS0369AModelRow.holds Ybaf.pinned (OpenSpec.ofChange lawS0369AModelWrong)

/-- 'bgp.LawS0369ARoundTrip': WHATEVER THE INPUT: true; the input reads as it did. -/
def lawS0369ARoundTripSpec : ChangeSpec := { name := "lawS0369ARoundTrip", vars := ["example.com/pathwarden/pathwarden/pkg/bgp.ErrMalformed"], fn := fun _ => fun
  | [d, g1] => { results := [.lit (.bool true)], args := [d], vars := [g1] }
  | _ => none }
def lawS0369ARoundTripRow : OpenClaim := { program := "ybulkgpsfmt", sum := "859c88fa664b77ae54c5e6f989dd95d948dea5a6be9f7a19aa2e3e5bc531c7dd", func := "example.com/pathwarden/pathwarden/pkg/bgp.LawS0369ARoundTrip", spec := "lawS0369ARoundTrip", stops := ["fmt.errorf, its operands' methods called", "fmt.Sprintf"], inPlace := ["fmt.errorf"], unfollowed := true, recurses := true, named := ["example.com/pathwarden/pathwarden/pkg/bgp.ErrMalformed", "encoding/binary.BigEndian"], ifaces := true, apart := false, laid := [("example.com/pathwarden/pathwarden/pkg/bgp.ErrMalformed", laid_example_com_pathwarden_pathwarden_pkg_bgp_ErrMalformed)] }
/-- NO THEOREM (fmt's text is open here; it may be false): for the released tool's asking of the row's closed facts alone. THE STATEMENT IS 'LawS0369ARoundTripToldSaid' (YbulkgpsFmtCards.lean). -/
def LawS0369ARoundTripFormAsk : Prop := lawS0369ARoundTripRow.holds Ybaf.pinned (OpenSpec.ofChange lawS0369ARoundTripSpec)

/-- ITS FALSE NEIGHBOUR: 'it returns false'. Refute it at one input. -/
def lawS0369ARoundTripWrong : ChangeSpec := { name := "lawS0369ARoundTrip", vars := ["example.com/pathwarden/pathwarden/pkg/bgp.ErrMalformed"], fn := fun _ => fun
  | [d, g1] => { results := [.lit (.bool false)], args := [d], vars := [g1] }
  | _ => none }
def LawS0369ARoundTripWrongFormAsk : Prop := lawS0369ARoundTripRow.holds Ybaf.pinned (OpenSpec.ofChange lawS0369ARoundTripWrong)

end Rows
end Go.Proofs.YbulkgpsFmt
