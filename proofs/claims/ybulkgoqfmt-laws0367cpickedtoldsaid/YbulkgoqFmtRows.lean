/-
  NARROWER THAN 'FOR EVERY INPUT', by the rows' own cells (each row's printed sentence says how): LawS0367ARoundTrip: laid · LawS0367ASingleAndTwice: laid.
  DERIVED. THE GIVEN ROWS OF THIS SEAT. 4 by the template 'for every input the law returns true; each argument reads behind the call as it read before'; 0 by the template 'total and deterministic' (their statements: YbulkgoqFmtTotals.lean).
  GIVEN WITH THE SEED: the statements are not yours to turn. If you find one false, say at which input.
  Laid BY PROGRAM, IN A SANDBOX (cutbox-rows.mjs): the forced cells as the released guide's own fill.sh prints them over the translation 91b1e43236b1dacd… (all of the seat's roots in one cut). By AI agents, Wed Nov 11 2026. No macro, syntax, notation, axiom, sorry.
-/
import Derived.Test.YbulkgoqFmtChecked
import GoSem.PinnedTables
import GoSem.Claim
import GoSem.ClaimJoined
import GoSem.ClaimMapViews
import Derived.JoinedTies
import Derived.KernelRfl
namespace Go.Proofs.YbulkgoqFmt
/- THE CELL 'sum', in the pinned program and in every row, IS THE sha256 OF THE DUMP (.gsa) THAT YbulkgoqFmtProg.lean LOADS. Nothing in Lean hashes anything: it is a label: what it is worth is what the hold of that sum in a sandbox is worth. -/
noncomputable def Ybaf.pinned : Pinned := { name := "ybulkgoqfmt", sum := "91b1e43236b1dacd060cbc2ba2f8289bd97dba3ff2d3963af6f86ba5caf0895e", checked := Ybaf.checked }
namespace Rows
def none {H : Type} : Left H := { results := [], args := [] }

/- WHAT THE LISTED PACKAGE-LEVEL VARIABLES READ AS WHEN THE CALL BEGINS. Each datum BY PROGRAM (the guide's laid-datum.mjs) off the statement by which the dump's own 'gosem.cut.vars' lays the variable. In a bare row this is a premise. The card (YbulkgoqFmtCards.lean) ties it to the program's text. -/
def laid_unicode_utf8_acceptRanges {H : Type} : DataW H := .agg [.agg [.lit (.int .u8 128), .lit (.int .u8 191)], .agg [.lit (.int .u8 160), .lit (.int .u8 191)], .agg [.lit (.int .u8 128), .lit (.int .u8 159)], .agg [.lit (.int .u8 144), .lit (.int .u8 191)], .agg [.lit (.int .u8 128), .lit (.int .u8 143)], .agg [.lit (.int .u8 0), .lit (.int .u8 0)], .agg [.lit (.int .u8 0), .lit (.int .u8 0)], .agg [.lit (.int .u8 0), .lit (.int .u8 0)], .agg [.lit (.int .u8 0), .lit (.int .u8 0)], .agg [.lit (.int .u8 0), .lit (.int .u8 0)], .agg [.lit (.int .u8 0), .lit (.int .u8 0)], .agg [.lit (.int .u8 0), .lit (.int .u8 0)], .agg [.lit (.int .u8 0), .lit (.int .u8 0)], .agg [.lit (.int .u8 0), .lit (.int .u8 0)], .agg [.lit (.int .u8 0), .lit (.int .u8 0)], .agg [.lit (.int .u8 0), .lit (.int .u8 0)]]
/-- One of Go's own tables, pinned by name: the form's constant. -/
def laid_unicode_CaseRanges : DataW Unit := Go.Pinned.caseRanges
/-- One of Go's own tables, pinned by name: the form's constant. -/
def laid_unicode_utf8_first : DataW Unit := Go.Pinned.utf8First

/-- 'digest.LawS0367ARoundTrip': WHATEVER THE INPUT: true; the input reads as it did. -/
def lawS0367ARoundTripSpec : ChangeSpec := { name := "lawS0367ARoundTrip", fn := fun _ => fun
  | [d] => { results := [.lit (.bool true)], args := [d] }
  | _ => none }
def lawS0367ARoundTripRow : OpenClaim := { program := "ybulkgoqfmt", sum := "91b1e43236b1dacd060cbc2ba2f8289bd97dba3ff2d3963af6f86ba5caf0895e", func := "example.com/federata/federata/internal/digest.LawS0367ARoundTrip", spec := "lawS0367ARoundTrip", stops := ["fmt.errorf"], inPlace := ["internal/bytealg.IndexByteString", "internal/bytealg.IndexString", "fmt.errorf", "internal/abi.NoEscape", "internal/bytealg.MakeNoZero"], unfollowed := true, recurses := true, named := ["unicode/utf8.first", "unicode/utf8.acceptRanges", "unicode.CaseRanges", "internal/bytealg.MaxLen"], apart := false, laid := [("unicode/utf8.acceptRanges", laid_unicode_utf8_acceptRanges), ("unicode.CaseRanges", laid_unicode_CaseRanges), ("unicode/utf8.first", laid_unicode_utf8_first)] }
/-- NO THEOREM (fmt's text is open here; it may be false): for the released tool's asking of the row's closed facts alone. THE STATEMENT IS 'LawS0367ARoundTripToldSaid' (YbulkgoqFmtCards.lean). -/
def LawS0367ARoundTripFormAsk : Prop := lawS0367ARoundTripRow.holds Ybaf.pinned (OpenSpec.ofChange lawS0367ARoundTripSpec)

/-- ITS FALSE NEIGHBOUR: 'it returns false'. Refute it at one input. -/
def lawS0367ARoundTripWrong : ChangeSpec := { name := "lawS0367ARoundTrip", fn := fun _ => fun
  | [d] => { results := [.lit (.bool false)], args := [d] }
  | _ => none }
def LawS0367ARoundTripWrongFormAsk : Prop := lawS0367ARoundTripRow.holds Ybaf.pinned (OpenSpec.ofChange lawS0367ARoundTripWrong)

/-- 'digest.LawS0367ASingleAndTwice': WHATEVER THE INPUT: true; the input reads as it did. -/
def lawS0367ASingleAndTwiceSpec : ChangeSpec := { name := "lawS0367ASingleAndTwice", fn := fun _ => fun
  | [d1, d2, d3, d4, d5] => { results := [.lit (.bool true)], args := [d1, d2, d3, d4, d5] }
  | _ => none }
def lawS0367ASingleAndTwiceRow : OpenClaim := { program := "ybulkgoqfmt", sum := "91b1e43236b1dacd060cbc2ba2f8289bd97dba3ff2d3963af6f86ba5caf0895e", func := "example.com/federata/federata/internal/digest.LawS0367ASingleAndTwice", spec := "lawS0367ASingleAndTwice", stops := ["fmt.errorf"], inPlace := ["internal/bytealg.IndexByteString", "internal/bytealg.IndexString", "fmt.errorf", "internal/abi.NoEscape", "internal/bytealg.MakeNoZero"], unfollowed := true, recurses := true, named := ["unicode/utf8.first", "unicode/utf8.acceptRanges", "unicode.CaseRanges", "internal/bytealg.MaxLen"], apart := false, laid := [("unicode/utf8.acceptRanges", laid_unicode_utf8_acceptRanges), ("unicode.CaseRanges", laid_unicode_CaseRanges), ("unicode/utf8.first", laid_unicode_utf8_first)] }
/-- NO THEOREM (fmt's text is open here; it may be false): for the released tool's asking of the row's closed facts alone. THE STATEMENT IS 'LawS0367ASingleAndTwiceToldSaid' (YbulkgoqFmtCards.lean). -/
def LawS0367ASingleAndTwiceFormAsk : Prop := lawS0367ASingleAndTwiceRow.holds Ybaf.pinned (OpenSpec.ofChange lawS0367ASingleAndTwiceSpec)

/-- ITS FALSE NEIGHBOUR: 'it returns false'. Refute it at one input. -/
def lawS0367ASingleAndTwiceWrong : ChangeSpec := { name := "lawS0367ASingleAndTwice", fn := fun _ => fun
  | [d1, d2, d3, d4, d5] => { results := [.lit (.bool false)], args := [d1, d2, d3, d4, d5] }
  | _ => none }
def LawS0367ASingleAndTwiceWrongFormAsk : Prop := lawS0367ASingleAndTwiceRow.holds Ybaf.pinned (OpenSpec.ofChange lawS0367ASingleAndTwiceWrong)

/-- 'api.LawS0367CRaw': WHATEVER THE INPUT: true; the input reads as it did. -/
def lawS0367CRawSpec : ChangeSpec := { name := "lawS0367CRaw", fn := fun _ => fun
  | [d1, d2, d3, d4, d5] => { results := [.lit (.bool true)], args := [d1, d2, d3, d4, d5] }
  | _ => none }
def lawS0367CRawRow : OpenClaim := { program := "ybulkgoqfmt", sum := "91b1e43236b1dacd060cbc2ba2f8289bd97dba3ff2d3963af6f86ba5caf0895e", func := "example.com/federata/federata/internal/api.LawS0367CRaw", spec := "lawS0367CRaw", stops := ["fmt.errorf"], inPlace := ["internal/abi.NoEscape", "internal/bytealg.MakeNoZero", "fmt.errorf"], apart := false }
/-- NO THEOREM (fmt's text is open here; it may be false): for the released tool's asking of the row's closed facts alone. THE STATEMENT IS 'LawS0367CRawToldSaid' (YbulkgoqFmtCards.lean). -/
def LawS0367CRawFormAsk : Prop := lawS0367CRawRow.holds Ybaf.pinned (OpenSpec.ofChange lawS0367CRawSpec)

/-- ITS FALSE NEIGHBOUR: 'it returns false'. Refute it at one input. -/
def lawS0367CRawWrong : ChangeSpec := { name := "lawS0367CRaw", fn := fun _ => fun
  | [d1, d2, d3, d4, d5] => { results := [.lit (.bool false)], args := [d1, d2, d3, d4, d5] }
  | _ => none }
def LawS0367CRawWrongFormAsk : Prop := lawS0367CRawRow.holds Ybaf.pinned (OpenSpec.ofChange lawS0367CRawWrong)

/-- 'api.LawS0367CPicked': WHATEVER THE INPUT: true; the input reads as it did. -/
def lawS0367CPickedSpec : ChangeSpec := { name := "lawS0367CPicked", fn := fun _ => fun
  | [d1, d2, d3] => { results := [.lit (.bool true)], args := [d1, d2, d3] }
  | _ => none }
def lawS0367CPickedRow : OpenClaim := { program := "ybulkgoqfmt", sum := "91b1e43236b1dacd060cbc2ba2f8289bd97dba3ff2d3963af6f86ba5caf0895e", func := "example.com/federata/federata/internal/api.LawS0367CPicked", spec := "lawS0367CPicked", stops := ["fmt.errorf"], inPlace := ["internal/abi.NoEscape", "internal/bytealg.MakeNoZero", "fmt.errorf"], apart := false }
/-- NO THEOREM (fmt's text is open here; it may be false): for the released tool's asking of the row's closed facts alone. THE STATEMENT IS 'LawS0367CPickedToldSaid' (YbulkgoqFmtCards.lean). -/
def LawS0367CPickedFormAsk : Prop := lawS0367CPickedRow.holds Ybaf.pinned (OpenSpec.ofChange lawS0367CPickedSpec)

/-- ITS FALSE NEIGHBOUR: 'it returns false'. Refute it at one input. -/
def lawS0367CPickedWrong : ChangeSpec := { name := "lawS0367CPicked", fn := fun _ => fun
  | [d1, d2, d3] => { results := [.lit (.bool false)], args := [d1, d2, d3] }
  | _ => none }
def LawS0367CPickedWrongFormAsk : Prop := lawS0367CPickedRow.holds Ybaf.pinned (OpenSpec.ofChange lawS0367CPickedWrong)

end Rows
end Go.Proofs.YbulkgoqFmt
