/-
  No cell of these rows narrows 'for every input' (looked for: loops, veiled, ifaces, maps, wideKeys, modest, calm, conditions, laid).
  DERIVED. THE GIVEN ROWS OF THIS SEAT. 2 by the template 'for every input the law returns true; each argument reads behind the call as it read before'; 0 by the template 'total and deterministic' (their statements: YbulkgpeTotals.lean).
  GIVEN WITH THE SEED: the statements are not yours to turn. If you find one false, say at which input.
  Laid BY PROGRAM, IN A SANDBOX (cutbox-rows.mjs): the forced cells as the released guide's own fill.sh prints them over the translation e5a78479462270ec… (all of the seat's roots in one cut). By AI agents, Wed Nov 11 2026. No macro, syntax, notation, axiom, sorry.
-/
import Derived.Test.YbulkgpeChecked
import GoSem.Claim
import GoSem.ClaimJoined
import GoSem.ClaimMapViews
import Derived.JoinedTies
import Derived.KernelRfl
namespace Go.Proofs.Ybulkgpe
/- THE CELL 'sum', in the pinned program and in every row, IS THE sha256 OF THE DUMP (.gsa) THAT YbulkgpeProg.lean LOADS. Nothing in Lean hashes anything: it is a label: what it is worth is what the hold of that sum in a sandbox is worth. -/
noncomputable def Yba.pinned : Pinned := { name := "ybulkgpe", sum := "e5a78479462270ec1a51f118c0ccd3dbbd73b68e9bd1514b28d5eb8d6486d68e", checked := Yba.checked }
namespace Rows
def none {H : Type} : Left H := { results := [], args := [] }

/-- 'sip.LawS0368BMatchesModel': WHATEVER THE INPUT: true; the input reads as it did. -/
def lawS0368BMatchesModelSpec : ChangeSpec := { name := "lawS0368BMatchesModel", fn := fun _ => fun
  | [d1, d2] => { results := [.lit (.bool true)], args := [d1, d2] }
  | _ => none }
def lawS0368BMatchesModelRow : OpenClaim := { program := "ybulkgpe", sum := "e5a78479462270ec1a51f118c0ccd3dbbd73b68e9bd1514b28d5eb8d6486d68e", func := "example.com/callerveil/callerveil/internal/sip.LawS0368BMatchesModel", spec := "lawS0368BMatchesModel", apart := false }
def LawS0368BMatchesModelSaid : Prop := lawS0368BMatchesModelRow.holds Yba.pinned (OpenSpec.ofChange lawS0368BMatchesModelSpec)

/-- ITS FALSE NEIGHBOUR: 'it returns false'. Refute it at one input. -/
def lawS0368BMatchesModelWrong : ChangeSpec := { name := "lawS0368BMatchesModel", fn := fun _ => fun
  | [d1, d2] => { results := [.lit (.bool false)], args := [d1, d2] }
  | _ => none }
def LawS0368BMatchesModelWrongFalsely : Prop := lawS0368BMatchesModelRow.holds Yba.pinned (OpenSpec.ofChange lawS0368BMatchesModelWrong)

/-- 'sip.LawS0368BReassemble': WHATEVER THE INPUT: true; the input reads as it did. -/
def lawS0368BReassembleSpec : ChangeSpec := { name := "lawS0368BReassemble", fn := fun _ => fun
  | [d1, d2] => { results := [.lit (.bool true)], args := [d1, d2] }
  | _ => none }
def lawS0368BReassembleRow : OpenClaim := { program := "ybulkgpe", sum := "e5a78479462270ec1a51f118c0ccd3dbbd73b68e9bd1514b28d5eb8d6486d68e", func := "example.com/callerveil/callerveil/internal/sip.LawS0368BReassemble", spec := "lawS0368BReassemble", apart := false }
def LawS0368BReassembleSaid : Prop := lawS0368BReassembleRow.holds Yba.pinned (OpenSpec.ofChange lawS0368BReassembleSpec)

/-- ITS FALSE NEIGHBOUR: 'it returns false'. Refute it at one input. -/
def lawS0368BReassembleWrong : ChangeSpec := { name := "lawS0368BReassemble", fn := fun _ => fun
  | [d1, d2] => { results := [.lit (.bool false)], args := [d1, d2] }
  | _ => none }
def LawS0368BReassembleWrongFalsely : Prop := lawS0368BReassembleRow.holds Yba.pinned (OpenSpec.ofChange lawS0368BReassembleWrong)

end Rows
end Go.Proofs.Ybulkgpe
