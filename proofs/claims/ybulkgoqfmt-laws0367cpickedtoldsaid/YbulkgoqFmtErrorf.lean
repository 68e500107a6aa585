/-
  DERIVED. fmt.Errorf at the road's one format: it hands back an error that is not nil.
-/
import Derived.Test.YbulkgoqFmtFacts
import Derived.Stop.FmtLaws
import Derived.Stop.Texts
import Derived.WalkSpells
import Derived.Below
namespace Go.Proofs.YbulkgoqFmt
open Go.RowKit Go.Extern.Stop Go.Stop Go.Extern
attribute [local go_sem] call30 fguard fmt0r op9_115w op9_113w ptr88 elem88

set_option maxHeartbeats 400000 in
theorem errorf_any (F : Interp) (a b c : ByteArray) (blk : Nat) (w : World) (hF : F.answers w.tape)
    (h0 : w.cell? ⟨blk, 0, none⟩ = some (.iface 9 (.string a))) (h1 : w.cell? ⟨blk, 1, none⟩ = some (.iface 9 (.string b))) (h2 : w.cell? ⟨blk, 2, none⟩ = some (.iface 9 (.string c))) :
    Calls Ybaf.prog 19 #[.string ⟨#[37, 115, 32, 37, 113, 32, 105, 115, 32, 110, 111, 116, 32, 37, 115]⟩, .slice (some ⟨blk, 0, none⟩) 3 3] w fun e w' => (∃ p, e = .returned (.iface 88 (.pointer (some p)))) ∧ Below w.heap.size w w' := by
  have hF' := answers_open hF
  go_enter Ybaf.func19, Ybaf.ntmps19
  go_wp2
  go_ret
  exact ⟨⟨_, rfl⟩, ((Below.refl _ _).alloc (Nat.le_refl _) _).drew⟩
end Go.Proofs.YbulkgoqFmt
