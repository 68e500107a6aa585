/-
  DERIVED. strings.Join at {"true", "false"}, " or ": out of the shelf's contract.
-/
import Derived.Test.YbulkgoqFmtShelf
import Derived.Test.YbulkgoqFmtValues
namespace Go.Proofs.YbulkgoqFmt
open Go.RowKit

theorem joinSaid : JoinSaid := by
  intro b w hb h0 h1
  refine (Ybaf.strings_Join b 0 2 [⟨#[116, 114, 117, 101]⟩, ⟨#[102, 97, 108, 115, 101]⟩] ⟨#[32, 111, 114, 32]⟩ w (fun j x hj => ?_) hb (by decide) (by decide) (by decide +kernel)).mono fun e w' ⟨he, hb'⟩ => ⟨⟨_, he⟩, hb'⟩
  match j, hj with
  | 0, hj => simp at hj; subst hj; simpa using h0
  | 1, hj => simp at hj; subst hj; simpa using h1
  | j + 2, hj => simp at hj
end Go.Proofs.YbulkgoqFmt
