/-
  DERIVED. The walk of LawS0368ANames.
-/
import Derived.Test.YbulkgpeFmtRows
import Derived.WalkKit
import Derived.WalkSpells
import Derived.Below
namespace Go.Proofs.YbulkgpeFmt
open Go.RowKit Go.Extern.Stop Go.Stop Go.Extern

def modeName (k : Int) : ByteArray := if k = 0 then ⟨#[110, 111, 110, 101]⟩ else if k = 1 then ⟨#[112, 101, 114, 109, 97, 110, 101, 110, 116]⟩ else ⟨#[116, 101, 109, 112, 111, 114, 97, 114, 121]⟩

theorem string_any (k : Int) (w : World) (hk : k = 0 ∨ k = 1 ∨ k = 2) : Calls Ybaf.prog 5 #[.int .i64 k] w fun e w' => e = .returned (.string (modeName k)) ∧ w' = w := by
  rcases hk with rfl | rfl | rfl
  all_goals
    go_enter Ybaf.func5, Ybaf.ntmps5
    go_wp2
    go_ret
    exact ⟨rfl, rfl⟩

theorem name_any (k : Int) (w : World) (hk : k = 0 ∨ k = 1 ∨ k = 2) : Calls Ybaf.prog 6 #[.int .i64 k] w fun e w' => e = .returned (.string (modeName k)) ∧ w' = w := by
  rcases hk with rfl | rfl | rfl
  all_goals
    go_enter Ybaf.func6, Ybaf.ntmps6
    go_wp2
    go_ret
    exact ⟨rfl, rfl⟩

theorem names_any (x : Int) (w : World) (h0 : 0 ≤ x) (h1 : x ≤ 255) : Calls Ybaf.prog 3 #[.int .u8 x] w fun e w' => e = .returned (.bool true) ∧ w' = w := by
  have hk : x % 3 = 0 ∨ x % 3 = 1 ∨ x % 3 = 2 := by omega
  have HK : Hid (x % 3 = 0 ∨ x % 3 = 1 ∨ x % 3 = 2) := hk
  clear hk
  go_enter Ybaf.func3, Ybaf.ntmps3
  go_wp2_with fail
  refine (string_any _ _ HK.out).mono ?_
  rintro e w' ⟨rfl, rfl⟩
  go_wp2_with fail
  refine (name_any _ _ HK.out).mono ?_
  rintro e w' ⟨rfl, rfl⟩
  generalize modeName (x % 3) = s
  go_wp2
  go_ret
  exact ⟨rfl, rfl⟩
end Go.Proofs.YbulkgpeFmt
