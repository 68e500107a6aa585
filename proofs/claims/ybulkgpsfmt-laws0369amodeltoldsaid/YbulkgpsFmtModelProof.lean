/-
  DERIVED. THE TOLD AND TIED CARD OF LawS0369AModel.
-/
import Derived.Test.YbulkgpsFmtModelB
import Derived.Test.YbulkgpsFmtOpen
import Derived.Test.YbulkgpsFmtCards
import Derived.Test.YbulkgpsFmtTie
import Derived.ProofKit
import Derived.Stop.JoinedAt
import Derived.Stop.JoinedTold
import Derived.Stop.LaidErr
import Derived.SevenTiedAt
import Derived.RowKitTokens
import Derived.ChangeOld
import Derived.OpenShut
namespace Go.Proofs.YbulkgpsFmt.ModelCard
open Go.ChangeShapes Go.WideShapes Go.ChangeAt Go.RowKit Go.Kit
open Go.Extern.Stop Go.Stop Go.Extern

theorem own : ownKnob Ybaf.prog.godebug = none := by kernel_rfl
theorem laidOut : laidOutB Ybaf.prog = true := by kernel_rfl
theorem pstops : Ybaf.pinned.checked.prog.stops = Rows.lawS0369AModelRow.stops := by kernel_rfl
theorem pknobs : Ybaf.pinned.checked.prog.stopKnobs = [] := by kernel_rfl
theorem pquiet (os : Os) : Stop.quiet Ybaf.pinned.checked.prog os := by
  intro k hk
  rw [pknobs] at hk
  cases hk

/-- The listed variable's name. -/
def errName : String := (Rows.lawS0369AModelSpec.vars).headD default
theorem gE : Ybaf.prog.globalNamed errName = some 0 := by kernel_rfl
theorem gEType : (Ybaf.prog.globals[0]?).map (·.type) = some 27 := by kernel_rfl
theorem cells67 : Ybaf.prog.cellsOf 67 = 1 := by kernel_rfl
theorem cells9 : Ybaf.prog.cellsOf 9 = 1 := by kernel_rfl
/-- The name of the sentinel's type, out of the given datum. -/
def errType : String := match (Rows.laid_example_com_pathwarden_pathwarden_pkg_bgp_ErrMalformed : DataW Unit) with
  | .iface n _ => n
  | _ => default
theorem row65 (u : TypeId) (h : Ybaf.prog.typeName? 3 u = some errType) : u = 65 :=
  typeName_ptr_named (P := Ybaf.prog) (nm := "errors.errorString") (tp := 65) (by kernel_rfl) (by kernel_rfl) (by decide) u (h.trans (congrArg some (by decide +kernel)))

/-- The settled world with one block more, an errors.errorString; variable number 0 holds a pointer to it. -/
def laidWorld (P : Program) (os : Os) : World :=
  { World.holding P os ⟨#[.cells #[.string ⟨#[109, 97, 108, 102, 111, 114, 109, 101, 100, 32, 66, 71, 80, 32, 109, 101, 115, 115, 97, 103, 101]⟩] 67], #[], []⟩ with
    heap := (World.holding P os ⟨#[.cells #[.string ⟨#[109, 97, 108, 102, 111, 114, 109, 101, 100, 32, 66, 71, 80, 32, 109, 101, 115, 115, 97, 103, 101]⟩] 67], #[], []⟩).heap.modify 0 fun
      | .cells _ t frozen => .cells #[.iface 65 (.pointer (some ⟨8, 0, none⟩))] t frozen
      | o => o }
theorem laid_met (os : Os) (args : Array Value) : laidMet Ybaf.prog Rows.lawS0369AModelRow.laid ((laidWorld Ybaf.prog os).forCall (fun _ _ => 0) ⟨#[], args, []⟩).memory :=
  laidMet_of_run (ps := [.cell 0 0, .cell 8 0]) 8 (by kernel_rfl) (by kernel_rfl) (by kernel_rfl)

set_option maxRecDepth 100000 in
theorem lifted (os : Os) (started : os.Started) (H : Type) (enc : TypeId × Value → H) :
    ReturnsInTold none {} Ybaf.checked os 3 .any Input.okWide ((OpenSpec.ofChange Rows.lawS0369AModelSpec).preRow enc Ybaf.prog Ybaf.f3 [] false Rows.lawS0369AModelRow.laid) (fun F => ((OpenSpec.ofChange Rows.lawS0369AModelSpec).at F).post enc Ybaf.prog Ybaf.f3 false true false false) (aloneAtReturn Ybaf.prog) nothingAlways := by
  refine returnsInTold_of_row (C := Ybaf.checked) (s := OpenSpec.ofChange Rows.lawS0369AModelSpec) (by kernel_rfl) own started (by kernel_rfl) Ybaf.func3
    (OpenSpec.witness_stopped_at (enc := enc) (C := Ybaf.checked) false (laidWorld Ybaf.prog os) #[.slice none 0 0] rfl (by kernel_rfl) (by kernel_rfl) (by kernel_rfl)
      (OpenSpec.preRow_of_B rfl 8 (by kernel_rfl) (by kernel_rfl) (laid_met os _))) ?_
  intro F W base args ds gs before _ hF hval0 hW _ _ hsz hL _
  have hval : ∀ (j : Nat) t v, Ybaf.f3.params[j]? = some t → args[j]? = some v → Value.okWide Ybaf.prog W .any base t v := hval0
  have hW' := hW
  obtain ⟨p, q, hA0, hV0, rfl, hfz, hnd⟩ := hW
  have hA : DataW.TrodAll enc Ybaf.prog W 0 (fun _ => true) true Ybaf.f3.params.toList args.toList ds p := hA0
  have hV : DataW.TrodVars enc Ybaf.prog W (fun _ => true) [errName] gs q := hV0
  rw [Ybaf.params3] at hA hval
  obtain ⟨v0, vs0, d0, ds0, p0, q0, hargs, rfl, rfl, h0, r0⟩ := trodAll_cons hA
  obtain ⟨rfl, rfl, rfl⟩ := trodAll_nil r0
  obtain rfl : args = #[v0] := by cases args; simp_all
  obtain ⟨a1, s1, hv1, hc1, hs1, hz1⟩ := laid_sentinel hL gE gEType Ybaf.underlying27 row65 Ybaf.underlying65 Ybaf.underlying67 rfl rfl Ybaf.underlying9 cells67 cells9
  obtain ⟨rfl, rfl⟩ := hV.unique (vars_read1 enc gE gEType Ybaf.underlying27 hv1 trivial _)
  obtain ⟨a0, len0, cap0, rfl⟩ := okWide_slice Ybaf.underlying22 (hval 0 22 v0 rfl rfl)
  have lt0 : ∀ x ∈ p0, x.block < W.heap.size := by obtain ⟨m, hm⟩ := h0; exact DataW.trod_lt m _ _ _ hm
  obtain ⟨bs, hby, hrng⟩ : ∃ bs : List Int, Byts W (.slice a0 len0 cap0) bs ∧ ∀ z ∈ bs, 0 ≤ z ∧ z ≤ 255 := by
    obtain ⟨fuel, hf⟩ := h0
    obtain ⟨bs, hb, _, hz⟩ := byts_read (v := .slice a0 len0 cap0) hf
    exact ⟨bs, hb, hz⟩
  have hlen : len0 = bs.length := by
    obtain ⟨sa, c, hv, _⟩ := hby
    simp only [Value.slice.injEq] at hv
    exact hv.2.1
  subst hlen
  clear hA0 hV0 hval0
  have hg1 : W.cell? ⟨0, 0, none⟩ = some (.iface 65 (.pointer (some a1))) := by simpa using World.var?_cell gE hv1 0
  have hpos : 0 < W.heap.size := World.block_lt_of_cell? _ _ hg1
  refine (model_any F.told a1 s1 a0 cap0 bs W hF ⟨hg1, hc1⟩ hby hrng).mono fun e W' ⟨he, bel⟩ => ?_
  subst he
  exact ⟨_, rfl, _, _, _, [], _, [.cell 0 0], hW', trodAll_mk1 (shut_bool Ybaf.underlying4 _),
    (trodAll_cons_mk (Below.trod laidOut (by kernel_rfl) (of_decide_eq_true (by kernel_rfl)) h0 bel lt0) trodAll_mk0),
    vars_read1 enc gE gEType Ybaf.underlying27 (var?_below bel gE hpos hv1) trivial _, bel.frame _, fun h => by cases h⟩

theorem proved : Rows.LawS0369AModelToldSaid :=
  Claim7.holds_of_told_tied_any_at .later 3 Ybaf.f3 _ _ [] _ _ _ [.sentinel] true (by kernel_rfl) rfl rfl rfl laidOut (by kernel_rfl) rfl ⟨rfl, rfl, rfl, rfl, rfl, rfl, rfl⟩ rfl rfl (by kernel_rfl) (by kernel_rfl) Ybaf.func3 (by kernel_rfl)
    (of_decide_eq_true (by kernel_rfl)) (of_decide_eq_true (by kernel_rfl)) pstops.symm rfl pknobs.symm (by kernel_rfl)
    (by kernel_rfl) (by kernel_rfl) (by kernel_rfl) (by kernel_rfl) (by kernel_rfl) (by kernel_rfl) (by kernel_rfl) (by kernel_rfl) (by kernel_rfl) rfl (by kernel_rfl) rfl rfl
    rfl rfl
    rfl (by kernel_rfl) (by kernel_rfl) (by kernel_rfl) (by decide) (by kernel_rfl) lawS0369AModel_row_tie
    (OpenClaim.moreEntering_of (by kernel_rfl) (by kernel_rfl) (by kernel_rfl) (by kernel_rfl) (by kernel_rfl) (by kernel_rfl) (by kernel_rfl) (by kernel_rfl) (by kernel_rfl) (by kernel_rfl))
    ⟨_, WideRow.started_initial, pquiet _⟩
    (fun os started _ H enc _ => lifted os started H enc)
end Go.Proofs.YbulkgpsFmt.ModelCard

namespace Go.Proofs.YbulkgpsFmt
theorem model_proved : Rows.LawS0369AModelToldSaid := ModelCard.proved
end Go.Proofs.YbulkgpsFmt
