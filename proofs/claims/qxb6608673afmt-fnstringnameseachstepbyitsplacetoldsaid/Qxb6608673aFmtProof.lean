/-
  THE STATEMENT 'Rows.FnStringNamesEachStepByItsPlaceToldSaid': the told and tied card.
-/
import Derived.Test.Qxb6608673aFmtCards
import Derived.Test.Qxb6608673aFmtTie
import Derived.Test.Qxb6608673aFmtReads
import Derived.WalkKit
import Derived.ProofKit
import Derived.Stop.JoinedAt
import Derived.Stop.Texts
import Derived.Stop.JoinedTold
import Derived.SizedLaws
import Derived.SevenTiedAt
import Derived.OpenVars
import Derived.Below
namespace Go.Proofs.Qxb6608673aFmt.fnStringNamesEachStepByItsPlace
open Go.ChangeShapes Go.WideShapes Go.ChangeAt Go.RowKit Go.Kit
open Go.Extern.Stop Go.Stop Go.Extern
set_option linter.unusedVariables false

theorem own : ownKnob Tryf.prog.godebug = none := by kernel_rfl
theorem laidOut : laidOutB Tryf.prog = true := by kernel_rfl

set_option maxRecDepth 100000 in
theorem witness_row (os : Os) {H : Type} (enc : TypeId × Value → H) :
    (OpenSpec.ofChange Rows.fnStringNamesEachStepByItsPlaceSpec).preRow enc Tryf.prog Tryf.f3 Rows.fnStringNamesEachStepByItsPlaceRow.domain false Rows.fnStringNamesEachStepByItsPlaceRow.laid
      ((World.laidAll Tryf.prog os Rows.fnStringNamesEachStepByItsPlaceRow.laid).forCall (fun _ _ => 0) ⟨#[], #[.slice none 0 0], []⟩).memory #[.slice none 0 0] :=
  OpenSpec.preRow_of_B rfl 8 (by kernel_rfl) (by kernel_rfl) (by rw [MakeChecks.laidMetH_plain _ _ _ (by kernel_rfl)]; exact laidMet_laidAll _ (by kernel_rfl) (by kernel_rfl))

set_option maxRecDepth 100000 in
set_option maxHeartbeats 1600000 in
theorem lifted (os : Os) (started : os.Started) (H : Type) (enc : TypeId × Value → H) :
    ReturnsInTold none {} Tryf.checked os 3 .any Input.okWide ((OpenSpec.ofChange Rows.fnStringNamesEachStepByItsPlaceSpec).preRow enc Tryf.prog Tryf.f3 Rows.fnStringNamesEachStepByItsPlaceRow.domain false Rows.fnStringNamesEachStepByItsPlaceRow.laid)
      (fun F => ((OpenSpec.ofChange Rows.fnStringNamesEachStepByItsPlaceSpec).at F).post enc Tryf.prog Tryf.f3 false true false false) (aloneAtReturn Tryf.prog) nothingAlways := by
  refine returnsInTold_of_row (C := Tryf.checked) (s := OpenSpec.ofChange Rows.fnStringNamesEachStepByItsPlaceSpec) (by kernel_rfl) own started (by kernel_rfl) Tryf.func3
    (OpenSpec.witness_stopped_at (enc := enc) (C := Tryf.checked) false (World.laidAll Tryf.prog os Rows.fnStringNamesEachStepByItsPlaceRow.laid) #[.slice none 0 0] (World.laidAll_os _ _ _) (by kernel_rfl) (by kernel_rfl) (by kernel_rfl) (witness_row os enc)) ?_
  intro F W base args ds gs before _ hF hval0 hW _ _ hsz hL _
  have hval : ∀ (j : Nat) t v, Tryf.f3.params[j]? = some t → args[j]? = some v → Value.okWide Tryf.prog W .any base t v := hval0
  have hW' := hW
  obtain ⟨p, q, hA0, hV, rfl, _, _⟩ := hW
  have hA : DataW.TrodAll enc Tryf.prog W 0 (fun _ => true) true Tryf.f3.params.toList args.toList ds p := hA0
  rw [Tryf.params3] at hA hval
  obtain ⟨v0, d0, rfl, rfl, h0⟩ := trodAll_one hA
  obtain ⟨g1, rfl⟩ : ∃ g1, gs = [g1] := by
    have hV2 : DataW.TrodVars enc Tryf.prog W (fun _ => true) Rows.fnStringNamesEachStepByItsPlaceSpec.vars gs q := hV
    match gs, hV2 with
    | [g1], _ => exact ⟨g1, rfl⟩
    | [], h => exact False.elim h
    | _ :: _ :: _, h => obtain ⟨_, _, _, _, _, _, _, _, _, _, h, _⟩ := h; exact False.elim h
  obtain ⟨a0, n0, c0, rfl⟩ := okWide_slice Tryf.underlying23 (hval 0 23 v0 rfl rfl)
  have lt0 : ∀ x ∈ p, x.block < W.heap.size := by obtain ⟨m, hm⟩ := h0; exact DataW.trod_lt m _ _ _ hm
  obtain ⟨fd, en, ix, ky, e0, wfs⟩ := read_path h0
  obtain ⟨nf, hT, hnf⟩ := table hL
  clear hA0 hval0
  refine (law_walk F.told nf a0 n0 c0 fd en ix ky W hF hT e0 (fun k hk => told_sizes F nf hnf (fd k) (ix k) (wfs k hk).1 (wfs k hk).2)).mono fun e W' ⟨he, bel⟩ => ?_
  subst he
  exact ⟨_, rfl, _, _, _, [], _, _, hW', trodAll_mk1 (shut_bool Tryf.underlying4 _), trodAll_mk1 (Below.trod laidOut (by kernel_rfl) (of_decide_eq_true (by kernel_rfl)) h0 bel lt0), Below.trodVars laidOut bel (by kernel_rfl) hV, Below.frame bel _, fun h => by cases h⟩

theorem stops : Tryf.pinned.checked.prog.stops = ["fmt.Sprintf"] := by kernel_rfl
theorem stopKnobs : Tryf.pinned.checked.prog.stopKnobs = [] := by kernel_rfl
theorem quiet (os : Os) : Stop.quiet Tryf.pinned.checked.prog os := by
  intro k hk
  rw [stopKnobs] at hk
  cases hk
theorem laidOut7 : laidOutB Tryf.pinned.checked.prog = true := by kernel_rfl

set_option maxRecDepth 100000 in
/-- THE STATEMENT -/
theorem proved : Rows.FnStringNamesEachStepByItsPlaceToldSaid :=
  Claim7.holds_of_told_tied_any_at .later 3 Tryf.f3 "fmt.Sprintf" [] [] _ _ _ _ _ (by kernel_rfl) rfl rfl rfl laidOut7 (by kernel_rfl) rfl ⟨rfl, rfl, rfl, rfl, rfl, rfl, rfl⟩ rfl rfl (by kernel_rfl) (by kernel_rfl) Tryf.func3 (by kernel_rfl)
    (of_decide_eq_true (by kernel_rfl)) (of_decide_eq_true (by kernel_rfl)) stops.symm rfl stopKnobs.symm (by kernel_rfl)
    (by kernel_rfl) (by kernel_rfl) (by kernel_rfl) (by kernel_rfl) (by kernel_rfl) (by kernel_rfl) (by kernel_rfl) (by kernel_rfl) (by kernel_rfl) rfl (by kernel_rfl) rfl rfl
    rfl rfl
    rfl (by kernel_rfl) (by kernel_rfl) (by kernel_rfl) (by decide) (by kernel_rfl) fnStringNamesEachStepByItsPlace_row_tie
    (OpenClaim.moreEntering_of (by kernel_rfl) (by kernel_rfl) (by kernel_rfl) (by kernel_rfl) (by kernel_rfl) (by kernel_rfl) (by kernel_rfl) (by kernel_rfl) (by kernel_rfl) (by kernel_rfl))
    ⟨_, WideRow.started_initial, quiet _⟩
    (fun os started _ H enc _ => lifted os started H enc)
end Go.Proofs.Qxb6608673aFmt.fnStringNamesEachStepByItsPlace
