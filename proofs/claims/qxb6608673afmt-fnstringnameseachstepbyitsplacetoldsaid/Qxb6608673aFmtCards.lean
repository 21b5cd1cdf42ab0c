/-
  DERIVED. GIVEN WITH THE SEED: THE CARDS: each row of Qxb6608673aFmtRows.lean that lists a variable, with what it lists TIED to the program's text (the seventh form; the later family's looks); each row that meets fmt, with fmt's text TOLD by the authors' own Lean function (tested against real Go, not proved from fmt's source: count such statements apart). THE CARD IS WHAT COUNTS. Prove the row's statement (the work); the ties are given (Qxb6608673aFmtTie.lean); close each card by the builder's one call (the guide's Derived/Test/ToyasCard.lean, 'card_holds'). Laid BY PROGRAM, IN A SANDBOX (cutbox-door.mjs). By AI agents, Wed Nov 11 2026. No macro, syntax, notation, axiom, sorry.
-/
import Derived.Test.Qxb6608673aFmtRows
import GoSem.ClaimSeven
namespace Go.Proofs.Qxb6608673aFmt
namespace Rows

/-- THE TOLD AND TIED CARD OF 'zzlaws_sim_b1.FnStringNamesEachStepByItsPlace'. -/
def fnStringNamesEachStepByItsPlaceCard : Claim7 := { stood := { row := fnStringNamesEachStepByItsPlaceRow, standIns := [], harness := (true, "596058f61980d73199c618c709f7d0ba61a55f69b22408e2a33e3b0f9dfc1329"), looks := false }, told := true, laidByText := true, laidKinds := [.data], laidTests := true, laidLooks := .later, goes := false }
def FnStringNamesEachStepByItsPlaceToldSaid : Prop := Claim7.holds Tryf.pinned (.plain (OpenSpec.ofChange fnStringNamesEachStepByItsPlaceSpec)) fnStringNamesEachStepByItsPlaceCard
/-- ITS FALSE NEIGHBOUR. Refute it at one input. -/
def FnStringNamesEachStepByItsPlaceToldWrongFalsely : Prop := Claim7.holds Tryf.pinned (.plain (OpenSpec.ofChange fnStringNamesEachStepByItsPlaceWrong)) fnStringNamesEachStepByItsPlaceCard
end Rows
end Go.Proofs.Qxb6608673aFmt
