/-
  NARROWER THAN 'FOR EVERY INPUT', by the rows' own cells (each row's printed sentence says how): FnStringNamesEachStepByItsPlace: laid.
  DERIVED. THE GIVEN ROWS OF THIS SEAT. 1 by the template 'for every input the law returns true; each argument reads behind the call as it read before'; 0 by the template 'total and deterministic' (their statements: Qxb6608673aFmtTotals.lean).
  GIVEN WITH THE SEED: the statements are not yours to turn. If you find one false, say at which input.
  Laid BY PROGRAM, IN A SANDBOX (cutbox-rows.mjs): the forced cells as the released guide's own fill.sh prints them over the translation d78dbbc8b44b77ee… (all of the seat's roots in one cut). By AI agents, Wed Nov 11 2026. No macro, syntax, notation, axiom, sorry.
-/
import Derived.Test.Qxb6608673aFmtChecked
import GoSem.Claim
import GoSem.ClaimJoined
import GoSem.ClaimMapViews
import Derived.JoinedTies
import Derived.KernelRfl
namespace Go.Proofs.Qxb6608673aFmt
/- THE CELL 'sum', in the pinned program and in every row, IS THE sha256 OF THE DUMP (.gsa) THAT Qxb6608673aFmtProg.lean LOADS. Nothing in Lean hashes anything: it is a label: what it is worth is what the hold of that sum in a sandbox is worth. -/
noncomputable def Tryf.pinned : Pinned := { name := "qxb6608673afmt", sum := "d78dbbc8b44b77ee8af421aefb5d962d3c5cf9b2c15c490c5fef399136fb4491", checked := Tryf.checked }
namespace Rows
def none {H : Type} : Left H := { results := [], args := [] }

/- WHAT THE LISTED PACKAGE-LEVEL VARIABLES READ AS WHEN THE CALL BEGINS. Each datum BY PROGRAM (the guide's laid-datum.mjs) off the statement by which the dump's own 'gosem.cut.vars' lays the variable. In a bare row this is a premise. The card (Qxb6608673aFmtCards.lean) ties it to the program's text. -/
def laid_example_com_peerwright_peerwright_sim_scenarioFields {H : Type} : DataW H := .agg [.agg [.lit (.string [80, 111, 111, 108, 115]), .lit (.bool false)], .agg [.lit (.string [79, 83, 68, 115]), .lit (.bool true)], .agg [.lit (.string [83, 116, 97, 114, 116, 69, 112, 111, 99, 104]), .lit (.bool true)], .agg [.lit (.string [83, 116, 97, 114, 116]), .lit (.bool false)], .agg [.lit (.string [71, 114, 111, 117, 112, 115]), .lit (.bool false)], .agg [.lit (.string [69, 118, 101, 110, 116, 115]), .lit (.bool false)], .agg [.lit (.string [72, 105, 115, 116, 111, 114, 121, 46, 67, 114, 101, 97, 116, 101, 100]), .lit (.bool true)], .agg [.lit (.string [72, 105, 115, 116, 111, 114, 121, 46, 76, 69, 83]), .lit (.bool true)], .agg [.lit (.string [72, 105, 115, 116, 111, 114, 121, 46, 76, 69, 67]), .lit (.bool true)], .agg [.lit (.string [72, 105, 115, 116, 111, 114, 121, 46, 83, 97, 109, 101, 85, 112, 83, 105, 110, 99, 101]), .lit (.bool true)], .agg [.lit (.string [72, 105, 115, 116, 111, 114, 121, 46, 83, 97, 109, 101, 73, 110, 116, 101, 114, 118, 97, 108, 83, 105, 110, 99, 101]), .lit (.bool true)], .agg [.lit (.string [72, 105, 115, 116, 111, 114, 121, 46, 83, 97, 109, 101, 80, 114, 105, 109, 97, 114, 121, 83, 105, 110, 99, 101]), .lit (.bool true)], .agg [.lit (.string [80, 97, 115, 116, 73, 110, 116, 101, 114, 118, 97, 108, 115]), .lit (.bool false)], .agg [.lit (.string [77, 97, 121, 72, 97, 118, 101, 87, 114, 105, 116, 116, 101, 110]), .lit (.bool true)], .agg [.lit (.string [77, 101, 109, 98, 101, 114, 115]), .lit (.bool false)], .agg [.lit (.string [76, 111, 103]), .lit (.bool false)], .agg [.lit (.string [79, 98, 106, 101, 99, 116, 115]), .lit (.bool false)], .agg [.lit (.string [77, 105, 115, 115, 105, 110, 103]), .lit (.bool false)], .agg [.lit (.string [84, 97, 105, 108]), .lit (.bool true)], .agg [.lit (.string [69, 110, 116, 114, 105, 101, 115]), .lit (.bool false)], .agg [.lit (.string [79, 98, 106, 101, 99, 116, 115]), .lit (.bool true)]]

/-- 'zzlaws_sim_b1.FnStringNamesEachStepByItsPlace': WHATEVER THE INPUT: true; the input reads as it did. -/
def fnStringNamesEachStepByItsPlaceSpec : ChangeSpec := { name := "fnStringNamesEachStepByItsPlace", vars := ["example.com/peerwright/peerwright/sim.scenarioFields"], fn := fun _ => fun
  | [d, g1] => { results := [.lit (.bool true)], args := [d], vars := [g1] }
  | _ => none }
def fnStringNamesEachStepByItsPlaceRow : OpenClaim := { program := "qxb6608673afmt", sum := "d78dbbc8b44b77ee8af421aefb5d962d3c5cf9b2c15c490c5fef399136fb4491", func := "example.com/peerwright/peerwright/zzlaws_sim_b1.FnStringNamesEachStepByItsPlace", spec := "fnStringNamesEachStepByItsPlace", stops := ["fmt.Sprintf"], inPlace := ["fmt.Sprintf", "internal/abi.NoEscape"], unfollowed := true, recurses := true, named := ["example.com/peerwright/peerwright/sim.scenarioFields"], apart := false, laid := [("example.com/peerwright/peerwright/sim.scenarioFields", laid_example_com_peerwright_peerwright_sim_scenarioFields)] }
/-- NO THEOREM (fmt's text is open here; it may be false): for the released tool's asking of the row's closed facts alone. THE STATEMENT IS 'FnStringNamesEachStepByItsPlaceToldSaid' (Qxb6608673aFmtCards.lean). -/
def FnStringNamesEachStepByItsPlaceFormAsk : Prop := fnStringNamesEachStepByItsPlaceRow.holds Tryf.pinned (OpenSpec.ofChange fnStringNamesEachStepByItsPlaceSpec)

/-- ITS FALSE NEIGHBOUR: 'it returns false'. Refute it at one input. -/
def fnStringNamesEachStepByItsPlaceWrong : ChangeSpec := { name := "fnStringNamesEachStepByItsPlace", vars := ["example.com/peerwright/peerwright/sim.scenarioFields"], fn := fun _ => fun
  | [d, g1] => { results := [.lit (.bool false)], args := [d], vars := [g1] }
  | _ => none }
def FnStringNamesEachStepByItsPlaceWrongFormAsk : Prop := fnStringNamesEachStepByItsPlaceRow.holds Tryf.pinned (OpenSpec.ofChange fnStringNamesEachStepByItsPlaceWrong)

end Rows
end Go.Proofs.Qxb6608673aFmt
