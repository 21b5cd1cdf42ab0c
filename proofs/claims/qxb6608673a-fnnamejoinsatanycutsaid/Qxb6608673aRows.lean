/-
  No cell of these rows narrows 'for every input' (looked for: loops, veiled, ifaces, maps, wideKeys, modest, calm, conditions, laid).
  DERIVED. THE GIVEN ROWS OF THIS SEAT. 1 by the template 'for every input the law returns true; each argument reads behind the call as it read before'; 0 by the template 'total and deterministic' (their statements: Qxb6608673aTotals.lean).
  GIVEN WITH THE SEED: the statements are not yours to turn. If you find one false, say at which input.
  Laid BY PROGRAM, IN A SANDBOX (cutbox-rows.mjs): the forced cells as the released guide's own fill.sh prints them over the translation 42de5219c5e91ca3… (all of the seat's roots in one cut). By AI agents, Wed Nov 11 2026. No macro, syntax, notation, axiom, sorry.
-/
import Derived.Test.Qxb6608673aChecked
import GoSem.Claim
import GoSem.ClaimJoined
import GoSem.ClaimMapViews
import Derived.JoinedTies
import Derived.KernelRfl
namespace Go.Proofs.Qxb6608673a
/- THE CELL 'sum', in the pinned program and in every row, IS THE sha256 OF THE DUMP (.gsa) THAT Qxb6608673aProg.lean LOADS. Nothing in Lean hashes anything: it is a label: what it is worth is what the hold of that sum in a sandbox is worth. -/
noncomputable def Try.pinned : Pinned := { name := "qxb6608673a", sum := "42de5219c5e91ca32ccc26cd5323090d851f279464f1070961b72cfc14ba0f49", checked := Try.checked }
namespace Rows
def none {H : Type} : Left H := { results := [], args := [] }

/-- 'zzlaws_sim_b1.FnNameJoinsAtAnyCut': WHATEVER THE INPUT: true; the input reads as it did. -/
def fnNameJoinsAtAnyCutSpec : ChangeSpec := { name := "fnNameJoinsAtAnyCut", fn := fun _ => fun
  | [d1, d2] => { results := [.lit (.bool true)], args := [d1, d2] }
  | _ => none }
def fnNameJoinsAtAnyCutRow : OpenClaim := { program := "qxb6608673a", sum := "42de5219c5e91ca32ccc26cd5323090d851f279464f1070961b72cfc14ba0f49", func := "example.com/peerwright/peerwright/zzlaws_sim_b1.FnNameJoinsAtAnyCut", spec := "fnNameJoinsAtAnyCut", inPlace := ["internal/abi.NoEscape"], unfollowed := true, recurses := true, apart := false }
def FnNameJoinsAtAnyCutSaid : Prop := fnNameJoinsAtAnyCutRow.holds Try.pinned (OpenSpec.ofChange fnNameJoinsAtAnyCutSpec)

/-- ITS FALSE NEIGHBOUR: 'it returns false'. Refute it at one input. -/
def fnNameJoinsAtAnyCutWrong : ChangeSpec := { name := "fnNameJoinsAtAnyCut", fn := fun _ => fun
  | [d1, d2] => { results := [.lit (.bool false)], args := [d1, d2] }
  | _ => none }
def FnNameJoinsAtAnyCutWrongFalsely : Prop := fnNameJoinsAtAnyCutRow.holds Try.pinned (OpenSpec.ofChange fnNameJoinsAtAnyCutWrong)

end Rows
end Go.Proofs.Qxb6608673a
