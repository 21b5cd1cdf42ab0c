/-
  No cell of these rows narrows 'for every input' (looked for: loops, veiled, ifaces, maps, wideKeys, modest, calm, conditions, laid).
  DERIVED. THE GIVEN ROWS OF THIS SEAT. 1 by the template 'for every input the law returns true; each argument reads behind the call as it read before'; 0 by the template 'total and deterministic' (their statements: Qxb6607693aTotals.lean).
  GIVEN WITH THE SEED: the statements are not yours to turn. If you find one false, say at which input.
  Laid BY PROGRAM, IN A SANDBOX (cutbox-rows.mjs): the forced cells as the released guide's own fill.sh prints them over the translation b25e530522885c83… (all of the seat's roots in one cut). By AI agents, Wed Nov 11 2026. No macro, syntax, notation, axiom, sorry.
-/
import Derived.Test.Qxb6607693aChecked
import GoSem.Claim
import GoSem.ClaimJoined
import GoSem.ClaimMapViews
import Derived.JoinedTies
import Derived.KernelRfl
namespace Go.Proofs.Qxb6607693a
/- THE CELL 'sum', in the pinned program and in every row, IS THE sha256 OF THE DUMP (.gsa) THAT Qxb6607693aProg.lean LOADS. Nothing in Lean hashes anything: it is a label: what it is worth is what the hold of that sum in a sandbox is worth. -/
noncomputable def Try.pinned : Pinned := { name := "qxb6607693a", sum := "b25e530522885c83e365b8e73b190d8e5383318e8a489c80165141f5ec2d8f94", checked := Try.checked }
namespace Rows
def none {H : Type} : Left H := { results := [], args := [] }

/-- 'zzlaws_frontdoor_b1.FnHeadBytesCutsGiveBufBack': WHATEVER THE INPUT: true; the input reads as it did. -/
def fnHeadBytesCutsGiveBufBackSpec : ChangeSpec := { name := "fnHeadBytesCutsGiveBufBack", fn := fun _ => fun
  | [d1, d2] => { results := [.lit (.bool true)], args := [d1, d2] }
  | _ => none }
def fnHeadBytesCutsGiveBufBackRow : OpenClaim := { program := "qxb6607693a", sum := "b25e530522885c83e365b8e73b190d8e5383318e8a489c80165141f5ec2d8f94", func := "example.com/scaleward/scaleward/zzlaws_frontdoor_b1.FnHeadBytesCutsGiveBufBack", spec := "fnHeadBytesCutsGiveBufBack", apart := false }
def FnHeadBytesCutsGiveBufBackSaid : Prop := fnHeadBytesCutsGiveBufBackRow.holds Try.pinned (OpenSpec.ofChange fnHeadBytesCutsGiveBufBackSpec)

/-- ITS FALSE NEIGHBOUR: 'it returns false'. Refute it at one input. -/
def fnHeadBytesCutsGiveBufBackWrong : ChangeSpec := { name := "fnHeadBytesCutsGiveBufBack", fn := fun _ => fun
  | [d1, d2] => { results := [.lit (.bool false)], args := [d1, d2] }
  | _ => none }
def FnHeadBytesCutsGiveBufBackWrongFalsely : Prop := fnHeadBytesCutsGiveBufBackRow.holds Try.pinned (OpenSpec.ofChange fnHeadBytesCutsGiveBufBackWrong)

end Rows
end Go.Proofs.Qxb6607693a
