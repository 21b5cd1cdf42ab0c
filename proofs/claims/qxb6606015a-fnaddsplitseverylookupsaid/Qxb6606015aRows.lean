/-
  No cell of these rows narrows 'for every input' (looked for: loops, veiled, ifaces, maps, wideKeys, modest, calm, conditions, laid).
  DERIVED. THE GIVEN ROWS OF THIS SEAT. 3 by the template 'for every input the law returns true; each argument reads behind the call as it read before'; 0 by the template 'total and deterministic' (their statements: Qxb6606015aTotals.lean).
  GIVEN WITH THE SEED: the statements are not yours to turn. If you find one false, say at which input.
  Laid BY PROGRAM, IN A SANDBOX (cutbox-rows.mjs): the forced cells as the released guide's own fill.sh prints them over the translation 5f115674f1e0e868… (all of the seat's roots in one cut). By AI agents, Wed Nov 11 2026. No macro, syntax, notation, axiom, sorry.
-/
import Derived.Test.Qxb6606015aChecked
import GoSem.Claim
import GoSem.ClaimJoined
import GoSem.ClaimMapViews
import Derived.JoinedTies
import Derived.KernelRfl
namespace Go.Proofs.Qxb6606015a
/- THE CELL 'sum', in the pinned program and in every row, IS THE sha256 OF THE DUMP (.gsa) THAT Qxb6606015aProg.lean LOADS. Nothing in Lean hashes anything: it is a label: what it is worth is what the hold of that sum in a sandbox is worth. -/
noncomputable def Try.pinned : Pinned := { name := "qxb6606015a", sum := "5f115674f1e0e86802b238fb36856623ae1c550ee0a789267d7537d7883d5ffa", checked := Try.checked }
namespace Rows
def none {H : Type} : Left H := { results := [], args := [] }

/-- 'zzlaws_internal_corim_b1.FnAddSplitsEveryLookup': WHATEVER THE INPUT: true; the input reads as it did. -/
def fnAddSplitsEveryLookupSpec : ChangeSpec := { name := "fnAddSplitsEveryLookup", fn := fun _ => fun
  | [d1, d2, d3, d4, d5, d6, d7, d8] => { results := [.lit (.bool true)], args := [d1, d2, d3, d4, d5, d6, d7, d8] }
  | _ => none }
def fnAddSplitsEveryLookupRow : OpenClaim := { program := "qxb6606015a", sum := "5f115674f1e0e86802b238fb36856623ae1c550ee0a789267d7537d7883d5ffa", func := "example.com/verdicts-from-evidence/verdicts-from-evidence/zzlaws_internal_corim_b1.FnAddSplitsEveryLookup", spec := "fnAddSplitsEveryLookup", unfollowed := true, recurses := true, apart := false }
def FnAddSplitsEveryLookupSaid : Prop := fnAddSplitsEveryLookupRow.holds Try.pinned (OpenSpec.ofChange fnAddSplitsEveryLookupSpec)

/-- ITS FALSE NEIGHBOUR: 'it returns false'. Refute it at one input. -/
def fnAddSplitsEveryLookupWrong : ChangeSpec := { name := "fnAddSplitsEveryLookup", fn := fun _ => fun
  | [d1, d2, d3, d4, d5, d6, d7, d8] => { results := [.lit (.bool false)], args := [d1, d2, d3, d4, d5, d6, d7, d8] }
  | _ => none }
def FnAddSplitsEveryLookupWrongFalsely : Prop := fnAddSplitsEveryLookupRow.holds Try.pinned (OpenSpec.ofChange fnAddSplitsEveryLookupWrong)

/-- 'zzlaws_internal_corim_b1.FnKeysForPartitionsTheKeysByDevice': WHATEVER THE INPUT: true; the input reads as it did. -/
def fnKeysForPartitionsTheKeysByDeviceSpec : ChangeSpec := { name := "fnKeysForPartitionsTheKeysByDevice", fn := fun _ => fun
  | [d1, d2, d3] => { results := [.lit (.bool true)], args := [d1, d2, d3] }
  | _ => none }
def fnKeysForPartitionsTheKeysByDeviceRow : OpenClaim := { program := "qxb6606015a", sum := "5f115674f1e0e86802b238fb36856623ae1c550ee0a789267d7537d7883d5ffa", func := "example.com/verdicts-from-evidence/verdicts-from-evidence/zzlaws_internal_corim_b1.FnKeysForPartitionsTheKeysByDevice", spec := "fnKeysForPartitionsTheKeysByDevice", apart := false }
def FnKeysForPartitionsTheKeysByDeviceSaid : Prop := fnKeysForPartitionsTheKeysByDeviceRow.holds Try.pinned (OpenSpec.ofChange fnKeysForPartitionsTheKeysByDeviceSpec)

/-- ITS FALSE NEIGHBOUR: 'it returns false'. Refute it at one input. -/
def fnKeysForPartitionsTheKeysByDeviceWrong : ChangeSpec := { name := "fnKeysForPartitionsTheKeysByDevice", fn := fun _ => fun
  | [d1, d2, d3] => { results := [.lit (.bool false)], args := [d1, d2, d3] }
  | _ => none }
def FnKeysForPartitionsTheKeysByDeviceWrongFalsely : Prop := fnKeysForPartitionsTheKeysByDeviceRow.holds Try.pinned (OpenSpec.ofChange fnKeysForPartitionsTheKeysByDeviceWrong)

/-- 'zzlaws_internal_corim_b1.FnReferenceValuesForPartitionsTheValuesByImplementation': WHATEVER THE INPUT: true; the input reads as it did. -/
def fnReferenceValuesForPartitionsTheValuesByImplementationSpec : ChangeSpec := { name := "fnReferenceValuesForPartitionsTheValuesByImplementation", fn := fun _ => fun
  | [d1, d2, d3] => { results := [.lit (.bool true)], args := [d1, d2, d3] }
  | _ => none }
def fnReferenceValuesForPartitionsTheValuesByImplementationRow : OpenClaim := { program := "qxb6606015a", sum := "5f115674f1e0e86802b238fb36856623ae1c550ee0a789267d7537d7883d5ffa", func := "example.com/verdicts-from-evidence/verdicts-from-evidence/zzlaws_internal_corim_b1.FnReferenceValuesForPartitionsTheValuesByImplementation", spec := "fnReferenceValuesForPartitionsTheValuesByImplementation", apart := false }
def FnReferenceValuesForPartitionsTheValuesByImplementationSaid : Prop := fnReferenceValuesForPartitionsTheValuesByImplementationRow.holds Try.pinned (OpenSpec.ofChange fnReferenceValuesForPartitionsTheValuesByImplementationSpec)

/-- ITS FALSE NEIGHBOUR: 'it returns false'. Refute it at one input. -/
def fnReferenceValuesForPartitionsTheValuesByImplementationWrong : ChangeSpec := { name := "fnReferenceValuesForPartitionsTheValuesByImplementation", fn := fun _ => fun
  | [d1, d2, d3] => { results := [.lit (.bool false)], args := [d1, d2, d3] }
  | _ => none }
def FnReferenceValuesForPartitionsTheValuesByImplementationWrongFalsely : Prop := fnReferenceValuesForPartitionsTheValuesByImplementationRow.holds Try.pinned (OpenSpec.ofChange fnReferenceValuesForPartitionsTheValuesByImplementationWrong)

end Rows
end Go.Proofs.Qxb6606015a
