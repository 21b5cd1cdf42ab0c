/-
  The law's own measure: its loops, taken out of the text.
-/
import Derived.Test.Qxb6606015aWalksA
import Derived.Deep.DeepCutAuto
namespace Go.Proofs.Qxb6606015a
open Go.RowKit
/-- The bodies of a text's loops, in the text's order. -/
def loopsOf : Code → List Code
  | .loop c => c :: loopsOf c
  | .seq a b => loopsOf a ++ loopsOf b
  | .block _ c => loopsOf c
  | .scope c => loopsOf c
  | .cond _ a b => loopsOf a ++ loopsOf b
  | _ => []


end Go.Proofs.Qxb6606015a
