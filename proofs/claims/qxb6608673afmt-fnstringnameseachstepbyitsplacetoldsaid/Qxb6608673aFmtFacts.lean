/-
  The closed facts on fmt.Sprintf at this program; what fmt is asked; what it tells.
-/
import Derived.Test.Qxb6608673aFmtProg
import Derived.Stop.CallBack
import Derived.Stop.IfaceNil
import Derived.Stop.FmtTextKit
import Derived.Stop.JoinedTold
import Derived.Stop.Texts
import GoSem.ClaimData
namespace Go.Proofs.Qxb6608673aFmt
open Go.RowKit Go.Extern.Stop Go.Stop Go.Extern Go.Kit

@[go_sem] theorem Tryf.call10 (args : Array Value) (w : World) : (callFunc 10 args).run Tryf.prog w = ((FmtStop.sprintf #[9, 60] #[9] args).run Tryf.prog w).andThen fun v w' => .ok (.value v) w' :=
  run_callFunc_extern Tryf.func10 (by kernel_rfl) (by kernel_rfl) (by kernel_rfl) (by kernel_rfl) args w
@[go_sem] theorem Tryf.guard (name : String) (w : World) : (FmtStop.guard name).run Tryf.prog w = .ok () w := by kernel_rfl
-- the index in brackets, 1 operand
@[go_sem] theorem Tryf.fmtA : FmtStop.printed? ⟨#[91, 37, 100, 93]⟩ 1 = some [(0, 100, false)] := by kernel_rfl
@[go_sem] theorem Tryf.fmtAr (w : World) : (FmtDoors.printed ⟨#[91, 37, 100, 93]⟩ 1).run Tryf.prog w = .ok [(0, 100, false)] w := by kernel_rfl
-- the field by its number, 1 operand
@[go_sem] theorem Tryf.fmtB : FmtStop.printed? ⟨#[83, 99, 101, 110, 97, 114, 105, 111, 70, 105, 101, 108, 100, 40, 37, 100, 41]⟩ 1 = some [(0, 100, false)] := by kernel_rfl
@[go_sem] theorem Tryf.fmtBr (w : World) : (FmtDoors.printed ⟨#[83, 99, 101, 110, 97, 114, 105, 111, 70, 105, 101, 108, 100, 40, 37, 100, 41]⟩ 1).run Tryf.prog w = .ok [(0, 100, false)] w := by kernel_rfl
theorem Tryf.name3 : Tryf.prog.typeName? 3 3 = some "int" := by kernel_rfl
def Tryf.shape3 : List UInt8 := [5, 3, 0, 0, 0, 0, 0, 0, 0, 105, 110, 116]
@[go_sem] theorem Tryf.op3_100 (name : String) (x : Int) (w : World) : (FmtStop.operand name false 100 false (.iface 3 (.int .i64 x))).run Tryf.prog w = .ok (Tryf.shape3, Go.Extern.Stop.digits 8 (x % 2 ^ 64).toNat) w := by kernel_rfl

/-- What fmt is asked for an index. -/
def readA (x : Int) : List (List UInt8) := [[91, 37, 100, 93], Tryf.shape3, digits 8 (x % 18446744073709551616).toNat]
/-- What fmt is asked for a field out of the table. -/
def readB (x : Int) : List (List UInt8) := [[83, 99, 101, 110, 97, 114, 105, 111, 70, 105, 101, 108, 100, 40, 37, 100, 41], Tryf.shape3, digits 8 (x % 18446744073709551616).toNat]
def textA (x : Int) : List UInt8 := [91] ++ Lib.itoa x ++ [93]
def textB (x : Int) : List UInt8 := [83, 99, 101, 110, 97, 114, 105, 111, 70, 105, 101, 108, 100, 40] ++ Lib.itoa x ++ [41]
theorem parseA : (FmtText.parse [91, 37, 100, 93]).map FmtText.glue = some [.lit [91], .verb {} 100, .lit [93]] := by rfl
theorem parseB : (FmtText.parse [83, 99, 101, 110, 97, 114, 105, 111, 70, 105, 101, 108, 100, 40, 37, 100, 41]).map FmtText.glue = some [.lit [83, 99, 101, 110, 97, 114, 105, 111, 70, 105, 101, 108, 100, 40], .verb {} 100, .lit [41]] := by rfl
theorem text_A (x : Int) (hw : (Lit.int .i64 x).wf = true) : FmtText.text "fmt.Sprintf" (readA x) = some (textA x) := by
  have hi := FmtText.operand_int_at (sh := Tryf.shape3) (k := .i64) rfl rfl x hw
  rw [readA, FmtText.text_sprintf_glued parseA (FmtText.operands_cons hi FmtText.operands_nil)]
  simp [FmtText.render, FmtText.printArg_d _ _ hw, textA]
theorem text_B (x : Int) (hw : (Lit.int .i64 x).wf = true) : FmtText.text "fmt.Sprintf" (readB x) = some (textB x) := by
  have hi := FmtText.operand_int_at (sh := Tryf.shape3) (k := .i64) rfl rfl x hw
  rw [readB, FmtText.text_sprintf_glued parseB (FmtText.operands_cons hi FmtText.operands_nil)]
  simp [FmtText.render, FmtText.printArg_d _ _ hw, textB]
theorem told_A (F : Interp) (x : Int) (hw : (Lit.int .i64 x).wf = true) : (FmtStop.textOf (F.told "fmt.Sprintf" (readA x) 0)).data.toList = textA x := by
  have l := FmtText.itoa_length_le hw
  have ht := told_string F (text_A x hw) (by simp [textA]; omega)
  rw [textOf_list, ht]
theorem told_B (F : Interp) (x : Int) (hw : (Lit.int .i64 x).wf = true) : (FmtStop.textOf (F.told "fmt.Sprintf" (readB x) 0)).data.toList = textB x := by
  have l := FmtText.itoa_length_le hw
  have ht := told_string F (text_B x hw) (by simp [textB]; omega)
  rw [textOf_list, ht]
end Go.Proofs.Qxb6608673aFmt
