/-
  The contract of (*strings.Builder).String at this program, laid by the kit's tools (lay-shelf.mjs, lay-plain.mjs) for this program.
-/
import Derived.Shelf.Strings.Builder1
import Derived.Test.Qxb6608673aFmtProg
namespace Go.Proofs.Qxb6608673aFmt
open Go.Shelf
def Tryf.lays169_ren : Go.Shelf.Ren := ⟨fun | 169 => 15 | n => n, fun | 70 => 35 | 9 => 9 | 0 => 0 | 72 => 38 | 37 => 36 | 127 => 43 | 3 => 3 | 5 => 5 | n => n, fun | n => n⟩
theorem Tryf.lays169 : Go.Proofs.Lays.n169 Tryf.prog Tryf.lays169_ren := {
  mixed := by kernel_rfl
  f169 := Tryf.func15.trans (congrArg some (by kernel_rfl))
  t0 := Tryf.underlying0
  a0 := Tryf.isAgg0
  z0 := Tryf.sizeOf0
  v0 := Tryf.zeroValue0
  t3 := Tryf.underlying3
  a3 := Tryf.isAgg3
  z3 := Tryf.sizeOf3
  v3 := Tryf.zeroValue3
  t9 := Tryf.underlying9
  a9 := Tryf.isAgg9
  z9 := Tryf.sizeOf9
  v9 := Tryf.zeroValue9
  t37 := Tryf.underlying36
  a37 := Tryf.isAgg36
  z37 := Tryf.sizeOf36
  v37 := Tryf.zeroValue36
  t70 := Tryf.underlying35
  a70 := Tryf.isAgg35
  z70 := Tryf.sizeOf35
  v70 := Tryf.zeroValue35
  t72 := Tryf.underlying38
  a72 := Tryf.isAgg38
  z72 := Tryf.sizeOf38
  v72 := Tryf.zeroValue38
  t127 := Tryf.underlying43
  a127 := Tryf.isAgg43
  z127 := Tryf.sizeOf43
  v127 := Tryf.zeroValue43 }
theorem Tryf.Builder_Extra_169 : Builder.Extra Tryf.prog Tryf.lays169_ren := {
  sizeBuilder := by kernel_rfl
  liesBuilder := by kernel_rfl
  t5 := Tryf.underlying5
  a5 := Tryf.isAgg5
  z5 := Tryf.sizeOf5
  v5 := Tryf.zeroValue5
  infoByte := by kernel_rfl
  cellsByte := by kernel_rfl
  sizeByte := by kernel_rfl
  neB5 := by decide }
open Go.RowKit in
theorem Tryf.Builder_String_any (B b : Nat) (l : List UInt8) (w : World) (h : Lib.IsBuilder 38 5 B b (Lib.byteCells l) w) (hBw : B ≤ w.heap.size) :
    Calls Tryf.prog 15 #[.pointer (some ⟨b, 0, none⟩)] w fun e w' => e = .returned (.string ⟨l.toArray⟩) ∧ Below B w w' := Any.Builder_String_any Tryf.lays169 Tryf.Builder_Extra_169 B b l w h hBw
end Go.Proofs.Qxb6608673aFmt
