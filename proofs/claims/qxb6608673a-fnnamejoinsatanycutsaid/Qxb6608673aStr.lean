/-
  The contract of (*strings.Builder).String at this program, laid by the kit's tools (lay-shelf.mjs, lay-plain.mjs) for this program.
-/
import Derived.Shelf.Strings.Builder1
import Derived.Test.Qxb6608673aProg
namespace Go.Proofs.Qxb6608673a
open Go.Shelf
def Try.lays169_ren : Go.Shelf.Ren := ⟨fun | 169 => 11 | n => n, fun | 70 => 32 | 9 => 9 | 0 => 0 | 72 => 35 | 37 => 33 | 127 => 41 | 3 => 3 | 5 => 5 | n => n, fun | n => n⟩
theorem Try.lays169 : Go.Proofs.Lays.n169 Try.prog Try.lays169_ren := {
  mixed := by kernel_rfl
  f169 := Try.func11.trans (congrArg some (by kernel_rfl))
  t0 := Try.underlying0
  a0 := Try.isAgg0
  z0 := Try.sizeOf0
  v0 := Try.zeroValue0
  t3 := Try.underlying3
  a3 := Try.isAgg3
  z3 := Try.sizeOf3
  v3 := Try.zeroValue3
  t9 := Try.underlying9
  a9 := Try.isAgg9
  z9 := Try.sizeOf9
  v9 := Try.zeroValue9
  t37 := Try.underlying33
  a37 := Try.isAgg33
  z37 := Try.sizeOf33
  v37 := Try.zeroValue33
  t70 := Try.underlying32
  a70 := Try.isAgg32
  z70 := Try.sizeOf32
  v70 := Try.zeroValue32
  t72 := Try.underlying35
  a72 := Try.isAgg35
  z72 := Try.sizeOf35
  v72 := Try.zeroValue35
  t127 := Try.underlying41
  a127 := Try.isAgg41
  z127 := Try.sizeOf41
  v127 := Try.zeroValue41 }
theorem Try.Builder_Extra_169 : Builder.Extra Try.prog Try.lays169_ren := {
  sizeBuilder := by kernel_rfl
  liesBuilder := by kernel_rfl
  t5 := Try.underlying5
  a5 := Try.isAgg5
  z5 := Try.sizeOf5
  v5 := Try.zeroValue5
  infoByte := by kernel_rfl
  cellsByte := by kernel_rfl
  sizeByte := by kernel_rfl
  neB5 := by decide }
open Go.RowKit in
theorem Try.Builder_String_any (B b : Nat) (l : List UInt8) (w : World) (h : Lib.IsBuilder 35 5 B b (Lib.byteCells l) w) (hBw : B ≤ w.heap.size) :
    Calls Try.prog 11 #[.pointer (some ⟨b, 0, none⟩)] w fun e w' => e = .returned (.string ⟨l.toArray⟩) ∧ Below B w w' := Any.Builder_String_any Try.lays169 Try.Builder_Extra_169 B b l w h hBw
end Go.Proofs.Qxb6608673a
