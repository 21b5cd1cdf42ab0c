/-
  One input that fits, shown without trying 16384 cells one by one.
-/
import Derived.Test.Qxb6608555aRows
import Derived.Test.Qxb6608555aReads
import Derived.WalkKit
import Derived.ProofKit
import Derived.OpenShut
import Derived.ChangeOld
import Derived.SizedLaws
namespace Go.Proofs.Qxb6608555a
open Go.ChangeShapes Go.WideShapes Go.ChangeAt Go.RowKit

/-- The input's table: zeroes. -/
def zeros : Array Value := Array.replicate 16384 (.int .u16 0)
theorem zeros_get (i : Nat) (v : Value) (h : zeros[i]? = some v) : i < 16384 ∧ v = .int .u16 0 := by
  unfold zeros at h
  rw [Array.getElem?_replicate] at h
  split at h
  · rename_i hi
    cases h
    exact ⟨hi, rfl⟩
  · cases h
theorem zeros_size : zeros.size = 16384 := by unfold zeros; exact Array.size_replicate

theorem types29 : ∃ d, Try.prog.depth = d + 2 := ⟨Try.prog.depth - 2, by
  have h : decide (2 ≤ Try.prog.depth) = true := by kernel_rfl
  have := of_decide_eq_true h
  omega⟩
theorem flat_rep (t : Nat) (n : Nat) : (List.replicate n [t]).flatten = List.replicate n t := by
  induction n with
  | zero => rfl
  | succ n ih => rw [List.replicate_succ, List.replicate_succ, List.flatten_cons, ih]; rfl
theorem cellTypes29 : Try.prog.cellTypes Try.prog.depth 29 = some (List.replicate 16384 28) := by
  obtain ⟨d, hd⟩ := types29
  rw [hd]
  have h28 : Try.prog.cellTypes (d + 1) 28 = some [28] := by
    simp [Program.cellTypes, Try.underlying28]
  rw [Program.cellTypes, Try.underlying29]
  simp only [h28, Option.map_some, flat_rep]

theorem okWide_zeros (W : World) (base : Nat) : Value.okWide Try.prog W .any base 29 (.agg zeros) := by
  simp only [Value.okWide, Try.underlying29]
  refine ⟨zeros, rfl, by rw [zeros_size, Try.cells29], List.replicate 16384 28, cellTypes29, ⟨1, by rw [zeros_size, List.length_replicate]⟩, fun i v hv => ?_⟩
  obtain ⟨hi, rfl⟩ := zeros_get i v hv
  refine ⟨28, ?_, ?_⟩
  · rw [List.length_replicate, List.getElem?_replicate, if_pos (by omega)]
  · simp [Cell.okWide, Cell.ok, Try.underlying28, IntKind.has, IntKind.min, IntKind.max, IntKind.signed, IntKind.bits]

theorem mapM_same {α β : Type} (f : α → Option β) (c : β) : ∀ l : List α, (∀ x ∈ l, f x = some c) → ∃ ys, l.mapM f = some ys ∧ ∀ y ∈ ys, y = c
  | [], _ => ⟨[], rfl, fun y hy => by cases hy⟩
  | x :: l, h => by
    obtain ⟨ys, h1, h2⟩ := mapM_same f c l (fun y hy => h y (by simp [hy]))
    refine ⟨c :: ys, ?_, fun y hy => ?_⟩
    · simp [h x (by simp), h1]
    · rcases List.mem_cons.1 hy with rfl | hy
      · rfl
      · exact h2 y hy

section
variable {H : Type} {enc : TypeId × Value → H}
theorem trod_zeros (W : World) : ∃ ds : List (DataW H), DataW.Trod enc Try.prog W 0 (fun _ => true) true 29 (.agg zeros) (.agg ds) [] ∧ ∀ d ∈ ds, d = .lit (.int .u16 0) := by
  have h1 : ∀ i ∈ List.range 16384, DataW.trod enc Try.prog W 0 (fun _ => true) true 1 28 ((zeros.toList.drop (i * Try.prog.cellsOf 28)).take (Try.prog.cellsOf 28)) = some (.lit (.int .u16 0), []) := fun i hi => by
    have hi' := List.mem_range.1 hi
    rw [Try.cells28, Nat.mul_one]
    have e : (zeros.toList.drop i).take 1 = [.int .u16 0] := by
      unfold zeros
      rw [Array.toList_replicate, List.drop_replicate, List.take_replicate]
      have : min 1 (16384 - i) = 1 := by omega
      rw [this]
      rfl
    rw [e]
    simp [DataW.trod, Try.underlying28, Lit.wf, IntKind.min, IntKind.max, IntKind.signed, IntKind.bits]
  obtain ⟨ys, h2, h3⟩ := mapM_same _ _ _ h1
  refine ⟨ys.map (·.1), ⟨2, ?_⟩, fun d hd => ?_⟩
  · have hlen : (Value.agg zeros).cells.toList.length = Try.prog.cellsOf 29 := by
      show zeros.toList.length = _
      rw [Array.length_toList, zeros_size, Try.cells29]
    unfold DataW.trod
    simp only [Try.underlying29]
    rw [if_pos hlen]
    have e2 : (Value.agg zeros).cells.toList = zeros.toList := rfl
    rw [e2, h2]
    simp only [Option.map_some, Option.some.injEq, Prod.mk.injEq, true_and]
    rw [List.flatMap_eq_nil_iff]
    intro y hy
    rw [h3 y hy]
  · obtain ⟨y, hy, rfl⟩ := List.mem_map.1 hd
    rw [h3 y hy]

theorem weights_zeros : ∀ ds : List (DataW H), (∀ d ∈ ds, d = .lit (.int .u16 0)) → DataW.weightsAll Try.prog 28 ds = []
  | [], _ => rfl
  | d :: ds, h => by
    have h1 := weights_zeros ds (fun x hx => h x (by simp [hx]))
    have h2 : d = .lit (.int .u16 0) := h d (by simp)
    subst h2
    simp [DataW.weightsAll, DataW.weights, h1]

theorem trod_nil23 (W : World) : DataW.Trod enc Try.prog W 0 (fun _ => true) true 23 (.slice none 0 0) .nil [] := ⟨1, by
  show DataW.trod enc Try.prog W 0 (fun _ => true) true 1 23 [.slice none 0 0] = _
  simp [DataW.trod, Try.underlying23]⟩
theorem trod_nil22 (W : World) : DataW.Trod enc Try.prog W 0 (fun _ => true) true 22 (.slice none 0 0) .nil [] := ⟨1, by
  show DataW.trod enc Try.prog W 0 (fun _ => true) true 1 22 [.slice none 0 0] = _
  simp [DataW.trod, Try.underlying22]⟩

theorem whole_zeros (W : World) : ∃ ds : List (DataW H), (∀ d ∈ ds, d = .lit (.int .u16 0)) ∧ DataW.Whole enc Try.prog [29, 23, 22, 23] [] false W [.agg zeros, .slice none 0 0, .slice none 0 0, .slice none 0 0] [.agg ds, .nil, .nil, .nil] [] [] := by
  obtain ⟨ds, h1, h2⟩ := trod_zeros (enc := enc) W
  exact ⟨ds, h2, [], [], trodAll_cons_mk h1 (trodAll_cons_mk (trod_nil23 W) (trodAll_cons_mk (trod_nil22 W) (trodAll_cons_mk (trod_nil23 W) trodAll_mk0))), rfl, rfl, fun b off h => (by cases h), fun h => (by cases h)⟩

theorem okWide_args (W : World) (base : Nat) : Input.okWide Try.prog W .any base 5 ⟨#[], #[.agg zeros, .slice none 0 0, .slice none 0 0, .slice none 0 0], []⟩ := by
  refine ⟨fun o ho => (by simp at ho), fun gv hg => (by cases hg), by kernel_rfl, Try.f5, Try.func5, by kernel_rfl, by kernel_rfl, by kernel_rfl, by kernel_rfl, fun j t v hj hv => ?_⟩
  have hp : Try.f5.params = #[29, 23, 22, 23] := by rw [← Array.toArray_toList (xs := Try.f5.params), Try.params5]
  rw [hp] at hj
  have hlt : j < 4 := by have := (Array.getElem?_eq_some_iff.1 hj).1; simpa using this
  match j, hlt with
  | 0, _ => simp at hj hv; subst hj hv; exact okWide_zeros W base
  | 1, _ => simp at hj hv; subst hj hv; simp [Value.okWide, Cell.okWide, Cell.ok, Try.underlying23]
  | 2, _ => simp at hj hv; subst hj hv; simp [Value.okWide, Cell.okWide, Cell.ok, Try.underlying22]
  | 3, _ => simp at hj hv; subst hj hv; simp [Value.okWide, Cell.okWide, Cell.ok, Try.underlying23]

theorem witness (os : Os) (enc : TypeId × Value → H) : ∃ (w : World) (tape : Tape) (i : Input), w.os = os ∧ (w.forCall tape i).Shaped Try.checked.prog ∧ i.vars = [] ∧ Input.okWide Try.checked.prog (w.forCall tape i) .any w.heap.size 5 i ∧
      Rows.fnSetOwnerScriptCopiesOnceAndSparesSharedTableSpec.pre6 enc Try.checked.prog Try.f5 Rows.fnSetOwnerScriptCopiesOnceAndSparesSharedTableRow.domain false (w.forCall tape i).memory i.args ∧ ({ modest := false } : Assume).holds Try.checked.prog (lone (Frame.enter Try.checked.prog 5 i.args .normal) [] (w.forCall tape i)) := by
  refine ⟨World.holding Try.prog os ⟨#[], #[.agg zeros, .slice none 0 0, .slice none 0 0, .slice none 0 0], []⟩, fun _ _ => 0, ⟨#[], #[.agg zeros, .slice none 0 0, .slice none 0 0, .slice none 0 0], []⟩, rfl, World.shaped_of_B (by kernel_rfl) (by kernel_rfl), rfl, okWide_args _ _, ?_, ?_⟩
  · obtain ⟨ds, h1, h2⟩ := whole_zeros (enc := enc) ((World.holding Try.prog os ⟨#[], #[.agg zeros, .slice none 0 0, .slice none 0 0, .slice none 0 0], []⟩).forCall (fun _ _ => 0) ⟨#[], #[.agg zeros, .slice none 0 0, .slice none 0 0, .slice none 0 0], []⟩).memory
    have h3 : DataW.Whole enc Try.prog Try.f5.params.toList [] false ((World.holding Try.prog os ⟨#[], #[.agg zeros, .slice none 0 0, .slice none 0 0, .slice none 0 0], []⟩).forCall (fun _ _ => 0) ⟨#[], #[.agg zeros, .slice none 0 0, .slice none 0 0, .slice none 0 0], []⟩).memory [.agg zeros, .slice none 0 0, .slice none 0 0, .slice none 0 0] [.agg ds, .nil, .nil, .nil] [] [] := by
      rw [Try.params5]; exact h2
    refine ⟨⟨_, _, _, h3, rfl⟩, ⟨by kernel_rfl, _, _, _, h3, ?_⟩⟩
    show (DataW.weightsEach Try.prog (Try.f5.params.toList ++ []) ([.agg ds, .nil, .nil, .nil] ++ [])).all (· ≤ reachBytes) = true
    rw [Try.params5]
    simp [DataW.weightsEach, DataW.weights, Try.underlying29, weights_zeros ds h1]
  · simp only [Assume.holds]
    exact ⟨by simp, by simp, fun _ => Modest.zero, by simp, by simp⟩
end
end Go.Proofs.Qxb6608555a
