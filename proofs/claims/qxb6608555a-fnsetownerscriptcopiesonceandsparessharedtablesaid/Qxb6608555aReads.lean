/-
  The law's own arguments, read.
-/
import Derived.Test.Qxb6608555aProg
import Derived.Test.Qxb6608555aParts
import Derived.ProofKit
import Derived.OpenShut
import Derived.SizedLaws
import Derived.Deep.Slices
import Derived.Deep.Strs
namespace Go.Proofs.Qxb6608555a
open Go.RowKit Go.ChangeShapes Go.WideShapes Go.Deep
theorem Try.cells28 : Try.prog.cellsOf 28 = 1 := by kernel_rfl
theorem Try.cells29 : Try.prog.cellsOf 29 = 16384 := by kernel_rfl
theorem Try.cells9 : Try.prog.cellsOf 9 = 1 := by kernel_rfl
theorem Try.cells3 : Try.prog.cellsOf 3 = 1 := by kernel_rfl
theorem Try.bytes9 : Try.prog.bytesOf 9 = 16 := by kernel_rfl

theorem cell_there {w : World} {a : Addr} {v : Value} (h : w.cell? a = some v) : a.block < w.heap.size ∧ a.spot = none := by
  unfold World.cell? at h
  split at h
  · rename_i c e fr hb
    refine ⟨(Array.getElem?_eq_some_iff.1 hb).1, ?_⟩
    cases hs : a.spot with
    | none => rfl
    | some x => rw [hs] at h; simp at h
  · cases h
/-- No string, slice or map of the datum takes more than the form's reach. -/
def Light {H : Type} (P : Program) (t : TypeId) (d : DataW H) : Prop := ∀ n ∈ d.weights P t, n ≤ reachBytes
theorem Light.slice {H : Type} {P : Program} {t e : TypeId} {elems spare : List (DataW H)} (hu : P.underlying t = some (.slice e)) (h : Light P t (.slice elems spare)) :
    (elems.length + spare.length) * P.bytesOf e ≤ reachBytes := by
  unfold Light at h
  simp only [DataW.weights, hu] at h
  exact h _ (by simp)
theorem reach_num : reachBytes = 140737488351232 := by decide

section
variable {H : Type} {enc : TypeId × Value → H} {w : World}
/-- A slice of strings, read. -/
theorem read_strs {a : Option Addr} {n c : Nat} {d : DataW H} {ps : List MemPlace} (h0 : DataW.Trod enc Try.prog w 0 (fun _ => true) true 23 (.slice a n c) d ps) (hl : Light Try.prog 23 d) :
    ∃ ss, Ss w.heap.size w a n c ss ∧ n ≤ 140737488355328 := by
  obtain ⟨fuel, h⟩ := h0
  rcases open_slice1 Try.underlying23 Try.cells9 h with ⟨hcs, hx⟩ | ⟨a', len, cap, m, n', V, D, Pl, hcs, _, hlc, hm, hmm, hx, hel⟩
  · change [Value.slice a n c] = _ at hcs
    simp at hcs
    obtain ⟨rfl, rfl, rfl⟩ := hcs
    exact ⟨[], ⟨rfl, Nat.le_refl _, fun _ => ⟨rfl, rfl⟩, fun h0 => absurd h0 (by omega)⟩, by omega⟩
  · change [Value.slice a n c] = _ at hcs
    simp at hcs
    obtain ⟨rfl, rfl, rfl⟩ := hcs
    simp only [Prod.mk.injEq] at hx
    obtain ⟨rfl, _⟩ := hx
    simp at hmm
    subst hmm
    have hb1 := hl.slice Try.underlying23
    rw [Try.bytes9, reach_num] at hb1
    simp at hb1
    have hV : ∀ i, i < n → ∃ s, V i = .string s := by
      intro i hi
      obtain ⟨s, hs, _, _⟩ := DataW.trod_string Try.underlying9 (hel i (by omega)).2
      simp at hs
      exact ⟨s, hs⟩
    refine ⟨(List.range n).map (fun i => match V i with | .string s => s | _ => ByteArray.empty), ⟨by simp, hlc, fun e => (by cases e), fun h0 => ?_⟩, by omega⟩
    have h1 := cell_there (hel 0 (by omega)).1
    obtain ⟨b, off, spot⟩ := a'
    have hs : spot = none := by simpa [Addr.add] using h1.2
    subst hs
    refine ⟨b, off, rfl, by simpa [Addr.add] using h1.1, fun i hi => ?_⟩
    have := (hel i (by omega)).1
    rw [Addr.add_lit] at this
    rw [this]
    obtain ⟨s, hs⟩ := hV i hi
    simp [hi, hs]

/-- A slice of ints, read. -/
theorem read_ints {a : Option Addr} {n c : Nat} {d : DataW H} {ps : List MemPlace} (h0 : DataW.Trod enc Try.prog w 0 (fun _ => true) true 22 (.slice a n c) d ps) :
    ∃ zs, Is w.heap.size w a n c zs := by
  obtain ⟨fuel, h⟩ := h0
  rcases open_slice1 Try.underlying22 Try.cells3 h with ⟨hcs, hx⟩ | ⟨a', len, cap, m, n', V, D, Pl, hcs, _, hlc, hm, hmm, hx, hel⟩
  · change [Value.slice a n c] = _ at hcs
    simp at hcs
    obtain ⟨rfl, rfl, rfl⟩ := hcs
    exact ⟨[], ⟨rfl, Nat.le_refl _, fun _ => ⟨rfl, rfl⟩, fun h0 => absurd h0 (by omega)⟩⟩
  · change [Value.slice a n c] = _ at hcs
    simp at hcs
    obtain ⟨rfl, rfl, rfl⟩ := hcs
    simp at hmm
    subst hmm
    have hV : ∀ i, i < n → ∃ z, V i = .int .i64 z := by
      intro i hi
      obtain ⟨z, hz, _, _⟩ := DataW.trod_int Try.underlying3 (hel i (by omega)).2
      simp at hz
      exact ⟨z, hz⟩
    refine ⟨(List.range n).map (fun i => intOf (V i)), ⟨by simp, hlc, fun e => (by cases e), fun h0 => ?_⟩⟩
    have h1 := cell_there (hel 0 (by omega)).1
    obtain ⟨b, off, spot⟩ := a'
    have hs : spot = none := by simpa [Addr.add] using h1.2
    subst hs
    refine ⟨b, off, rfl, by simpa [Addr.add] using h1.1, fun i hi => ?_⟩
    have := (hel i (by omega)).1
    rw [Addr.add_lit] at this
    rw [this]
    obtain ⟨z, hz⟩ := hV i hi
    simp [hi, hz, intOf]

/-- An array of 16384 numbers, read. -/
theorem read_array {r : Reach} {base : Nat} {v : Value} {d : DataW H} {ps : List MemPlace} (hv : Value.okWide Try.prog w r base 29 v) (h0 : DataW.Trod enc Try.prog w 0 (fun _ => true) true 29 v d ps) :
    ∃ (xs : Array Value) (os : Nat → Nat), v = .agg xs ∧ xs.size = 16384 ∧ (∀ s, s < 16384 → xs[s]? = some (.int .u16 (os s : Nat))) ∧ ∀ s, s < 16384 → os s ≤ 65535 := by
  obtain ⟨fuel, h⟩ := h0
  simp only [Value.okWide, Try.underlying29] at hv
  obtain ⟨xs, rfl, hxs, _⟩ := hv
  rw [Try.cells29] at hxs
  obtain ⟨ys, m, _, _, _, hl, hel⟩ := DataW.trod_array Try.underlying29 h
  have key : ∀ s, s < 16384 → ∃ p : Nat, xs[s]? = some (.int .u16 (p : Nat)) ∧ p ≤ 65535 := by
    intro s hs
    have h1 := hel s hs
    rw [Try.cells28, List.getElem?_eq_getElem (by omega)] at h1
    obtain ⟨z, hz, _, hw⟩ := DataW.trod_int Try.underlying28 h1
    have hw' : 0 ≤ z ∧ z ≤ 65535 := by simpa [Lit.wf, IntKind.min, IntKind.max, IntKind.signed, IntKind.bits] using hw
    refine ⟨z.toNat, ?_, by omega⟩
    have h2 : (xs.toList.drop s).take 1 = [.int .u16 z] := by rw [Nat.mul_one] at hz; exact hz
    have h3 := congrArg (fun l => l[0]?) h2
    simp only [List.getElem?_take, List.getElem?_drop] at h3
    simp at h3
    rw [h3]
    congr 2
    omega
  refine ⟨xs, fun s => if hs : s < 16384 then (key s hs).choose else 0, rfl, hxs, fun s hs => ?_, fun s hs => ?_⟩
  · simp only [hs, dif_pos]
    exact (key s hs).choose_spec.1
  · simp only [hs, dif_pos]
    exact (key s hs).choose_spec.2
end
end Go.Proofs.Qxb6608555a
