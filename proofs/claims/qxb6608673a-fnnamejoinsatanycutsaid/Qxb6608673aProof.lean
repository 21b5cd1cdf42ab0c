/-
  THE STATEMENT 'Rows.FnNameJoinsAtAnyCutSaid': from the row's form to the walk and back.
-/
import Derived.Test.Qxb6608673aRows
import Derived.Test.Qxb6608673aLaw
import Derived.WalkKit
import Derived.ProofKit
import Derived.OpenShut
import Derived.ChangeOld
import Derived.Below
import Derived.SizedLaws
import Derived.Deep.Slices
import Derived.Deep.Strs
namespace Go.Proofs.Qxb6608673a
open Go.RowKit Go.ChangeShapes Go.WideShapes Go.Deep
theorem Try.cells28 : Try.prog.cellsOf 28 = 1 := by kernel_rfl
theorem Try.cells4 : Try.prog.cellsOf 4 = 1 := by kernel_rfl
theorem Try.cells3 : Try.prog.cellsOf 3 = 1 := by kernel_rfl
theorem Try.cells9 : Try.prog.cellsOf 9 = 1 := by kernel_rfl
theorem Try.cells30 : Try.prog.cellsOf 30 = 4 := by kernel_rfl

theorem cell_there {w : World} {a : Addr} {v : Value} (h : w.cell? a = some v) : a.block < w.heap.size ∧ a.spot = none := by
  unfold World.cell? at h
  split at h
  · rename_i c e fr hb
    refine ⟨(Array.getElem?_eq_some_iff.1 hb).1, ?_⟩
    cases hs : a.spot with
    | none => rfl
    | some x => rw [hs] at h; simp at h
  · cases h
theorem four {α : Type} {l : List α} (h : l.length = 4) : ∃ a b c d, l = [a, b, c, d] := by
  match l, h with
  | [a, b, c, d], _ => exact ⟨a, b, c, d, rfl⟩

section
variable {H : Type} {enc : TypeId × Value → H} {w : World}
/-- A step, read. -/
theorem read_step (n : Nat) (cs : List Value) (d : DataW H) (ps : List MemPlace) (hlen : cs.length = 4) (h : DataW.trod enc Try.prog w 0 (fun _ => true) true n 30 cs = some (d, ps)) :
    ∃ z e y s, cs = [.int .i64 z, .bool e, .int .i64 y, .string s] := by
  obtain ⟨c0, c1, c2, c3, rfl⟩ := four hlen
  obtain ⟨xs, m, _, hx, _, hxl, hf⟩ := DataW.trod_struct Try.underlying30 h
  obtain ⟨y0, y1, y2, y3, rfl⟩ := four hxl
  have t0 := hf 0 _ rfl
  have t1 := hf 1 _ rfl
  have t2 := hf 2 _ rfl
  have t3 := hf 3 _ rfl
  simp [Try.cells28, Try.cells4, Try.cells3, Try.cells9] at t0 t1 t2 t3
  obtain ⟨z, hz, _, _⟩ := DataW.trod_int Try.underlying28 t0
  obtain ⟨e, he, _⟩ := DataW.trod_bool Try.underlying4 t1
  obtain ⟨y, hy, _, _⟩ := DataW.trod_int Try.underlying3 t2
  obtain ⟨s, hs, _, _⟩ := DataW.trod_string Try.underlying9 t3
  simp at hz he hy hs
  exact ⟨z, e, y, s, by rw [hz, he, hy, hs]⟩

theorem add_add (a : Addr) (p q : Nat) : (a.add p).add q = a.add (p + q) := by
  unfold Addr.add
  by_cases hp : p = 0 <;> by_cases hq : q = 0 <;> simp [hp, hq, Nat.add_assoc]

/-- A path, read. -/
theorem read_path {a : Option Addr} {n c : Nat} {d : DataW H} {ps : List MemPlace} (h0 : DataW.Trod enc Try.prog w 0 (fun _ => true) true 23 (.slice a n c) d ps) :
    ∃ en ky, Ps w.heap.size w a n c en ky := by
  obtain ⟨fuel, h⟩ := h0
  rcases open_slice Try.underlying23 h with ⟨hcs, hx⟩ | ⟨a', len, cap, m, n', D', Pl, hcs, _, hlc, hm, hmm, hx, hel⟩
  · change [Value.slice a n c] = _ at hcs
    simp at hcs
    obtain ⟨rfl, rfl, rfl⟩ := hcs
    exact ⟨fun _ => false, fun _ => ByteArray.empty, ⟨Nat.le_refl _, fun _ => ⟨rfl, rfl⟩, fun h0 => absurd h0 (by omega)⟩⟩
  · change [Value.slice a n c] = _ at hcs
    simp at hcs
    obtain ⟨rfl, rfl, rfl⟩ := hcs
    simp at hmm
    subst hmm
    rw [Try.cells30] at hel
    have key : ∀ i, i < n → ∃ z e y s, w.cell? (a'.add (i * 4)) = some (.int .i64 z) ∧ w.cell? (a'.add (i * 4 + 1)) = some (.bool e) ∧ w.cell? (a'.add (i * 4 + 2)) = some (.int .i64 y) ∧ w.cell? (a'.add (i * 4 + 3)) = some (.string s) := by
      intro i hi
      obtain ⟨cs', hcl, htr⟩ := hel i (by omega)
      obtain ⟨hlen, hcells⟩ := (World.cells?_some hcl).2
      obtain ⟨z, e, y, s, rfl⟩ := read_step n' cs' _ _ hlen htr
      have k0 := hcells 0 (by omega)
      have k1 := hcells 1 (by omega)
      have k2 := hcells 2 (by omega)
      have k3 := hcells 3 (by omega)
      rw [add_add] at k0 k1 k2 k3
      exact ⟨z, e, y, s, by simpa using k0, by simpa using k1, by simpa using k2, by simpa using k3⟩
    refine ⟨fun i => match w.cell? (a'.add (i * 4 + 1)) with | some (.bool b) => b | _ => false, fun i => match w.cell? (a'.add (i * 4 + 3)) with | some (.string s) => s | _ => ByteArray.empty, ⟨hlc, fun e => (by cases e), fun h0 => ?_⟩⟩
    obtain ⟨z, e, y, s, k0, _⟩ := key 0 h0
    have h1 := cell_there k0
    obtain ⟨b, off, spot⟩ := a'
    have hs : spot = none := by simpa [Addr.add] using h1.2
    subst hs
    refine ⟨b, off, rfl, by simpa [Addr.add] using h1.1, fun i hi => ?_⟩
    obtain ⟨z, e, y, s, k0, k1, k2, k3⟩ := key i hi
    simp only [k1, k3]
    simp only [Addr.add_lit, ← Nat.add_assoc] at k0 k1 k2 k3
    exact ⟨⟨z, k0⟩, k1, ⟨y, k2⟩, k3⟩
end

namespace fnNameJoinsAtAnyCut
open Go.ChangeAt
set_option linter.unusedVariables false
theorem own : ownKnob Try.prog.godebug = none := by kernel_rfl
theorem laidOut : laidOutB Try.prog = true := by kernel_rfl

set_option maxRecDepth 100000 in
set_option maxHeartbeats 1600000 in
theorem lifted (os : Os) (started : os.Started) (H : Type) (enc : TypeId × Value → H) :
    ReturnsInHanded {} Try.checked os 3 .any (Rows.fnNameJoinsAtAnyCutSpec.pre6 enc Try.prog Try.f3 Rows.fnNameJoinsAtAnyCutRow.domain false) (Rows.fnNameJoinsAtAnyCutSpec.post enc Try.prog Try.f3 false true false false) := by
  refine returnsInHanded_of_change_sized (C := Try.checked) own started (by kernel_rfl) Try.func3
    (ChangeSpec.witness6 (enc := enc) (C := Try.checked) false ⟨#[], #[.slice none 0 0, .int .i64 0], []⟩ 8 (by kernel_rfl) (by kernel_rfl) (by kernel_rfl) (by kernel_rfl)) ?_
  intro W base args ds gs before hval0 hW hcnd hsz0 _
  have hval : ∀ (j : Nat) t v, Try.f3.params[j]? = some t → args[j]? = some v → Value.okWide Try.prog W .any base t v := hval0
  have hW' := hW
  obtain ⟨p, q, hA0, hV, rfl, hfz, hnd⟩ := hW
  have hA : DataW.TrodAll enc Try.prog W 0 (fun _ => true) true Try.f3.params.toList args.toList ds p := hA0
  rw [Try.params3] at hA hval
  obtain ⟨v0, vs0, d0, ds0, p0, q0, hargs, rfl, rfl, h0, r0⟩ := trodAll_cons hA
  obtain ⟨v1, vs1, d1, ds1, p1, q1, rfl, rfl, rfl, h1, r1⟩ := trodAll_cons r0
  obtain ⟨rfl, rfl, rfl⟩ := trodAll_nil r1
  obtain rfl : args = #[v0, v1] := by cases args; simp_all
  obtain ⟨rfl, rfl⟩ := trodVars_none hV
  obtain ⟨a0, n0, c0, rfl⟩ := okWide_slice Try.underlying23 (hval 0 23 v0 rfl rfl)
  have lt0 : ∀ x ∈ p0, x.block < W.heap.size := by obtain ⟨m, hm⟩ := h0; exact DataW.trod_lt m _ _ _ hm
  obtain ⟨en, ky, e0⟩ := read_path h0
  obtain ⟨k, rfl⟩ := okWide_int Try.underlying3 (hval 1 3 v1 rfl rfl)
  have lt1 : ∀ x ∈ p1, x.block < W.heap.size := by obtain ⟨m, hm⟩ := h1; exact DataW.trod_lt m _ _ _ hm
  clear hA0 hval0 hsz0
  refine (law_walk a0 n0 c0 k en ky W e0).mono fun e W' ⟨he, bel⟩ => ?_
  subst he
  exact ⟨_, rfl, _, _, _, [], _, [], hW', trodAll_mk1 (shut_bool Try.underlying4 _), (trodAll_cons_mk (Below.trod laidOut (by kernel_rfl) (of_decide_eq_true (by kernel_rfl)) h0 bel lt0) (trodAll_cons_mk (Below.trod laidOut (by kernel_rfl) (of_decide_eq_true (by kernel_rfl)) h1 bel lt1) trodAll_mk0)), rfl, Below.frame bel _, fun h => by cases h⟩

theorem over : Rows.fnNameJoinsAtAnyCutRow.holds Try.pinned (OpenSpec.ofChange Rows.fnNameJoinsAtAnyCutSpec) :=
  OpenClaim.holds_of_wide 3 Try.f3 rfl rfl rfl rfl rfl rfl rfl ⟨rfl, rfl, rfl, rfl, rfl⟩ rfl rfl rfl rfl rfl (by kernel_rfl) Try.func3 (by kernel_rfl)
    (of_decide_eq_true (by kernel_rfl)) (by unfold Func.isWrapper; first | (rw [if_pos (by decide +kernel)]; kernel_rfl) | (rw [if_neg (by decide +kernel)]; exact ⟨rfl, rfl⟩))
    (fun os started H enc _ => lifted os started H enc)

/-- THE STATEMENT -/
theorem proved : Rows.FnNameJoinsAtAnyCutSaid := over
end fnNameJoinsAtAnyCut
end Go.Proofs.Qxb6608673a
