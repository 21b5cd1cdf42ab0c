/-
  THE STATEMENT 'Rows.FnAddSplitsEveryLookupSaid': from the row's form to the walk and back.
-/
import Derived.Test.Qxb6606015aRows
import Derived.Test.Qxb6606015aReads2
import Derived.Test.Qxb6606015aLaw
import Derived.WalkKit
import Derived.ProofKit
import Derived.OpenShut
import Derived.ChangeOld
import Derived.Below
import Derived.SizedLaws
namespace Go.Proofs.Qxb6606015a.fnAddSplitsEveryLookup
open Go.ChangeShapes Go.WideShapes Go.ChangeAt Go.RowKit
set_option linter.unusedVariables false

theorem own : ownKnob Try.prog.godebug = none := by kernel_rfl
theorem laidOut : laidOutB Try.prog = true := by kernel_rfl

set_option maxRecDepth 100000 in
set_option maxHeartbeats 1600000 in
theorem lifted (os : Os) (started : os.Started) (H : Type) (enc : TypeId × Value → H) :
    ReturnsInHanded {} Try.checked os 3 .any (Rows.fnAddSplitsEveryLookupSpec.pre6 enc Try.prog Try.f3 Rows.fnAddSplitsEveryLookupRow.domain false) (Rows.fnAddSplitsEveryLookupSpec.post enc Try.prog Try.f3 false true false false) := by
  refine returnsInHanded_of_change_sized (C := Try.checked) own started (by kernel_rfl) Try.func3
    (ChangeSpec.witness6 (enc := enc) (C := Try.checked) false ⟨#[], #[.slice none 0 0, .slice none 0 0, .slice none 0 0, .slice none 0 0, .slice none 0 0, .slice none 0 0, .slice none 0 0, .slice none 0 0], []⟩ 8 (by kernel_rfl) (by kernel_rfl) (by kernel_rfl) (by kernel_rfl)) ?_
  intro W base args ds gs before hval0 hW hcnd hsz0 _
  have hval : ∀ (j : Nat) t v, Try.f3.params[j]? = some t → args[j]? = some v → Value.okWide Try.prog W .any base t v := hval0
  have hW' := hW
  obtain ⟨p, q, hA0, hV, rfl, hfz, hnd⟩ := hW
  have hA : DataW.TrodAll enc Try.prog W 0 (fun _ => true) true Try.f3.params.toList args.toList ds p := hA0
  have hsz : (DataW.weightsEach Try.prog (Try.f3.params.toList ++ Rows.fnAddSplitsEveryLookupSpec.plain.varTypes Try.prog) (ds ++ gs)).all (· ≤ reachBytes) = true := hsz0
  rw [Try.params3] at hA hval hsz
  obtain ⟨v0, vs0, d0, ds0, p0, q0, hargs, rfl, rfl, h0, r0⟩ := trodAll_cons hA
  obtain ⟨v1, vs1, d1, ds1, p1, q1, rfl, rfl, rfl, h1, r1⟩ := trodAll_cons r0
  obtain ⟨v2, vs2, d2, ds2, p2, q2, rfl, rfl, rfl, h2, r2⟩ := trodAll_cons r1
  obtain ⟨v3, vs3, d3, ds3, p3, q3, rfl, rfl, rfl, h3, r3⟩ := trodAll_cons r2
  obtain ⟨v4, vs4, d4, ds4, p4, q4, rfl, rfl, rfl, h4, r4⟩ := trodAll_cons r3
  obtain ⟨v5, vs5, d5, ds5, p5, q5, rfl, rfl, rfl, h5, r5⟩ := trodAll_cons r4
  obtain ⟨v6, vs6, d6, ds6, p6, q6, rfl, rfl, rfl, h6, r6⟩ := trodAll_cons r5
  obtain ⟨v7, vs7, d7, ds7, p7, q7, rfl, rfl, rfl, h7, r7⟩ := trodAll_cons r6
  obtain ⟨rfl, rfl, rfl⟩ := trodAll_nil r7
  obtain rfl : args = #[v0, v1, v2, v3, v4, v5, v6, v7] := by cases args; simp_all
  obtain ⟨rfl, rfl⟩ := trodVars_none hV
  obtain ⟨a0, n0, c0, rfl⟩ := okWide_slice Try.underlying22 (hval 0 22 v0 rfl rfl)
  have lt0 : ∀ x ∈ p0, x.block < W.heap.size := by obtain ⟨m, hm⟩ := h0; exact DataW.trod_lt m _ _ _ hm
  have g0 : Light Try.prog 22 d0 := fun n hn => of_decide_eq_true (List.all_eq_true.1 hsz n (DataW.weights_mem_each (j := 0) rfl rfl n hn))
  obtain ⟨k0, e0⟩ := arg_keys h0 g0
  obtain ⟨a1, n1, c1, rfl⟩ := okWide_slice Try.underlying23 (hval 1 23 v1 rfl rfl)
  have lt1 : ∀ x ∈ p1, x.block < W.heap.size := by obtain ⟨m, hm⟩ := h1; exact DataW.trod_lt m _ _ _ hm
  have g1 : Light Try.prog 23 d1 := fun n hn => of_decide_eq_true (List.all_eq_true.1 hsz n (DataW.weights_mem_each (j := 1) rfl rfl n hn))
  obtain ⟨k1, e1⟩ := arg_rvs h1 g1
  obtain ⟨a2, n2, c2, rfl⟩ := okWide_slice Try.underlying24 (hval 2 24 v2 rfl rfl)
  have lt2 : ∀ x ∈ p2, x.block < W.heap.size := by obtain ⟨m, hm⟩ := h2; exact DataW.trod_lt m _ _ _ hm
  have g2 : Light Try.prog 24 d2 := fun n hn => of_decide_eq_true (List.all_eq_true.1 hsz n (DataW.weights_mem_each (j := 2) rfl rfl n hn))
  obtain ⟨k2, e2⟩ := arg_certs h2 g2
  obtain ⟨a3, n3, c3, rfl⟩ := okWide_slice Try.underlying22 (hval 3 22 v3 rfl rfl)
  have lt3 : ∀ x ∈ p3, x.block < W.heap.size := by obtain ⟨m, hm⟩ := h3; exact DataW.trod_lt m _ _ _ hm
  have g3 : Light Try.prog 22 d3 := fun n hn => of_decide_eq_true (List.all_eq_true.1 hsz n (DataW.weights_mem_each (j := 3) rfl rfl n hn))
  obtain ⟨k3, e3⟩ := arg_keys h3 g3
  obtain ⟨a4, n4, c4, rfl⟩ := okWide_slice Try.underlying23 (hval 4 23 v4 rfl rfl)
  have lt4 : ∀ x ∈ p4, x.block < W.heap.size := by obtain ⟨m, hm⟩ := h4; exact DataW.trod_lt m _ _ _ hm
  have g4 : Light Try.prog 23 d4 := fun n hn => of_decide_eq_true (List.all_eq_true.1 hsz n (DataW.weights_mem_each (j := 4) rfl rfl n hn))
  obtain ⟨k4, e4⟩ := arg_rvs h4 g4
  obtain ⟨a5, n5, c5, rfl⟩ := okWide_slice Try.underlying24 (hval 5 24 v5 rfl rfl)
  have lt5 : ∀ x ∈ p5, x.block < W.heap.size := by obtain ⟨m, hm⟩ := h5; exact DataW.trod_lt m _ _ _ hm
  have g5 : Light Try.prog 24 d5 := fun n hn => of_decide_eq_true (List.all_eq_true.1 hsz n (DataW.weights_mem_each (j := 5) rfl rfl n hn))
  obtain ⟨k5, e5⟩ := arg_certs h5 g5
  obtain ⟨a6, n6, c6, rfl⟩ := okWide_slice Try.underlying25 (hval 6 25 v6 rfl rfl)
  have lt6 : ∀ x ∈ p6, x.block < W.heap.size := by obtain ⟨m, hm⟩ := h6; exact DataW.trod_lt m _ _ _ hm
  have g6 : Light Try.prog 25 d6 := fun n hn => of_decide_eq_true (List.all_eq_true.1 hsz n (DataW.weights_mem_each (j := 6) rfl rfl n hn))
  obtain ⟨k6, e6⟩ := arg_bytes h6 g6
  obtain ⟨a7, n7, c7, rfl⟩ := okWide_slice Try.underlying25 (hval 7 25 v7 rfl rfl)
  have lt7 : ∀ x ∈ p7, x.block < W.heap.size := by obtain ⟨m, hm⟩ := h7; exact DataW.trod_lt m _ _ _ hm
  have g7 : Light Try.prog 25 d7 := fun n hn => of_decide_eq_true (List.all_eq_true.1 hsz n (DataW.weights_mem_each (j := 7) rfl rfl n hn))
  obtain ⟨k7, e7⟩ := arg_bytes h7 g7
  clear hA0 hval0 hsz0
  refine (law_walk a0 a1 a2 a3 a4 a5 a6 a7 n0 c0 n1 c1 n2 c2 n3 c3 n4 c4 n5 c5 n6 c6 n7 c7 k0 k3 k1 k4 k2 k5 k6 k7 W e0 e1 e2 e3 e4 e5 e6 e7).mono fun e W' ⟨he, bel⟩ => ?_
  subst he
  exact ⟨_, rfl, _, _, _, [], _, [], hW', trodAll_mk1 (shut_bool Try.underlying4 _), (trodAll_cons_mk (Below.trod laidOut (by kernel_rfl) (of_decide_eq_true (by kernel_rfl)) h0 bel lt0) (trodAll_cons_mk (Below.trod laidOut (by kernel_rfl) (of_decide_eq_true (by kernel_rfl)) h1 bel lt1) (trodAll_cons_mk (Below.trod laidOut (by kernel_rfl) (of_decide_eq_true (by kernel_rfl)) h2 bel lt2) (trodAll_cons_mk (Below.trod laidOut (by kernel_rfl) (of_decide_eq_true (by kernel_rfl)) h3 bel lt3) (trodAll_cons_mk (Below.trod laidOut (by kernel_rfl) (of_decide_eq_true (by kernel_rfl)) h4 bel lt4) (trodAll_cons_mk (Below.trod laidOut (by kernel_rfl) (of_decide_eq_true (by kernel_rfl)) h5 bel lt5) (trodAll_cons_mk (Below.trod laidOut (by kernel_rfl) (of_decide_eq_true (by kernel_rfl)) h6 bel lt6) (trodAll_cons_mk (Below.trod laidOut (by kernel_rfl) (of_decide_eq_true (by kernel_rfl)) h7 bel lt7) trodAll_mk0)))))))), rfl, Below.frame bel _, fun h => by cases h⟩

theorem over : Rows.fnAddSplitsEveryLookupRow.holds Try.pinned (OpenSpec.ofChange Rows.fnAddSplitsEveryLookupSpec) :=
  OpenClaim.holds_of_wide 3 Try.f3 rfl rfl rfl rfl rfl rfl rfl ⟨rfl, rfl, rfl, rfl, rfl⟩ rfl rfl rfl rfl rfl (by kernel_rfl) Try.func3 (by kernel_rfl)
    (of_decide_eq_true (by kernel_rfl)) (by unfold Func.isWrapper; first | (rw [if_pos (by decide +kernel)]; kernel_rfl) | (rw [if_neg (by decide +kernel)]; exact ⟨rfl, rfl⟩))
    (fun os started H enc _ => lifted os started H enc)

/-- THE STATEMENT -/
theorem proved : Rows.FnAddSplitsEveryLookupSaid := over
end Go.Proofs.Qxb6606015a.fnAddSplitsEveryLookup
