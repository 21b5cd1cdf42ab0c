/-
  A table's array, handed back by value.
-/
import Derived.Test.Qxb6608555aWalksA
import Derived.Deep.WholeRow
namespace Go.Proofs.Qxb6608555a
open Go.RowKit
set_option maxRecDepth 100000

theorem results_cell_one {fn : Func} {p : Tmp} {ty : TypeId} (h : fn.results = #[.cell p ty]) (tmps : Array Value) (P : Program) (w : World) :
    (results fn tmps).run P w = ((asAddr (tmps.getD p undef)).run P w).andThen fun a w₁ => (loadVar ty a).run P w₁ := by
  simp only [results, h]
  simp [Sem.run_bind, Result.andThen]

theorem wpList_alloc29 {ops : Array Oper} {rest : List Oper} {o : Oper} {a : Act} {w : World} {Q : Exit → Act → World → Prop} (hg : o.guard = none) (ho : o.op = .alloc 29)
    (h : wpList Try.prog ops Q rest (a.put o.dst (.pointer (some ⟨w.heap.size, 0, none⟩))) (w.alloc (.cells (Array.replicate 16384 (.int .u16 0)) 29))) : wpList Try.prog ops Q (o :: rest) a w := by
  refine wpList_plain hg fun K hK => ?_
  have hz := (zero_of_info Try.info29).1
  unfold Oper.wp execOp
  simp only [ho, Instr.alloc, hz, Sem.run_bind, Result.andThen_ok, newVar, newRow, run_newObj_alloc, Sem.run_pure, Value.cells]
  exact hK _ _ h

set_option maxHeartbeats 400000 in
theorem tableOwner_any (b : Nat) (os : Nat → Nat) (a : Option Addr) (n c : Nat) (w : World) (h : Tb w b os a n c) :
    Calls Try.prog 9 #[.pointer (some ⟨b, 0, none⟩)] w fun e w' => e = .returned (.agg ((List.range 16384).map (fun s => Value.int .u16 (os s : Nat))).toArray) ∧ Ext w w' := by
  obtain ⟨F, h1, h2, h3⟩ := h
  obtain ⟨xs, hxs⟩ : ∃ xs, xs = (List.range 16384).map (fun s => Value.int .u16 (os s : Nat)) := ⟨_, rfl⟩
  rw [← hxs]
  have hlen : xs.length = 16384 := by rw [hxs, List.length_map, List.length_range]
  have hr : (w.alloc (.cells (Array.replicate 16384 (.int .u16 0)) 29)).rangeAt b 0 xs := by
    intro j v hv
    have hj : j < 16384 := by rw [← hlen]; exact (List.getElem?_eq_some_iff.1 hv).1
    rw [((Ext.refl w).alloc _).cell (p := ⟨b, 0 + j, none⟩) h1.lt, Nat.zero_add, h1.cell (i := j) (by omega), h2 j hj]
    rw [hxs, List.getElem?_map, List.getElem?_range hj] at hv
    exact hv
  have h1c : ∀ v ∈ xs, v.oneCell' = true := by
    intro v hv
    rw [hxs] at hv
    obtain ⟨s, _, rfl⟩ := List.mem_map.1 hv
    rfl
  clear h1 h2 h3 hxs
  have hi : (Try.prog.info? 29).map (·.size) = some xs.toArray.size := by rw [Try.sz29]; simp [hlen]
  have hst := run_storeCells_new (P := Try.prog) w 29 (Array.replicate 16384 (.int .u16 0)) xs.toArray hi (by simp [hlen]) (all_oneCell_toArray h1c)
  have hld := run_loadVar_new (P := Try.prog) w 29 xs.toArray 16384 28 Try.underlying29 hi
  clear h1c hi
  go_enter Try.func9, Try.ntmps9
  go_wp2_with (first
    | (refine wpList_alloc29 rfl rfl ?_)
    | (refine wpList_load_mid rfl 29 _ rfl _ _ rfl _ _ hr Try.underlying29 rfl (by rw [Try.sz29, hlen]) ?_))
  refine bodyPost_ret (v := .agg xs.toArray) ?_ rfl ⟨rfl, (Ext.refl _).alloc _⟩
  rw [results_cell_one Try.results9]
  simp [asAddr, Result.andThen, hld]
end Go.Proofs.Qxb6608555a
