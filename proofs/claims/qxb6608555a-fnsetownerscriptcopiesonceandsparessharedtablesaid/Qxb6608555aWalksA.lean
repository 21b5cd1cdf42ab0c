import Derived.Test.Qxb6608555aProg
import Derived.Test.Qxb6608555aParts
import Derived.Deep.QuietTactic
import Derived.BigQuiet
import Derived.Great.FillDense
import Derived.Great.Walk
import Derived.Laws.Tables
namespace Go.Proofs.Qxb6608555a
open Go.RowKit
set_option maxRecDepth 100000

theorem getD_there (xs : Array Value) (i : Nat) (hi : i < xs.size) : xs[i]? = some (xs.getD i undef) := by simp [hi]

theorem Try.sz29 : (Try.prog.info? 29).map (·.size) = some 16384 := by kernel_rfl
theorem Try.info57 : (Try.prog.info? 57).map (fun i => (i.zero, i.size)) = some (some (.agg (Array.replicate 16384 (.int .u16 0) ++ #[.slice none 0 0, .pointer none])), 16386) := by kernel_rfl
theorem Try.info29 : (Try.prog.info? 29).map (fun i => (i.zero, i.size)) = some (some (.agg (Array.replicate 16384 (.int .u16 0))), 16384) := by kernel_rfl
theorem Try.places57 : ((Try.prog.underlying 57).map fun d => match d with | .struct fields => fields.toList.mapM (fun f => (Try.prog.info? f.type).map fun i => (f.offset, i.size)) | _ => none) = some (some [(0, 16384), (16384, 1), (16385, 1)]) := by kernel_rfl

theorem fill_cons {place : Nat → Option (Nat × Nat)} {cells : Array Value} {i : Nat} {v : Value} {rest : List (Nat × Value)} {off size : Nat} (hp : place i = some (off, size)) (h1 : v.cells.size = size) (h2 : off + size ≤ cells.size) :
    Instr.fill place cells ((i, v) :: rest) = Instr.fill place (v.cells.zipIdx.foldl (fun cs (x : Value × Nat) => cs.setIfInBounds (off + x.2) x.1) cells) rest := by
  subst h1
  have h3 : ¬ off + v.cells.size > cells.size := by omega
  rw [Instr.fill]
  simp [hp, h3]

/-- A slotTable's cells. -/
theorem built57 (xs : Array Value) (hxs : xs.size = 16384) (a : Option Addr) (n c : Nat) : Try.prog.built 57 [(0, .agg xs), (1, .slice a n c)] = some (xs ++ #[.slice a n c, .pointer none]) := by
  have h1 := Try.info57
  have h2 := Try.places57
  cases hi : Try.prog.info? 57 with
  | none => simp [hi] at h1
  | some it =>
    cases hu : Try.prog.underlying 57 with
    | none => simp [hu] at h2
    | some d =>
      rw [hi] at h1
      rw [hu] at h2
      simp only [Option.map_some, Option.some.injEq, Prod.mk.injEq] at h1 h2
      cases d <;> try (simp at h2; done)
      rename_i fields
      have h2' : (fields.toList.mapM fun f => (Try.prog.info? f.type).map fun i => (f.offset, i.size)) = some [(0, 16384), (16384, 1), (16385, 1)] := h2
      simp only [Program.built, hi, hu, h1.1, h2']
      have hf := Great.foldl_set 0 xs.toList 0 (Array.replicate 16384 (Value.int .u16 0) ++ #[.slice none 0 0, .pointer none])
      have e1 : xs.zipIdx.foldl (fun cs (x : Value × Nat) => cs.setIfInBounds (0 + x.2) x.1) (Array.replicate 16384 (Value.int .u16 0) ++ #[.slice none 0 0, .pointer none]) = xs ++ #[.slice none 0 0, .pointer none] := by
        rw [← Array.foldl_toList, Array.toList_zipIdx]
        apply Array.ext_getElem?
        intro k
        rw [hf.2 k]
        by_cases hk : k < 16384
        · rw [if_pos ⟨by omega, by simp [hxs]; omega, by simp; omega⟩, Array.getElem?_append_left (by omega)]
          simp
        · rw [if_neg (by simp [hxs]; omega), Array.getElem?_append_right (by simp; omega), Array.getElem?_append_right (by omega)]
          simp [hxs]
      refine (fill_cons (place := fun x => ([(0, 16384), (16384, 1), (16385, 1)] : List (Nat × Nat)).toArray[x]?) (cells := Array.replicate 16384 (Value.int .u16 0) ++ #[.slice none 0 0, .pointer none]) (i := 0) (v := .agg xs) (off := 0) (size := 16384) rfl hxs (by simp)).trans ?_
      show Instr.fill _ (xs.zipIdx.foldl (fun cs (x : Value × Nat) => cs.setIfInBounds (0 + x.2) x.1) _) _ = _
      rw [e1]
      refine (fill_cons (place := fun x => ([(0, 16384), (16384, 1), (16385, 1)] : List (Nat × Nat)).toArray[x]?) (i := 1) (v := .slice a n c) (off := 16384) (size := 1) rfl rfl (by simp [hxs])).trans ?_
      show some ((xs ++ #[Value.slice none 0 0, Value.pointer none]).setIfInBounds (16384 + 0) (.slice a n c)) = _
      congr 1
      apply Array.ext_getElem?
      intro k
      rw [Array.getElem?_setIfInBounds]
      by_cases hk : k < 16384
      · rw [if_neg (by omega), Array.getElem?_append_left (by omega), Array.getElem?_append_left (by omega)]
      · by_cases hk2 : k = 16384
        · subst hk2
          rw [Array.getElem?_append_right (by omega)]
          simp [hxs]
        · rw [if_neg (by omega), Array.getElem?_append_right (by omega), Array.getElem?_append_right (by omega), hxs]
          obtain ⟨j, rfl⟩ : ∃ j, k = 16384 + (j + 1) := ⟨k - 16385, by omega⟩
          simp

theorem wpList_build57 {ops : Array Oper} {rest : List Oper} {o : Oper} {a : Act} {w : World} {Q : Exit → Act → World → Prop} (hg : o.guard = none) (x y : Operand) (ho : o.op = .build 57 #[(0, x), (1, y)])
    (xs : Array Value) (hxs : xs.size = 16384) (p : Option Addr) (n c : Nat) (hx : a.eval x = .agg xs) (hy : a.eval y = .slice p n c)
    (h : wpList Try.prog ops Q rest (a.put o.dst (.agg (xs ++ #[.slice p n c, .pointer none]))) w) : wpList Try.prog ops Q (o :: rest) a w := by
  refine wpList_plain hg fun K hK => ?_
  unfold Oper.wp execOp
  simp only [ho, List.map_toArray, List.map_cons, List.map_nil, hx, hy, Sem.run_bind, run_build w 57 _ _ (built57 xs hxs p n c), Result.andThen_ok]
  exact hK _ _ h

set_option maxHeartbeats 400000 in
theorem tableOf_any (xs : Array Value) (hxs : xs.size = 16384) (a : Option Addr) (n c : Nat) (w : World) :
    Calls Try.prog 18 #[.agg xs, .slice a n c] w fun e w' => ∃ b, e = .returned (.pointer (some ⟨b, 0, none⟩)) ∧ w.heap.size ≤ b ∧ (∃ F, w'.rowIs b 57 16386 F ∧ (∀ s, s < 16384 → F s = xs.getD s undef) ∧ F 16384 = .slice a n c) ∧ Ext w w' := by
  have hr : (w.alloc (.cells xs 29)).rangeAt w.heap.size 0 xs.toList := fun j v hv => by
    have := World.rowIs_alloc w xs 29 (fun i => xs.getD i undef) (fun i hi => by simp [hi])
    obtain ⟨hj, rfl⟩ := List.getElem?_eq_some_iff.1 hv
    simp at hj
    simp [this.cell (i := j) hj, hj]
  go_enter Try.func18, Try.ntmps18
  go_wp2_with (first
    | (refine wpList_load_mid rfl 29 _ rfl _ _ rfl _ _ hr Try.underlying29 rfl (by simp [Try.sz29, hxs]) ?_)
    | (refine wpList_build57 rfl _ _ rfl xs hxs a n c rfl rfl ?_))
  go_ret
  refine ⟨_, rfl, by simp, ?_, ((Ext.refl _).alloc _).alloc _⟩
  have e0 : (w.alloc (.cells xs 29)).heap.size = w.heap.size + 1 := by simp
  have e2 : (xs ++ #[Value.slice a n c, Value.pointer none]).size = 16386 := by simp [hxs]
  have hrow := World.rowIs_alloc (w.alloc (.cells xs 29)) (xs ++ #[Value.slice a n c, Value.pointer none]) 57 (fun i => (xs ++ #[Value.slice a n c, Value.pointer none]).getD i undef) (fun i hi => getD_there _ i hi)
  rw [e0, e2] at hrow
  refine ⟨_, hrow, fun s hs => ?_, ?_⟩
  · simp [Array.getElem?_append_left (show s < xs.size by omega)]
  · simp [hxs]
/-- A view: its map of nodes, its table, whether the table is its own. -/
def Vw (w : World) (b mb tb : Nat) (own : Bool) : Prop := ∃ F, w.rowIs b 62 8 F ∧ F 1 = .map (some mb) ∧ F 2 = .pointer (some ⟨tb, 0, none⟩) ∧ F 3 = .bool own
/-- A table: the slots' places, the slice of IDs. -/
def Tb (w : World) (b : Nat) (os : Nat → Nat) (a : Option Addr) (n c : Nat) : Prop := ∃ F, w.rowIs b 57 16386 F ∧ (∀ s, s < 16384 → F s = .int .u16 (os s : Nat)) ∧ F 16384 = .slice a n c
theorem Vw.of_block {w w' : World} {b mb tb : Nat} {own : Bool} (h : Vw w b mb tb own) (e : w'.heap[b]? = w.heap[b]?) : Vw w' b mb tb own := by
  obtain ⟨F, h1, h2⟩ := h
  exact ⟨F, h1.of_block e, h2⟩
theorem Tb.of_block {w w' : World} {b : Nat} {os : Nat → Nat} {a : Option Addr} {n c : Nat} (h : Tb w b os a n c) (e : w'.heap[b]? = w.heap[b]?) : Tb w' b os a n c := by
  obtain ⟨F, h1, h2⟩ := h
  exact ⟨F, h1.of_block e, h2⟩
theorem Vw.lt {w : World} {b mb tb : Nat} {own : Bool} (h : Vw w b mb tb own) : b < w.heap.size := by
  obtain ⟨F, h1, h2⟩ := h
  exact h1.lt
theorem Tb.lt {w : World} {b : Nat} {os : Nat → Nat} {a : Option Addr} {n c : Nat} (h : Tb w b os a n c) : b < w.heap.size := by
  obtain ⟨F, h1, h2⟩ := h
  exact h1.lt

set_option maxHeartbeats 400000 in
theorem newView_any (mb tb : Nat) (w : World) :
    Calls Try.prog 19 #[.pointer none, .map (some mb), .pointer (some ⟨tb, 0, none⟩), .bool false, .map none] w fun e w' => ∃ b, e = .returned (.pointer (some ⟨b, 0, none⟩)) ∧ w.heap.size ≤ b ∧ Vw w' b mb tb false ∧ Ext w w' := by
  go_enter Try.func19, Try.ntmps19
  go_wp2
  go_ret
  refine ⟨_, rfl, Nat.le_refl _, ⟨_, World.rowIs_alloc w #[.pointer none, .map (some mb), .pointer (some ⟨tb, 0, none⟩), .bool false, .int .u64 0, .int .u64 0, .map none, .pointer none] 62 (fun i => #[Value.pointer none, .map (some mb), .pointer (some ⟨tb, 0, none⟩), .bool false, .int .u64 0, .int .u64 0, .map none, .pointer none].getD i undef) (fun i hi => getD_there _ i hi), rfl, rfl, rfl⟩, (Ext.refl _).alloc _⟩

set_option maxHeartbeats 400000 in
theorem viewOwners_any (b mb tb : Nat) (own : Bool) (w : World) (h : Vw w b mb tb own) :
    Calls Try.prog 21 #[.pointer (some ⟨b, 0, none⟩)] w fun e w' => e = .returned (.pointer (some ⟨tb, 0, none⟩)) ∧ w' = w := by
  obtain ⟨F, h1, h2, h3, h4⟩ := h
  have c2 := h1.cell (i := 2) (by omega)
  rw [h3] at c2
  clear h1 h2 h3 h4
  go_enter Try.func21, Try.ntmps21
  go_wp2
  go_ret
  exact ⟨rfl, rfl⟩

set_option maxHeartbeats 400000 in
theorem viewOwnsTable_any (b mb tb : Nat) (own : Bool) (w : World) (h : Vw w b mb tb own) :
    Calls Try.prog 23 #[.pointer (some ⟨b, 0, none⟩)] w fun e w' => e = .returned (.bool own) ∧ w' = w := by
  obtain ⟨F, h1, h2, h3, h4⟩ := h
  have c3 := h1.cell (i := 3) (by omega)
  rw [h4] at c3
  clear h1 h2 h3 h4
  go_enter Try.func23, Try.ntmps23
  go_wp2
  go_ret
  exact ⟨rfl, rfl⟩

set_option maxHeartbeats 400000 in
theorem tableIDs_any (b : Nat) (os : Nat → Nat) (a : Option Addr) (n c : Nat) (w : World) (h : Tb w b os a n c) :
    Calls Try.prog 10 #[.pointer (some ⟨b, 0, none⟩)] w fun e w' => e = .returned (.slice a n c) ∧ w' = w := by
  obtain ⟨F, h1, h2, h3⟩ := h
  have c3 := h1.cell (i := 16384) (by omega)
  rw [h3] at c3
  clear h1 h2 h3
  go_enter Try.func10, Try.ntmps10
  go_wp2
  go_ret
  exact ⟨rfl, rfl⟩

end Go.Proofs.Qxb6608555a
