/-
  A table of the call's own: newSlotTable, set.
-/
import Derived.Test.Qxb6608555aWalksC
import Derived.Deep.WholeRow
import Derived.Deep.DrawnRows
import Derived.Great.Walk
namespace Go.Proofs.Qxb6608555a
open Go.RowKit
set_option maxRecDepth 100000

theorem built57b (a : Option Addr) (n c : Nat) : Try.prog.built 57 [(1, .slice a n c)] = some (Array.replicate 16384 (.int .u16 0) ++ #[.slice a n c, .pointer none]) := by
  have h1 := Try.info57
  have h2 := Try.places57
  cases hi : Try.prog.info? 57 with
  | none => simp [hi] at h1
  | some it =>
    cases hu : Try.prog.underlying 57 with
    | none => simp [hu] at h2
    | some d =>
      rw [hi] at h1
      rw [hu] at h2
      simp only [Option.map_some, Option.some.injEq, Prod.mk.injEq] at h1 h2
      cases d <;> try (simp at h2; done)
      rename_i fields
      have h2' : (fields.toList.mapM fun f => (Try.prog.info? f.type).map fun i => (f.offset, i.size)) = some [(0, 16384), (16384, 1), (16385, 1)] := h2
      simp only [Program.built, hi, hu, h1.1, h2']
      obtain ⟨xs, hx⟩ : ∃ xs : Array Value, xs = Array.replicate 16384 (.int .u16 0) := ⟨_, rfl⟩
      have hxs : xs.size = 16384 := by rw [hx]; simp
      rw [← hx]
      refine (fill_cons (place := fun x => ([(0, 16384), (16384, 1), (16385, 1)] : List (Nat × Nat)).toArray[x]?) (cells := xs ++ #[.slice none 0 0, .pointer none]) (i := 1) (v := .slice a n c) (off := 16384) (size := 1) rfl rfl (by simp [hxs])).trans ?_
      show some ((xs ++ #[Value.slice none 0 0, Value.pointer none]).setIfInBounds (16384 + 0) (.slice a n c)) = _
      congr 1
      apply Array.ext_getElem?
      intro k
      rw [Array.getElem?_setIfInBounds]
      by_cases hk : k < 16384
      · rw [if_neg (by omega), Array.getElem?_append_left (by omega), Array.getElem?_append_left (by omega)]
      · by_cases hk2 : k = 16384
        · subst hk2
          rw [Array.getElem?_append_right (by omega)]
          simp [hxs]
        · rw [if_neg (by omega), Array.getElem?_append_right (by omega), Array.getElem?_append_right (by omega), hxs]
          obtain ⟨j, rfl⟩ : ∃ j, k = 16384 + (j + 1) := ⟨k - 16385, by omega⟩
          simp

theorem wpList_build57b {ops : Array Oper} {rest : List Oper} {o : Oper} {a : Act} {w : World} {Q : Exit → Act → World → Prop} (hg : o.guard = none) (y : Operand) (ho : o.op = .build 57 #[(1, y)])
    (p : Option Addr) (n c : Nat) (hy : a.eval y = .slice p n c)
    (h : wpList Try.prog ops Q rest (a.put o.dst (.agg (Array.replicate 16384 (.int .u16 0) ++ #[.slice p n c, .pointer none]))) w) : wpList Try.prog ops Q (o :: rest) a w := by
  refine wpList_plain hg fun K hK => ?_
  unfold Oper.wp execOp
  simp only [ho, List.map_toArray, List.map_cons, List.map_nil, hy, Sem.run_bind, run_build w 57 _ _ (built57b p n c), Result.andThen_ok]
  exact hK _ _ h

theorem alloc_new (w : World) (o : Obj) : (w.alloc o).heap[w.heap.size]? = some o := by
  show (w.heap.push o)[w.heap.size]? = some o
  simp

/-- A table of the call's own: from block lo on; its IDs, the first "", each slot's place among them. -/
structure TabO (w : World) (lo b : Nat) (os : Nat → Nat) (ss : List ByteArray) : Prop where
  low : lo ≤ b
  row : ∃ F v, w.rowIs b 57 16386 F ∧ (∀ s, s < 16384 → F s = .int .u16 (os s : Nat)) ∧ F 16384 = v ∧ w.ownsRow lo 9 1 v ss.length (ss.map Value.string)
  pos : 0 < ss.length
  first : ss.getD 0 ByteArray.empty = ByteArray.empty
  fits : ∀ s, s < 16384 → os s < ss.length

set_option maxHeartbeats 400000 in
theorem newTable_any (w : World) :
    Calls Try.prog 24 #[] w fun e w' => e = .returned (.pointer (some ⟨w.heap.size + 1, 0, none⟩)) ∧ TabO w' w.heap.size (w.heap.size + 1) (fun _ => 0) [ByteArray.empty] ∧ Ext w w' := by
  go_enter Try.func24, Try.ntmps24
  go_wp2_with (refine wpList_build57b rfl _ rfl _ _ _ rfl ?_)
  go_ret
  refine ⟨rfl, ⟨by omega, ?_, by simp, rfl, fun s hs => by simp⟩, ((Ext.refl _).alloc _).alloc _⟩
  obtain ⟨xs, hx⟩ : ∃ xs : Array Value, xs = Array.replicate 16384 (.int .u16 0) := ⟨_, rfl⟩
  have hxs : xs.size = 16384 := by rw [hx]; simp
  have hxv : ∀ s, s < 16384 → xs.getD s undef = .int .u16 0 := fun s hs => by rw [hx]; simp [hs]
  rw [← hx]
  clear hx
  obtain ⟨W, hW⟩ : ∃ W, W = w.alloc (.cells #[.string ByteArray.empty] 9) := ⟨_, rfl⟩
  have hWs : W.heap.size = w.heap.size + 1 := by rw [hW]; simp
  have hown : W.ownsRow w.heap.size 9 1 (.slice (some ⟨w.heap.size, 0, none⟩) 1 1) 1 [.string ByteArray.empty] := by
    rw [hW]
    exact ⟨rfl, .inr ⟨_, 1, _, rfl, Nat.le_refl _, alloc_new _ _, Nat.le_refl _, by simp [maxLen], rfl, rfl⟩⟩
  have e2 : (xs ++ #[Value.slice (some ⟨w.heap.size, 0, none⟩) 1 1, Value.pointer none]).size = 16386 := by simp [hxs]
  have hrow := World.rowIs_alloc W (xs ++ #[Value.slice (some ⟨w.heap.size, 0, none⟩) 1 1, Value.pointer none]) 57 (fun i => (xs ++ #[Value.slice (some ⟨w.heap.size, 0, none⟩) 1 1, Value.pointer none]).getD i undef) (fun i hi => getD_there _ i hi)
  rw [hWs, e2] at hrow
  have hown2 := hown.alloc (.cells (xs ++ #[Value.slice (some ⟨w.heap.size, 0, none⟩) 1 1, Value.pointer none]) 57)
  rw [hW] at hown2 hrow
  refine ⟨_, .slice (some ⟨w.heap.size, 0, none⟩) 1 1, hrow, fun s hs => ?_, ?_, hown2⟩
  · have := hxv s hs
    simp only [Array.getD_eq_getD_getElem?] at this ⊢
    rw [Array.getElem?_append_left (by omega), this]
    rfl
  · simp [hxs]


theorem Try.info9' : ∃ i, Try.prog.info? 9 = some i ∧ i.zero = some (.string ByteArray.empty) ∧ i.size = 1 ∧ i.bytes = 16 := by
  have h := Try.info9
  cases hi : Try.prog.info? 9 with
  | none => simp [hi] at h
  | some i =>
    rw [hi] at h
    simp only [Option.map_some, Option.some.injEq, Prod.mk.injEq] at h
    exact ⟨i, rfl, h.1, h.2.1, h.2.2⟩

/-- A slice of the call's own reads as a slice of strings. -/
theorem own_ss {w : World} {lo : Nat} {v : Value} {ss : List ByteArray} (h : w.ownsRow lo 9 1 v ss.length (ss.map Value.string)) (hp : 0 < ss.length) :
    ∃ g cap, v = .slice (some ⟨g, 0, none⟩) ss.length cap ∧ lo ≤ g ∧ g < w.heap.size ∧ Ss w.heap.size w (some ⟨g, 0, none⟩) ss.length cap ss ∧ ∃ cur, w.heap[g]? = some (.cells cur 9 (0, 0)) := by
  rcases h.2 with ⟨_, h2⟩ | ⟨g, cap, cur, h1, h2, h3, h4, h5, h6, h7⟩
  · omega
  · have hlt := (Array.getElem?_eq_some_iff.1 h3).1
    subst h1
    refine ⟨g, cap, rfl, h2, hlt, ⟨rfl, h4, fun e => (by cases e), fun _ => ⟨g, 0, rfl, hlt, fun i hi => ?_⟩⟩, cur, h3⟩
    have := h.cells (g := g) rfl i (.string (ss.getD i ByteArray.empty)) (by simp [hi])
    rw [Addr.add_mid] at this
    exact this

theorem wpList_append_run {P : Program} {ops : Array Oper} {rest : List Oper} {o : Oper} {a : Act} {w : World} {Q : Exit → Act → World → Prop} (hgd : o.guard = none) (s x : Operand) (t : TypeId)
    (ho : o.op = .call { callee := .builtin .append, args := #[s, x], argTypes := #[t, t] }) (vs vx : Value) (hs : a.eval s = vs) (hx : a.eval x = vx) (v' : Value) (w' : World)
    (hr : (Builtin.append_ #[t, t] o.type #[vs, vx]).run P w = .ok v' w') (h : wpList P ops Q rest (a.put o.dst v') w') : wpList P ops Q (o :: rest) a w := by
  refine wpList_plain hgd fun K hK => ?_
  unfold Oper.wp execOp
  simp only [ho, resolve, invoke, builtin, Sem.run_bind, Sem.run_pure, Result.andThen_ok, List.map_toArray, List.map_cons, List.map_nil, hs, hx, hr]
  exact hK _ _ h

theorem row_ne {w : World} {b g : Nat} {F : Nat → Value} {cur : Array Value} (h : w.rowIs b 57 16386 F) (k : w.heap[g]? = some (.cells cur 9 (0, 0))) : b ≠ g := by
  rintro rfl
  obtain ⟨c, h1, _⟩ := h
  rw [k] at h1
  simp at h1

theorem own_set {w : World} {lo e size n : Nat} {v : Value} {xs : List Value} (h : w.ownsRow lo e size v n xs) (b : Nat) (hb : v.ownBlock ≠ some b) (o : Nat) (u : Value) : (w.setCell ⟨b, o, none⟩ u).ownsRow lo e size v n xs :=
  h.kept (row := some b) ⟨rfl, rfl, rfl, by simp [World.setCell], fun k _ hk => Below.heap_setCell _ _ _ _ (by intro e; apply hk; rw [e])⟩ (.inr hb)

/-- A slot's place is turned. -/
theorem TabO.put {w : World} {lo b : Nat} {os : Nat → Nat} {ss : List ByteArray} {sl p : Nat} (h : TabO w lo b os ss) (hsl : sl < 16384) (hp : p < ss.length) :
    TabO (w.setCell ⟨b, sl, none⟩ (.int .u16 (p : Nat))) lo b (fun s => if s = sl then p else os s) ss := by
  obtain ⟨F, v, hF, hFs, hFv, hown⟩ := h.row
  obtain ⟨g, cap, rfl, hg, hgl, hss, cur, hcur⟩ := own_ss hown h.pos
  have hne := row_ne hF hcur
  refine ⟨h.low, ⟨_, _, hF.set sl (.int .u16 (p : Nat)), fun s hs => ?_, rfl, ?_⟩, h.pos, h.first, fun s hs => ?_⟩
  · by_cases hss : s = sl
    · simp only [hss, if_true]
    · simp only [if_neg hss]
      exact hFs s hs
  · rw [if_neg (by omega), hFv]
    exact own_set hown b (by intro e; cases e; exact hne rfl) sl _
  · by_cases hss : s = sl
    · simp only [hss, if_true]
      exact hp
    · simp only [if_neg hss]
      exact h.fits s hs

set_option maxHeartbeats 1000000 in
theorem set_any (lo b sl : Nat) (os : Nat → Nat) (ss : List ByteArray) (x : ByteArray) (w : World) (h : TabO w lo b os ss) (hlo : lo ≤ w.heap.size) (hsl : sl < 16384) (hn : ss.length ≤ 60000) :
    Calls Try.prog 25 #[.pointer (some ⟨b, 0, none⟩), .int .i64 sl, .string x] w fun e w' => e = .returned (.tuple #[]) ∧
      ∃ p ss', TabO w' lo b (fun s => if s = sl then p else os s) ss' ∧ ss'.getD p ByteArray.empty = x ∧ (∀ k, k < ss.length → ss'.getD k ByteArray.empty = ss.getD k ByteArray.empty) ∧ ss'.length ≤ ss.length + 1 ∧ Below lo w w' := by
  obtain ⟨F, v, hF, hFs, hFv, hown⟩ := h.row
  obtain ⟨g, cap, rfl, hg, hgl, hss, cur, hcur⟩ := own_ss hown h.pos
  have c1 := hF.cell (i := 16384) (by omega)
  rw [hFv] at c1
  have f1 := hF.frozen 16384
  have c2 := hF.cell (i := sl) (by omega)
  have f2 := hF.frozen sl
  have HF : Hid (w.rowIs b 57 16386 F) := hF
  have HFs : Hid (∀ s, s < 16384 → F s = .int .u16 (os s : Nat)) := hFs
  have HFv : Hid (F 16384 = .slice (some ⟨g, 0, none⟩) ss.length cap) := hFv
  have HO : Hid (w.ownsRow lo 9 1 (.slice (some ⟨g, 0, none⟩) ss.length cap) ss.length (ss.map Value.string)) := hown
  have H : Hid (TabO w lo b os ss) := h
  have HSS : Hid (Ss w.heap.size w (some ⟨g, 0, none⟩) ss.length cap ss) := hss
  obtain ⟨n, hnn⟩ : ∃ n, ss.length = n := ⟨_, rfl⟩
  rw [hnn] at c1 hn
  have HN : Hid (ss.length = n) := hnn
  have hbl := hF.lt
  have hlow := h.low
  have hne : b ≠ g := row_ne hF hcur
  obtain ⟨i, hi, hiz, his, hib⟩ := Try.info9'
  obtain ⟨v', w2, hr, hown2, hgrow, -⟩ := run_append_own (P := Try.prog) (w.alloc (.cells #[.string x] 9)) lo 23 23 9 i (.string ByteArray.empty) 1 16 Try.underlying23 hi hiz his hib rfl (by omega)
    (.slice (some ⟨g, 0, none⟩) ss.length cap) ss.length (ss.map Value.string) (hown.alloc _) ⟨w.heap.size, 0, none⟩ 1 1 [.string x] rfl (fun j u hj => by
      obtain ⟨hj1, rfl⟩ := List.getElem?_eq_some_iff.1 hj
      simp at hj1
      subst hj1
      simp [Addr.add]) (fun u hu => by simp at hu; subst hu; rfl) (by simp [maxLen]; omega) (by omega) (by simp; omega)
  have hF2 : w2.rowIs b 57 16386 F := (hF.alloc _).of_block (hgrow.block b (by simp; omega) (by simp [Value.ownBlock]; exact hne))
  have hlen2 : (ss ++ [x]).length = ss.length + 1 := by simp
  have hown3 : w2.ownsRow lo 9 1 v' (ss ++ [x]).length ((ss ++ [x]).map Value.string) := by rw [hlen2]; simpa using hown2
  obtain ⟨g', cap', rfl, hg', hgl', -, cur', hcur'⟩ := own_ss hown3 (by simp)
  have hne' : b ≠ g' := row_ne hF2 hcur'
  have hbel : Below lo w w2 := by
    have h1 : Ext w (w.alloc (.cells #[.string x] 9)) := (Ext.refl _).alloc _
    refine ⟨hgrow.os.trans h1.os, hgrow.tape.trans h1.tape, hgrow.output.trans h1.output, Nat.le_trans h1.size hgrow.size, fun k hk => ?_⟩
    rw [hgrow.block k (by simp; omega) (by simp [Value.ownBlock]; omega)]
    exact h1.block k (by omega)
  have d1 := hF2.cell (i := 16384) (by omega)
  have d2 := hF2.cell (i := sl) (by omega)
  have e1 := hF2.frozen 16384
  have e2 := hF2.frozen sl
  rw [hlen2, HN.out] at hown3
  rw [HN.out, hlen2, HN.out] at hr
  have HF2 : Hid (w2.rowIs b 57 16386 F) := hF2
  have HO3 : Hid (w2.ownsRow lo 9 1 (.slice (some ⟨g', 0, none⟩) (n + 1) cap') (n + 1) ((ss ++ [x]).map Value.string)) := hown3
  have HR : Hid ((Builtin.append_ #[23, 23] 23 #[.slice (some ⟨g, 0, none⟩) n cap, .slice (some ⟨w.heap.size, 0, none⟩) 1 1]).run Try.prog (w.alloc (.cells #[.string x] 9)) = .ok (.slice (some ⟨g', 0, none⟩) (n + 1) cap') w2) := hr
  have HBEL : Hid (Below lo w w2) := hbel
  have hslne : ¬ sl = 16384 := by omega
  clear hF hFs hFv hown h hss hnn hcur hF2 hown2 hown3 hr hgrow hlen2 hbel hcur' hi hiz his hib
  go_enter Try.func25, Try.ntmps25
  go_wp2_with (first
    | (go_at_call 29; refine (index_any _ n cap ss x _ (by rw [← HN.out]; exact HSS.out) (by omega)).mono ?_; rintro e w' ⟨hix, hw⟩; rw [hw]; clear hw w'; rcases hix with rfl | ⟨k, hk, hkx, rfl⟩)
    | (refine wpList_append_run rfl _ _ 23 rfl _ _ rfl rfl _ w2 HR.out ?_))
  · refine Great.bodyPost_end0 Try.results25 rfl ?_
    have t2 : TabO (w2.setCell ⟨b, 16384, none⟩ (.slice (some ⟨g', 0, none⟩) (n + 1) cap')) lo b os (ss ++ [x]) := by
      refine ⟨hlow, ⟨_, _, HF2.out.set 16384 (.slice (some ⟨g', 0, none⟩) (n + 1) cap'), fun s hs => ?_, rfl, ?_⟩, by simp, ?_, fun s hs => ?_⟩
      · rw [if_neg (by omega)]
        exact HFs.out s hs
      · rw [if_pos rfl]
        have := own_set HO3.out b (by intro e; cases e; exact hne' rfl) 16384 (.slice (some ⟨g', 0, none⟩) (n + 1) cap')
        rw [List.length_append, HN.out]
        exact this
      · have h1 := H.out.first
        have h2 := H.out.pos
        rw [← h1]
        simp [h2]
      · have := H.out.fits s hs
        simp
        omega
    refine ⟨rfl, n, ss ++ [x], t2.put hsl (by simp [HN.out]), ?_, fun k hk => ?_, by simp, ?_⟩
    · have hn2 := HN.out
      subst hn2
      simp
    · rw [List.getD_eq_getElem?_getD, List.getD_eq_getElem?_getD, List.getElem?_append_left hk]
    · exact Below.setCell (Below.setCell HBEL.out hlow _) hlow _
  · refine Great.bodyPost_end0 Try.results25 rfl ?_
    exact ⟨rfl, k, ss, H.out.put hsl (by rw [HN.out]; exact hk), hkx, fun _ _ => rfl, by omega, Below.setCell (Below.refl _ _) hlow _⟩

end Go.Proofs.Qxb6608555a
