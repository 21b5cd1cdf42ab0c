/-
  What the law's walk says of the nodes, of the model, of the script's state.
-/
import Derived.Test.Qxb6608555aWalksB
import Derived.Test.Qxb6608555aWalksD
import Derived.Test.Qxb6608555aWalksI
import Derived.LaidEqlPtr
namespace Go.Proofs.Qxb6608555a
open Go.RowKit
set_option maxRecDepth 100000

/-- The nodes: none under ""; each leads to a node whose ID is its key. -/
def NodesOk (w : World) (M : ByteArray → Option Value) : Prop := M ByteArray.empty = none ∧ ∀ x v, M x = some v → ∃ nb, v = .pointer (some ⟨nb, 0, none⟩) ∧ nb < w.heap.size ∧ w.cell? ⟨nb, 0, none⟩ = some (.string x)

/-- A new node's cells. -/
abbrev nodeCells (x : ByteArray) : Array Value := #[.string x, .string { data := #[] }, .int .i64 0, .int .i64 0, .int .u8 0, .string { data := #[] }, .int .i64 0, .int .i64 0, .int .u64 0, .bool false, .int .i64 0]

/-- A node is made and laid under its ID. -/
theorem node_added {w2 wr : World} {M : ByteArray → Option Value} {x : ByteArray} (hM : SMap wr w2.heap.size M) (hN : NodesOk wr M) (hx : Ext w2 wr) (hne : ¬ x = ByteArray.empty) :
    ∃ w1, (Instr.mapUpdate 42 (.map (some w2.heap.size)) (.string x) (.pointer (some ⟨wr.heap.size, 0, none⟩))).run Try.prog (wr.alloc (.cells (nodeCells x) 47)).drew = .ok () w1 ∧ Ext w2 w1 ∧ SMap w1 w2.heap.size (fun k' => if (k' == x) = true then some (.pointer (some ⟨wr.heap.size, 0, none⟩)) else M k') ∧
      NodesOk w1 (fun k' => if (k' == x) = true then some (.pointer (some ⟨wr.heap.size, 0, none⟩)) else M k') := by
  have hlt := hM.lt
  obtain ⟨W, hW⟩ : ∃ W, W = (wr.alloc (.cells (nodeCells x) 47)).drew := ⟨_, rfl⟩
  have hxW : Ext wr W := by rw [hW]; exact ((Ext.refl _).alloc _).drew
  have hcW : W.cell? ⟨wr.heap.size, 0, none⟩ = some (.string x) := by rw [hW]; simp
  have hsW : W.heap.size = wr.heap.size + 1 := by rw [hW]; simp
  rw [← hW]
  clear hW
  have hMW : SMap W w2.heap.size M := hM.of_block (hxW.block _ hlt)
  obtain ⟨w1, h1, h2, h3⟩ := run_update_str (P := Try.prog) hMW 42 9 43 x (.pointer (some ⟨wr.heap.size, 0, none⟩)) Try.underlying42 Try.underlying9
  have hcell : ∀ nb, nb < W.heap.size → nb ≠ w2.heap.size → w1.cell? ⟨nb, 0, none⟩ = W.cell? ⟨nb, 0, none⟩ := fun nb _ hn => World.cell?_of_block (h3.2.2 nb hn)
  refine ⟨w1, h1, Below.trans (hx.trans hxW) (h3.below (Nat.le_refl _)), h2, ?_, fun y v hv => ?_⟩
  · have h4 : (ByteArray.empty == x) = false := by
      cases hq : (ByteArray.empty == x) with
      | false => rfl
      | true => exact absurd (beq_bytes hq).symm hne
    simp only [h4]
    simpa using hN.1
  · by_cases hyx : (y == x) = true
    · have e1 := beq_bytes hyx
      subst e1
      simp only [beq_self, if_true] at hv
      refine ⟨wr.heap.size, by cases hv; rfl, by rw [h3.2.1]; omega, ?_⟩
      rw [hcell _ (by omega) (by omega)]
      exact hcW
    · simp only [hyx] at hv
      obtain ⟨nb, e1, e2, e3⟩ := hN.2 y v (by simpa using hv)
      have hnm : nb ≠ w2.heap.size := by
        rintro rfl
        obtain ⟨es, cl, h5, _⟩ := hM
        simp [World.cell?, h5] at e3
      refine ⟨nb, e1, by rw [h3.2.1]; omega, ?_⟩
      rw [hcell _ (by omega) hnm, hxW.cell (p := ⟨nb, 0, none⟩) e2]
      exact e3

theorem keepS {a b c : World} {R : World → Prop} (h : Ext a b ∧ R b) (x : Ext b c) (H : ∀ c, Ext a c → R c) : Ext a c ∧ R c := ⟨h.1.trans x, H _ (h.1.trans x)⟩

theorem Try.info32 : (Try.prog.info? 32).map (fun i => (i.zero, i.size)) = some (some (.agg (Array.replicate 16384 (.string ByteArray.empty))), 16384) := by kernel_rfl
theorem wpList_alloc32 {ops : Array Oper} {rest : List Oper} {o : Oper} {a : Act} {w : World} {Q : Exit → Act → World → Prop} (hg : o.guard = none) (ho : o.op = .alloc 32)
    (h : wpList Try.prog ops Q rest (a.put o.dst (.pointer (some ⟨w.heap.size, 0, none⟩))) (w.alloc (.cells (Array.replicate 16384 (.string ByteArray.empty)) 32))) : wpList Try.prog ops Q (o :: rest) a w := by
  refine wpList_plain hg fun K hK => ?_
  have hz := (zero_of_info Try.info32).1
  unfold Oper.wp execOp
  simp only [ho, Instr.alloc, hz, Sem.run_bind, Result.andThen_ok, newVar, newRow, run_newObj_alloc, Sem.run_pure, Value.cells]
  exact hK _ _ h
/-- The model's array, new. -/
theorem model_new (w : World) : ∃ G, (w.alloc (.cells (Array.replicate 16384 (.string ByteArray.empty)) 32)).rowIs w.heap.size 32 16384 G := by
  obtain ⟨xs, hx⟩ : ∃ xs : Array Value, xs = Array.replicate 16384 (.string ByteArray.empty) := ⟨_, rfl⟩
  have hxs : xs.size = 16384 := by rw [hx]; simp
  rw [← hx]
  have := World.rowIs_alloc w xs 32 (fun i => xs.getD i undef) (fun i hi => getD_there _ i hi)
  rw [hxs] at this
  exact ⟨_, this⟩

/-- What the map of nodes says of an ID. -/
def NK (M : ByteArray → Option Value) (x : ByteArray) : Value := (M x).getD (.pointer none)
theorem node_of {w : World} {M : ByteArray → Option Value} (h : NodesOk w M) (x : ByteArray) : ∃ np y, NK M x = .pointer np ∧ NodeIs w w.heap.size np y ∧ NK M y = NK M x := by
  cases hx : M x with
  | none => exact ⟨none, ByteArray.empty, by simp [NK, hx], .inl ⟨rfl, rfl⟩, by simp [NK, hx, h.1]⟩
  | some v =>
    obtain ⟨nb, rfl, h1, h2⟩ := h.2 x v hx
    exact ⟨some ⟨nb, 0, none⟩, x, by simp [NK, hx], .inr ⟨nb, rfl, h1, h2⟩, rfl⟩
theorem NodeIs.below {w w' : World} {B hi hi' : Nat} {np : Option Addr} {x : ByteArray} (h : NodeIs w hi np x) (e : Below B w w') (hb : hi ≤ B) (hh : hi ≤ hi') : NodeIs w' hi' np x := by
  rcases h with h | ⟨nb, h1, h2, h3⟩
  · exact .inl h
  · exact .inr ⟨nb, h1, by omega, by rw [e.cell (p := ⟨nb, 0, none⟩) (show nb < B by omega)]; exact h3⟩
theorem ownerOf_nk {M : ByteArray → Option Value} {p : Nat} {ss : List ByteArray} (h0 : M ByteArray.empty = none) (hs : ss.getD 0 ByteArray.empty = ByteArray.empty) : ownerOf M p ss = NK M (ss.getD p ByteArray.empty) := by
  unfold ownerOf
  split
  · rename_i h
    rw [h, hs]
    simp [NK, h0]
  · rfl

/-- The script's state: k calls are done. -/
structure Sc (B : Nat) (w6 wr : World) (vb mk mb tb : Nat) (os : Nat → Nat) (ss : List ByteArray) (M : ByteArray → Option Value) (k : Nat) (f : Value) (md : Nat → ByteArray) : Prop where
  below : Below B w6 wr
  model : ∃ G, wr.rowIs mk 32 16384 G ∧ ∀ s, s < 16384 → G s = .string (md s)
  st : (k = 0 ∧ f = .pointer none ∧ Vw wr vb mb tb false ∧ ∀ s, s < 16384 → NK M (ss.getD (os s) ByteArray.empty) = NK M (md s)) ∨
    ∃ lo fb os' ss', 0 < k ∧ f = .pointer (some ⟨fb, 0, none⟩) ∧ Vw wr vb mb fb true ∧ TabO wr lo fb os' ss' ∧ mk < lo ∧ lo ≤ wr.heap.size ∧ ss'.length ≤ 16386 + k ∧ ∀ s, s < 16384 → NK M (ss'.getD (os' s) ByteArray.empty) = NK M (md s)
/-- Behind a call of setOwner. -/
structure Mid (B : Nat) (wr w' : World) (vb mk mb fb lo : Nat) (os' : Nat → Nat) (ss' : List ByteArray) : Prop where
  below : Below B wr w'
  model : w'.heap[mk]? = wr.heap[mk]?
  view : Vw w' vb mb fb true
  tab : TabO w' lo fb os' ss'
  mk_lt : mk < lo
  lo_le : lo ≤ w'.heap.size

theorem sc_first {B Bs : Nat} {wr : World} {vb mk mb tb sl : Nat} {os : Nat → Nat} {a : Option Addr} {n c : Nat} {ss : List ByteArray} {M : ByteArray → Option Value} {md : Nat → ByteArray} {np : Option Addr} {x y : ByteArray}
    (hB : B ≤ vb) (hvm : vb < mk) (hmk : mk < wr.heap.size) (hv : Vw wr vb mb tb false) (ht : Tb wr tb os a n c) (h : Ss Bs wr a n c ss) (hBs : Bs ≤ wr.heap.size) (hn : n ≤ 65536) (h0 : ss.getD 0 ByteArray.empty = ByteArray.empty) (hos : ∀ s, s < 16384 → os s < n) (hob : ∀ s, s < 16384 → os s ≤ 65535) (hsl : sl < 16384)
    (hnp : NodeIs wr vb np y) (hy : NK M y = NK M x) (hmd : ∀ s, s < 16384 → NK M (ss.getD (os s) ByteArray.empty) = NK M (md s)) :
    Calls Try.prog 20 #[.pointer (some ⟨vb, 0, none⟩), .int .i64 sl, .pointer np] wr.drew fun e w' => e = .returned (.tuple #[]) ∧ ∃ fb lo os' ss', Mid B wr w' vb mk mb fb lo os' ss' ∧ ss'.length ≤ 16386 ∧ ∀ s, s < 16384 → NK M (ss'.getD (os' s) ByteArray.empty) = NK M (if s = sl then x else md s) := by
  refine zzSetOwner_of vb sl np wr.drew _ ((setOwner_first (B := Bs) vb mb tb sl os a n c ss np y wr.drew (hv.of_block rfl) (ht.of_block rfl) (h.below (B' := Bs) ((Below.refl _ _).drew) (Nat.le_refl _)) hBs hn h0 hos hob hsl (hnp.below (B := vb) ((Below.refl _ _).drew) (Nat.le_refl _) (Nat.le_refl _))).mono ?_)
  rintro e w' ⟨rfl, cb, os', cs, v1, t1, r1, l1, b1⟩
  refine ⟨rfl, cb, wr.heap.size, os', cs, ⟨⟨b1.1.os, b1.1.tape, b1.1.output, b1.1.size, fun k hk => b1.2 k (by show k < wr.heap.size; omega) (by omega)⟩, b1.2 mk hmk (by omega), v1, t1, hmk, b1.1.size⟩, l1, fun s hs => ?_⟩
  rw [r1 s hs]
  split
  · exact hy
  · exact hmd s hs

theorem sc_next {B : Nat} {wr : World} {vb mk mb fb lo sl k : Nat} {os : Nat → Nat} {ss : List ByteArray} {M : ByteArray → Option Value} {md : Nat → ByteArray} {np : Option Addr} {x y : ByteArray}
    (hB : B ≤ vb) (hvm : vb < mk) (hv : Vw wr vb mb fb true) (ht : TabO wr lo fb os ss) (hml : mk < lo) (hlo : lo ≤ wr.heap.size) (hk : k ≤ 4096) (hl : ss.length ≤ 16386 + k) (hsl : sl < 16384)
    (hnp : NodeIs wr vb np y) (hy : NK M y = NK M x) (hmd : ∀ s, s < 16384 → NK M (ss.getD (os s) ByteArray.empty) = NK M (md s)) :
    Calls Try.prog 20 #[.pointer (some ⟨vb, 0, none⟩), .int .i64 sl, .pointer np] wr.drew fun e w' => e = .returned (.tuple #[]) ∧ ∃ os' ss', Mid B wr w' vb mk mb fb lo os' ss' ∧ ss'.length ≤ 16386 + (k + 1) ∧ ∀ s, s < 16384 → NK M (ss'.getD (os' s) ByteArray.empty) = NK M (if s = sl then x else md s) := by
  refine zzSetOwner_of vb sl np wr.drew _ ((setOwner_next vb mb fb sl lo os ss np y wr.drew (hv.of_block rfl) ht.drew (by omega) hlo (by omega) hsl (hnp.below (B := vb) ((Below.refl _ _).drew) (Nat.le_refl _) (by omega))).mono ?_)
  rintro e w' ⟨rfl, os', cs, v1, t1, r1, l1, b1⟩
  refine ⟨rfl, os', cs, ⟨Below.trans ((Below.refl _ _).drew) (b1.mono (by omega)), b1.block mk hml, v1, t1, hml, Nat.le_trans hlo b1.size⟩, by omega, fun s hs => ?_⟩
  rw [r1 s hs]
  split
  · exact hy
  · exact hmd s hs

/-- The model's cell is written. -/
theorem sc_stored {B : Nat} {w6 wr w7 : World} {vb mk mb tb fb lo sl k : Nat} {os os' : Nat → Nat} {ss ss' : List ByteArray} {M : ByteArray → Option Value} {md : Nat → ByteArray} {x : ByteArray}
    (hB : B ≤ vb) (hvm : vb < mk) (hb : Below B w6 wr) (hG : ∃ G, wr.rowIs mk 32 16384 G ∧ ∀ s, s < 16384 → G s = .string (md s)) (hm : Mid B wr w7 vb mk mb fb lo os' ss') (hl : ss'.length ≤ 16386 + (k + 1))
    (hval : ∀ s, s < 16384 → NK M (ss'.getD (os' s) ByteArray.empty) = NK M (if s = sl then x else md s)) :
    Sc B w6 (w7.setCell ⟨mk, sl, none⟩ (.string x)).drew vb mk mb tb os ss M (k + 1) (.pointer (some ⟨fb, 0, none⟩)) (fun s => if s = sl then x else md s) := by
  obtain ⟨G, hG, hGs⟩ := hG
  have hG7 : w7.rowIs mk 32 16384 G := hG.of_block hm.model
  have hfb : fb ≠ mk := by have := hm.tab.low; have := hm.mk_lt; omega
  refine ⟨((Below.trans hb hm.below).setCell (by simp; omega) _).drew, ⟨_, (hG7.set sl (.string x)).drew, fun s hs => ?_⟩, .inr ⟨lo, fb, os', ss', by omega, rfl, hm.view.of_block (Below.heap_setCell _ _ _ _ (show vb ≠ mk by omega)), (hm.tab.other hG7 (by decide) hfb _ _).drew, hm.mk_lt, by simpa using hm.lo_le, hl, hval⟩⟩
  by_cases h : s = sl
  · simp [h]
  · simp only [if_neg h]
    exact hGs s hs

/-- What the script has left, as the views read it. -/
theorem sc_done {B Bs : Nat} {w6 wr : World} {vb mk mb tb n2 : Nat} {os : Nat → Nat} {a : Option Addr} {n c : Nat} {ss : List ByteArray} {M : ByteArray → Option Value} {f : Value} {md : Nat → ByteArray} (h : Sc B w6 wr vb mk mb tb os ss M n2 f md) (hn2 : n2 ≤ 4096) (htb : tb < mk)
    (h00 : M ByteArray.empty = none) (ht : Tb wr tb os a n c) (hs : Ss Bs wr a n c ss) (hBs : Bs ≤ wr.heap.size) (hn : n ≤ 65536) (h0 : ss.getD 0 ByteArray.empty = ByteArray.empty) (hos : ∀ s, s < 16384 → os s < n) (hob : ∀ s, s < 16384 → os s ≤ 65535) :
    ∃ tb' own os' a' n' c' ss', Vw wr vb mb tb' own ∧ Tb wr tb' os' a' n' c' ∧ Ss wr.heap.size wr a' n' c' ss' ∧ n' ≤ 1048576 ∧ (∀ s, s < 16384 → os' s < n' ∧ os' s ≤ 65535 ∧ ownerOf M (os' s) ss' = NK M (md s)) ∧
      ((n2 = 0 ∧ tb' = tb ∧ own = false) ∨ (0 < n2 ∧ f = .pointer (some ⟨tb', 0, none⟩) ∧ own = true ∧ tb' ≠ tb)) := by
  rcases h.st with ⟨rfl, rfl, hv, hm⟩ | ⟨lo, fb, os', ss', hk, rfl, hv, hT, hml, hlo, hl, hm⟩
  · exact ⟨tb, false, os, a, n, c, ss, hv, ht, hs.mono hBs, by omega, fun s hs => ⟨hos s hs, hob s hs, by rw [ownerOf_nk h00 h0]; exact hm s hs⟩, .inl ⟨rfl, rfl, rfl⟩⟩
  · obtain ⟨F, v, hF, hFs, hFv, hown⟩ := hT.row
    obtain ⟨g, cap, rfl, hg, hgl, hss, cur, hcur⟩ := own_ss hown hT.pos
    refine ⟨fb, true, os', _, _, _, ss', hv, ⟨F, hF, hFs, hFv⟩, hss, by omega, fun s hs => ⟨hT.fits s hs, by have := hT.fits s hs; omega, by rw [ownerOf_nk h00 hT.first]; exact hm s hs⟩, .inr ⟨hk, rfl, rfl, by have := hT.low; omega⟩⟩

theorem info_some (t : TypeId) (h : (Try.prog.info? t).isSome = true) : ∃ j, Try.prog.info? t = some j := Option.isSome_iff_exists.1 h
theorem run_eq_self {tp te : TypeId} (hp : Try.prog.underlying tp = some (.pointer te)) (hte : (Try.prog.info? te).isSome = true) (np : Option Addr) (w : World) : (Op.equal tp (.pointer np) (.pointer np)).run Try.prog w = .ok true w := by
  obtain ⟨j, hj⟩ := info_some te hte
  have h : ∀ d : Nat, (Op.equalIn (d + 1) tp (.pointer np) (.pointer np)).run Try.prog w = .ok true w := fun d => by
    cases np with
    | none => simp [Op.equalIn, run_underlying hp]
    | some a => simp [Op.equalIn, run_underlying hp, sizeOf, typeInfo, hj, run_sameAddr_same]
  exact h 9999
theorem run_neq_self {tp te : TypeId} (hp : Try.prog.underlying tp = some (.pointer te)) (hte : (Try.prog.info? te).isSome = true) (np : Option Addr) (w : World) : (binOp .neq tp (.pointer np) (.pointer np)).run Try.prog w = .ok (.bool false) w := by
  simp only [binOp]
  simp [run_eq_self hp hte np w]
theorem run_eql_self {tp te : TypeId} (hp : Try.prog.underlying tp = some (.pointer te)) (hte : (Try.prog.info? te).isSome = true) (np : Option Addr) (w : World) : (binOp .eql tp (.pointer np) (.pointer np)).run Try.prog w = .ok (.bool true) w := by
  simp only [binOp]
  simp [run_eq_self hp hte np w]
theorem run_neq_row {tp te : TypeId} (hp : Try.prog.underlying tp = some (.pointer te)) (hte : (Try.prog.info? te).map (·.size) = some 16386) {a b ta tb na nb : Nat} {F G : Nat → Value} {w : World} (ha : w.rowIs a ta na F) (hb : w.rowIs b tb nb G) (hne : a ≠ b) : (binOp .neq tp (.pointer (some ⟨a, 0, none⟩)) (.pointer (some ⟨b, 0, none⟩))).run Try.prog w = .ok (.bool true) w := by
  obtain ⟨ca, h1, _⟩ := ha
  obtain ⟨cb, h2, _⟩ := hb
  have hj : ∃ j, Try.prog.info? te = some j ∧ j.size ≠ 0 := by
    cases hq : Try.prog.info? te with
    | none => simp [hq] at hte
    | some j => simp [hq] at hte; exact ⟨j, rfl, by omega⟩
  obtain ⟨j, hj, hsz⟩ := hj
  have h : ∀ d : Nat, (Op.equalIn (d + 1) tp (.pointer (some ⟨a, 0, none⟩)) (.pointer (some ⟨b, 0, none⟩))).run Try.prog w = .ok false w := fun d => by
    simp [Op.equalIn, run_underlying hp, sizeOf, typeInfo, hj, hsz, run_sameAddr_other w (a := ⟨a, 0, none⟩) (b := ⟨b, 0, none⟩) (fun e => hne (by cases e; rfl)) h1 h2]
  simp only [binOp]
  simp [Op.equal, Op.maxDepth, h 9999]
theorem Try.info47s : (Try.prog.info? 47).isSome = true := by kernel_rfl
theorem Try.info57s : (Try.prog.info? 57).isSome = true := by kernel_rfl
theorem Try.size57 : (Try.prog.info? 57).map (·.size) = some 16386 := by kernel_rfl
theorem isAgg28 : ∀ w, (isAgg 28).run Try.prog w = .ok false w := fun w => by
  have hu := Try.underlying28
  simp [isAgg, run_underlying hu]
theorem Try.sz28 : (Try.prog.info? 28).map (·.size) = some 1 := by kernel_rfl
end Go.Proofs.Qxb6608555a
