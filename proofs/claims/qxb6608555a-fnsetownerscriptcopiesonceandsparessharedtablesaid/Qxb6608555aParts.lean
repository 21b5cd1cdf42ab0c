/-
  What the walks of this seat say of memory: slices of strings, tables, maps of strings; whole arrays.
-/
import Derived.WalkKit
import Derived.WalkSpells
import Derived.WalkLawsBesides
import Derived.Laws.CopyOwn
import Derived.Deep.AppendLies
import Derived.Deep.OwnRows
import Derived.Deep.MidRow
import Derived.MapKept
import Derived.Laws.StructEq
namespace Go.Proofs.Qxb6608555a
open Go.RowKit

/-! ### Two relations between worlds -/
/-- w' is w with more blocks; nothing old has turned. -/
def Ext (w w' : World) : Prop := Below w.heap.size w w'
theorem Ext.refl (w : World) : Ext w w := Below.refl _ _
theorem Ext.trans {a b c : World} (h : Ext a b) (k : Ext b c) : Ext a c := Below.trans h (Below.mono k h.size)
theorem Ext.alloc {a w : World} (h : Ext a w) (o : Obj) : Ext a (w.alloc o) := Below.alloc h h.size o
theorem Ext.drew {a w : World} (h : Ext a w) : Ext a w.drew := Below.drew h
theorem Ext.drewN {a w : World} (h : Ext a w) : ∀ n, Ext a (w.drewN n)
  | 0 => h
  | n + 1 => by
    have := Ext.drewN h n
    exact ⟨h.os, h.tape, h.output, h.size, h.block⟩
theorem Ext.cell {w w' : World} (h : Ext w w') {p : Addr} (hp : p.block < w.heap.size) : w'.cell? p = w.cell? p := Below.cell h hp
theorem Ext.frozen {w w' : World} (h : Ext w w') {p : Addr} (hp : p.block < w.heap.size) : w'.frozen? p = w.frozen? p := Below.frozen h hp
theorem Ext.setCell {a w : World} (h : Ext a w) {p : Addr} (hp : a.heap.size ≤ p.block) (u : Value) : Ext a (w.setCell p u) := Below.setCell h hp u
theorem Ext.le {w w' : World} (h : Ext w w') : w.heap.size ≤ w'.heap.size := h.size

/-! ### Slices of strings -/
structure Ss (B : Nat) (w : World) (a : Option Addr) (n c : Nat) (ss : List ByteArray) : Prop where
  len : ss.length = n
  cap : n ≤ c
  nil : a = none → n = 0 ∧ c = 0
  cells : 0 < n → ∃ b off, a = some ⟨b, off, none⟩ ∧ b < B ∧ ∀ i, i < n → w.cell? ⟨b, off + i, none⟩ = some (.string (ss.getD i ByteArray.empty))

theorem Ss.below {B B' : Nat} {w w' : World} {a : Option Addr} {n c : Nat} {ss : List ByteArray} (h : Ss B w a n c ss) (e : Below B' w w') (hb : B ≤ B') : Ss B w' a n c ss :=
  ⟨h.len, h.cap, h.nil, fun hn => by
    obtain ⟨b, off, ha, hb1, hc⟩ := h.cells hn
    exact ⟨b, off, ha, hb1, fun i hi => by rw [e.cell (p := ⟨b, off + i, none⟩) (show b < B' by omega)]; exact hc i hi⟩⟩
theorem Ss.mono {B B' : Nat} {w : World} {a : Option Addr} {n c : Nat} {ss : List ByteArray} (h : Ss B w a n c ss) (hb : B ≤ B') : Ss B' w a n c ss :=
  ⟨h.len, h.cap, h.nil, fun hn => by
    obtain ⟨b, off, ha, hb1, hc⟩ := h.cells hn
    exact ⟨b, off, ha, by omega, hc⟩⟩

/-- A slice of ints. -/
structure Is (B : Nat) (w : World) (a : Option Addr) (n c : Nat) (zs : List Int) : Prop where
  len : zs.length = n
  cap : n ≤ c
  nil : a = none → n = 0 ∧ c = 0
  cells : 0 < n → ∃ b off, a = some ⟨b, off, none⟩ ∧ b < B ∧ ∀ i, i < n → w.cell? ⟨b, off + i, none⟩ = some (.int .i64 (zs.getD i 0))
theorem Is.below {B B' : Nat} {w w' : World} {a : Option Addr} {n c : Nat} {zs : List Int} (h : Is B w a n c zs) (e : Below B' w w') (hb : B ≤ B') : Is B w' a n c zs :=
  ⟨h.len, h.cap, h.nil, fun hn => by
    obtain ⟨b, off, ha, hb1, hc⟩ := h.cells hn
    exact ⟨b, off, ha, hb1, fun i hi => by rw [e.cell (p := ⟨b, off + i, none⟩) (show b < B' by omega)]; exact hc i hi⟩⟩

/-! ### Rows by their cells -/
theorem rowIs_below {w w' : World} {b B : Nat} {t : TypeId} {n : Nat} {f : Nat → Value} (h : w.rowIs b t n f) (e : Below B w w') (hb : b < B) : w'.rowIs b t n f := h.of_block (e.block b hb)
theorem rowIs_ext {w w' : World} {b : Nat} {t : TypeId} {n : Nat} {f : Nat → Value} (h : w.rowIs b t n f) (e : Ext w w') : w'.rowIs b t n f := h.of_block (e.block b h.lt)
theorem rowIs_range {w : World} {b : Nat} {t : TypeId} {n : Nat} {f : Nat → Value} (h : w.rowIs b t n f) (o m : Nat) (hm : o + m ≤ n) : w.rangeAt b o ((List.range m).map (fun i => f (o + i))) := by
  intro j v hv
  obtain ⟨hj, rfl⟩ := List.getElem?_eq_some_iff.1 hv
  simp at hj
  simp [h.cell (i := o + j) (by omega)]

/-! ### Maps whose keys are strings -/
theorem beq_bytes {a b : ByteArray} (h : (a == b) = true) : a = b := by
  obtain ⟨x⟩ := a
  obtain ⟨y⟩ := b
  have h' : (x == y) = true := h
  rw [eq_of_beq h']
theorem beq_self (a : ByteArray) : (a == a) = true := by
  obtain ⟨x⟩ := a
  show (x == x) = true
  simp
def valOf : List MapEntry → ByteArray → Option Value
  | [], _ => none
  | e :: es, k => match e.key with
    | .string s => if (k == s) = true then some e.val else valOf es k
    | _ => valOf es k
def KeysStr (es : List MapEntry) : Prop := ∀ e ∈ es, ∃ s, e.key = .string s

theorem findNow_str : ∀ (es : List MapEntry) (k : ByteArray) (i : Nat), KeysStr es →
    (Instr.findNow .string (.string k) es i = some none ∧ valOf es k = none) ∨
    ∃ j v s, Instr.findNow .string (.string k) es i = some (some (i + j, v)) ∧ valOf es k = some v ∧ (es[j]?).map (·.key) = some (.string s) ∧ (k == s) = true ∧
      ∀ u k', valOf (es.modify j (fun e => { e with key := .string k, val := u })) k' = if (k' == k) = true then some u else valOf es k'
  | [], k, i, _ => .inl ⟨rfl, rfl⟩
  | e :: es, k, i, h => by
    obtain ⟨s, hs⟩ := h e (by simp)
    have ih := findNow_str es k (i + 1) (fun x hx => h x (by simp [hx]))
    by_cases hk : (k == s) = true
    · refine .inr ⟨0, e.val, s, ?_, ?_, ?_, hk, ?_⟩
      · simp [Instr.findNow, hs, Instr.sameNow, hk]
      · simp [valOf, hs, hk]
      · simp [hs]
      · intro u k'
        have e1 : k = s := beq_bytes hk
        subst e1
        simp only [List.modify_zero_cons, valOf, hs]
        split
        · rfl
        · rfl
    · have hk' : (k == s) = false := by simpa using hk
      rcases ih with ⟨h1, h2⟩ | ⟨j, v, t, h1, h2, h3, h4, h5⟩
      · refine .inl ⟨?_, ?_⟩
        · simp only [Instr.findNow, hs, Instr.sameNow, hk', h1]
        · simp only [valOf, hs, hk', h2]; rfl
      · refine .inr ⟨j + 1, v, t, ?_, ?_, ?_, h4, ?_⟩
        · simp only [Instr.findNow, hs, Instr.sameNow, hk', h1]
          congr 3
          omega
        · simp only [valOf, hs, hk', h2]; rfl
        · simpa using h3
        · intro u k'
          simp only [List.modify_succ_cons, valOf, hs, h5]
          by_cases h6 : (k' == s) = true
          · have e1 : k' = s := beq_bytes h6
            subst e1
            have h7 : (k' == k) = false := by
              cases hq : (k' == k) with
              | false => rfl
              | true =>
                have e2 : k' = k := beq_bytes hq
                subst e2
                exact absurd (beq_self _) hk
            simp [h7]
          · simp [h6]

theorem valOf_push (es : List MapEntry) (k : ByteArray) (v : Value) (c : Nat) (hn : valOf es k = none) (h : KeysStr es) (k' : ByteArray) :
    valOf (es ++ [{ key := .string k, val := v, born := c }]) k' = if (k' == k) = true then some v else valOf es k' := by
  induction es with
  | nil => simp [valOf]
  | cons e es ih =>
    obtain ⟨s, hs⟩ := h e (by simp)
    simp only [valOf, hs] at hn
    by_cases hk : (k == s) = true
    · simp [hk] at hn
    · have hk' : (k == s) = false := by simpa using hk
      simp only [hk'] at hn
      have ih' := ih (by simpa using hn) (fun x hx => h x (by simp [hx]))
      simp only [List.cons_append, valOf, hs, ih']
      by_cases h6 : (k' == s) = true
      · have e1 : k' = s := beq_bytes h6
        subst e1
        have h7 : (k' == k) = false := by
          cases hq : (k' == k) with
          | false => rfl
          | true =>
            have e2 : k' = k := beq_bytes hq
            subst e2
            exact absurd (beq_self _) hk
        simp [h7]
      · simp [h6]

/-- Block b is a map that holds M. -/
def SMap (w : World) (b : Nat) (M : ByteArray → Option Value) : Prop := ∃ es clock, w.heap[b]? = some (.map es clock) ∧ KeysStr es.toList ∧ ∀ k, valOf es.toList k = M k
theorem SMap.lt {w : World} {b : Nat} {M : ByteArray → Option Value} (h : SMap w b M) : b < w.heap.size := by
  obtain ⟨es, cl, h1, _⟩ := h
  exact (Array.getElem?_eq_some_iff.1 h1).1
theorem SMap.of_block {w w' : World} {b : Nat} {M : ByteArray → Option Value} (h : SMap w b M) (e : w'.heap[b]? = w.heap[b]?) : SMap w' b M := by
  obtain ⟨es, cl, h1, h2⟩ := h
  exact ⟨es, cl, e.trans h1, h2⟩
theorem SMap.made (w : World) : SMap (w.alloc (.map #[] 0)) w.heap.size (fun _ => none) := by
  refine ⟨#[], 0, ?_, fun e he => by simp at he, fun k => rfl⟩
  show (w.heap.push _)[w.heap.size]? = _
  simp

theorem run_checkKey_str {P : Program} {w : World} {K : TypeId} (hK : P.underlying K = some .string) (em : Bool) (n : Nat) (k : ByteArray) : (Instr.checkKey em (n + 1) K (.string k)).run P w = .ok () w := by
  simp [Instr.checkKey, run_underlying hK]

theorem run_lookup_str {P : Program} {w : World} {b : Nat} {M : ByteArray → Option Value} (h : SMap w b M) (T K E : TypeId) (z : Value) (k : ByteArray) (hT : P.underlying T = some (.map K E)) (hK : P.underlying K = some .string) (hz : ∀ w, (zeroValue E).run P w = .ok z w) :
    (Instr.lookup T (.map (some b)) (.string k) false).run P w = .ok ((M k).getD z) w := by
  obtain ⟨es, cl, h1, h2, h3⟩ := h
  rw [← h3]
  have hg : (getObj b).run P w = .ok (.map es cl) w := by simp [getObj, Sem.run, h1]
  have hc : ∀ em, (Instr.checkKey em 10000 K (.string k)).run P w = .ok () w := fun em => run_checkKey_str hK em 9999 k
  rcases findNow_str es.toList k 0 h2 with ⟨h4, h5⟩ | ⟨j, v, s, h4, h5, _⟩
  · simp [Instr.lookup, run_underlying hT, hg, hc, Instr.findKey, run_underlying hK, h4, h5, hz]
  · simp [Instr.lookup, run_underlying hT, hg, hc, Instr.findKey, run_underlying hK, h4, h5]

/-- w' is w but for block b. -/
def Turned (b : Nat) (w w' : World) : Prop := Below 0 w w' ∧ w'.heap.size = w.heap.size ∧ ∀ k, k ≠ b → w'.heap[k]? = w.heap[k]?
theorem Turned.below {b B : Nat} {w w' : World} (h : Turned b w w') (hb : B ≤ b) : Below B w w' :=
  ⟨h.1.os, h.1.tape, h.1.output, h.1.size, fun k hk => h.2.2 k (by omega)⟩

theorem run_update_str {P : Program} {w : World} {b : Nat} {M : ByteArray → Option Value} (h : SMap w b M) (T K E : TypeId) (k : ByteArray) (v : Value) (hT : P.underlying T = some (.map K E)) (hK : P.underlying K = some .string) :
    ∃ w', (Instr.mapUpdate T (.map (some b)) (.string k) v).run P w = .ok () w' ∧ SMap w' b (fun k' => if (k' == k) = true then some v else M k') ∧ Turned b w w' := by
  have hlt := h.lt
  obtain ⟨es, cl, h1, h2, h3⟩ := h
  have hg : (getObj b).run P w = .ok (.map es cl) w := by simp [getObj, Sem.run, h1]
  have hc : ∀ em, (Instr.checkKey em 10000 K (.string k)).run P w = .ok () w := fun em => run_checkKey_str hK em 9999 k
  have hset : ∀ o, (setObj b o).run P w = .ok () { w with heap := w.heap.setIfInBounds b o } := fun o => by simp [setObj, Sem.run, h1]
  have hturn : ∀ o, Turned b w { w with heap := w.heap.setIfInBounds b o } := fun o =>
    ⟨⟨rfl, rfl, rfl, by simp, fun k hk => absurd hk (by omega)⟩, by simp, fun k hk => by
      show (w.heap.setIfInBounds b o)[k]? = w.heap[k]?
      rw [Array.getElem?_setIfInBounds]
      simp [Ne.symm hk]⟩
  have hnew : ∀ o : Obj, ({ w with heap := w.heap.setIfInBounds b o } : World).heap[b]? = some o := fun o => by
    show (w.heap.setIfInBounds b o)[b]? = some o
    rw [Array.getElem?_setIfInBounds]
    simp [hlt]
  rcases findNow_str es.toList k 0 h2 with ⟨h4, h5⟩ | ⟨j, x, s, h4, h5, h6, h7, h8⟩
  · refine ⟨_, ?_, ⟨es.push { key := .string k, val := v, born := cl }, cl + 1, hnew _, ?_, ?_⟩, hturn _⟩
    · simp [Instr.mapUpdate, run_underlying hT, hg, hc, Instr.findKey, run_underlying hK, h4, hset]
    · intro e he
      simp at he
      rcases he with he | rfl
      · exact h2 e (by simpa using he)
      · exact ⟨k, rfl⟩
    · intro k'
      rw [Array.toList_push, valOf_push _ _ _ _ h5 h2, h3]
  · refine ⟨_, ?_, ⟨es.modify j (fun e => { e with key := .string k, val := v }), cl, hnew _, ?_, ?_⟩, hturn _⟩
    · have h9 : (es[j]?).map (·.key) = some (.string s) := by simpa using h6
      have e1 : k = s := beq_bytes h7
      subst e1
      have h10 : Instr.sameBits 10000 (.string k) (.string k) = true := by
        show Instr.sameBits (9999 + 1) (.string k) (.string k) = true
        simp [Instr.sameBits, beq_self]
      simp [Instr.mapUpdate, run_underlying hT, hg, hc, Instr.findKey, run_underlying hK, h4, h9, Instr.keyThatStays, h10, hset]
    · intro e he
      rw [Array.toList_modify] at he
      obtain ⟨n, hn⟩ := List.getElem?_of_mem he
      rw [List.getElem?_modify] at hn
      cases hq : es.toList[n]? with
      | none => simp [hq] at hn
      | some e0 =>
        have h11 := h2 e0 (List.mem_of_getElem? hq)
        simp only [hq] at hn
        by_cases hjn : j = n
        · simp [hjn] at hn
          exact ⟨k, by rw [← hn]⟩
        · simp [hjn] at hn
          rw [← hn]
          exact h11
    · intro k'
      rw [Array.toList_modify, h8, h3]

/-! ### Whole arrays -/
theorem run_forIn_keep {P : Program} {β : Type} (f : Nat → β → Sem (ForInStep β)) (b : β) : ∀ (l : List Nat) (w : World), (∀ i ∈ l, ∀ w, (f i b).run P w = .ok (.yield b) w) → (forIn l b f).run P w = .ok b w
  | [], w, _ => rfl
  | i :: l, w, h => by
    have ih := run_forIn_keep f b l w (fun j hj => h j (by simp [hj]))
    simp only [List.forIn_cons, Sem.run_bind, h i (by simp), Result.andThen_ok]
    exact ih
/-- An array of numbers is like itself. -/
theorem run_neq_array_self {P : Program} (w : World) (t e : TypeId) (n : Nat) (k k' : IntKind) (xs : Array Value) (ht : P.underlying t = some (.array n e)) (he : P.underlying e = some (.int k')) (hsz : (P.info? e).map (·.size) = some 1) (hag : ∀ w, (isAgg e).run P w = .ok false w)
    (hxs : ∀ i, i < n → ∃ z, xs[i]? = some (.int k z)) : (binOp .neq t (.agg xs) (.agg xs)).run P w = .ok (.bool false) w := by
  have hs : ∀ w, (sizeOf e).run P w = .ok 1 w := fun w => by
    cases hq : P.info? e with
    | none => simp [hq] at hsz
    | some i => simp [hq] at hsz; simp [sizeOf, typeInfo, hq, hsz]
  have hp : ∀ i, i < n → ∃ z, ∀ w, (part e xs (i * 1)).run P w = .ok (.int k z) w := fun i hi => by
    obtain ⟨z, hz⟩ := hxs i hi
    refine ⟨z, fun w => ?_⟩
    simp [part, hag, hz]
  show (binOp .neq t (.agg xs) (.agg xs)).run P w = _
  simp only [binOp]
  have h10 : (Op.equalIn (9999 + 1) t (.agg xs) (.agg xs)).run P w = .ok true w := by
    unfold Op.equalIn
    simp only [Sem.run_bind, run_underlying ht, Result.andThen_ok, hs]
    rw [Std.Legacy.Range.forIn_eq_forIn_range', run_forIn_keep]
    · rfl
    · intro i hi w
      have hi' : i < n := by simpa using hi
      obtain ⟨z, hz⟩ := hp i hi'
      have hq : ∀ w, (Op.equalIn (9998 + 1) e (.int k z) (.int k z)).run P w = .ok true w := fun w => by
        rw [run_equalIn_int (w := w) 9998 e k k' z z he]; simp
      simp only [Sem.run_bind, hz, Result.andThen_ok, hq]
      rfl
  simp [Op.equal, Op.maxDepth, h10]

end Go.Proofs.Qxb6608555a
