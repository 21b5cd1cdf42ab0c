/-
  A view's setOwner: the first call gives the view a table of its own; the others edit it.
-/
import Derived.Test.Qxb6608555aWalksE
import Derived.Test.Qxb6608555aWalksG
namespace Go.Proofs.Qxb6608555a
open Go.RowKit
set_option maxRecDepth 100000

/-- A pointer to a node, and its ID; nil, and "". -/
def NodeIs (w : World) (hi : Nat) (np : Option Addr) (x : ByteArray) : Prop :=
  (np = none ∧ x = ByteArray.empty) ∨ ∃ nb, np = some ⟨nb, 0, none⟩ ∧ nb < hi ∧ w.cell? ⟨nb, 0, none⟩ = some (.string x)
/-- w' is w with more blocks; of the old ones only block b may have turned. -/
def But (b : Nat) (w w' : World) : Prop := Below 0 w w' ∧ ∀ k, k < w.heap.size → k ≠ b → w'.heap[k]? = w.heap[k]?

theorem set_res {os : Nat → Nat} {ss ss' : List ByteArray} {sl p : Nat} {x : ByteArray} (h1 : ss'.getD p ByteArray.empty = x) (h2 : ∀ k, k < ss.length → ss'.getD k ByteArray.empty = ss.getD k ByteArray.empty) (hf : ∀ s, s < 16384 → os s < ss.length) :
    ∀ s, s < 16384 → ss'.getD (if s = sl then p else os s) ByteArray.empty = if s = sl then x else ss.getD (os s) ByteArray.empty := fun s hs => by
  by_cases h : s = sl
  · simp only [h, if_true, h1]
  · simp only [if_neg h]
    exact h2 _ (hf s hs)

set_option maxHeartbeats 1000000 in
theorem setOwner_next (vb mb fb sl lo : Nat) (os : Nat → Nat) (ss : List ByteArray) (np : Option Addr) (x : ByteArray) (w : World) (hv : Vw w vb mb fb true) (ht : TabO w lo fb os ss) (hvb : vb < lo) (hlo : lo ≤ w.heap.size) (hn : ss.length ≤ 60000) (hsl : sl < 16384) (hnp : NodeIs w lo np x) :
    Calls Try.prog 27 #[.pointer (some ⟨vb, 0, none⟩), .int .i64 sl, .pointer np] w fun e w' => e = .returned (.tuple #[]) ∧ ∃ os' ss', Vw w' vb mb fb true ∧ TabO w' lo fb os' ss' ∧ (∀ s, s < 16384 → ss'.getD (os' s) ByteArray.empty = if s = sl then x else ss.getD (os s) ByteArray.empty) ∧ ss'.length ≤ ss.length + 1 ∧ Below lo w w' := by
  have HV : Hid (Vw w vb mb fb true) := hv
  obtain ⟨F, v0, v1, v2, v3⟩ := hv
  have c2 := v0.cell (i := 2) (by omega)
  have c3 := v0.cell (i := 3) (by omega)
  rw [v2] at c2
  rw [v3] at c3
  clear v0 v1 v2 v3
  have HT : Hid (TabO w lo fb os ss) := ht
  clear ht
  rcases hnp with ⟨rfl, rfl⟩ | ⟨nb, rfl, hnb, hc⟩
  · go_enter Try.func27, Try.ntmps27
    go_wp2_with (go_at_call 25; refine (set_any lo fb sl os ss _ _ HT.out hlo hsl hn).mono ?_; rintro e w1 ⟨rfl, p, ss', t1, t2, t3, t4, t5⟩)
    refine Great.bodyPost_end0 Try.results27 rfl ?_
    exact ⟨rfl, _, ss', HV.out.of_block (t5.block vb hvb), t1, set_res t2 t3 HT.out.fits, t4, t5⟩
  · go_enter Try.func27, Try.ntmps27
    go_wp2_with (go_at_call 25; refine (set_any lo fb sl os ss _ _ HT.out hlo hsl hn).mono ?_; rintro e w1 ⟨rfl, p, ss', t1, t2, t3, t4, t5⟩)
    refine Great.bodyPost_end0 Try.results27 rfl ?_
    exact ⟨rfl, _, ss', HV.out.of_block (t5.block vb hvb), t1, set_res t2 t3 HT.out.fits, t4, t5⟩

set_option maxHeartbeats 1000000 in
theorem setOwner_first {B : Nat} (vb mb tb sl : Nat) (os : Nat → Nat) (a : Option Addr) (n c : Nat) (ss : List ByteArray) (np : Option Addr) (x : ByteArray) (w : World) (hv : Vw w vb mb tb false) (ht : Tb w tb os a n c) (h : Ss B w a n c ss) (hB : B ≤ w.heap.size) (hn : n ≤ 65536)
    (h0 : ss.getD 0 ByteArray.empty = ByteArray.empty) (hos : ∀ s, s < 16384 → os s < n) (hob : ∀ s, s < 16384 → os s ≤ 65535) (hsl : sl < 16384) (hnp : NodeIs w vb np x) :
    Calls Try.prog 27 #[.pointer (some ⟨vb, 0, none⟩), .int .i64 sl, .pointer np] w fun e w' => e = .returned (.tuple #[]) ∧ ∃ cb os' cs, Vw w' vb mb cb true ∧ TabO w' w.heap.size cb os' cs ∧ (∀ s, s < 16384 → cs.getD (os' s) ByteArray.empty = if s = sl then x else ss.getD (os s) ByteArray.empty) ∧ cs.length ≤ 16386 ∧ But vb w w' := by
  have hvl := hv.lt
  obtain ⟨F, v0, v1, v2, v3⟩ := hv
  have c2 := v0.cell (i := 2) (by omega)
  have c3 := v0.cell (i := 3) (by omega)
  rw [v2] at c2
  rw [v3] at c3
  have HV0 : Hid (w.rowIs vb 62 8 F) := v0
  have HV1 : Hid (F 1 = .map (some mb)) := v1
  clear v0 v1 v2 v3
  have HT : Hid (Tb w tb os a n c) := ht
  have HS : Hid (Ss B w a n c ss) := h
  have HH : Hid (ss.getD 0 ByteArray.empty = ByteArray.empty ∧ (∀ s, s < 16384 → os s < n) ∧ (∀ s, s < 16384 → os s ≤ 65535)) := ⟨h0, hos, hob⟩
  clear ht h h0 hos hob
  have fin : ∀ (w1 w3 : World) (cb : Nat) (os1 os' : Nat → Nat) (cs1 cs' : List ByteArray), Ext w w1 → TabO w1 w.heap.size cb os1 cs1 → Below w.heap.size ((w1.setCell ⟨vb, 2, none⟩ (.pointer (some ⟨cb, 0, none⟩))).setCell ⟨vb, 3, none⟩ (.bool true)) w3 → Vw w3 vb mb cb true ∧ But vb w w3 := by
    intro w1 w3 cb os1 os' cs1 cs' x1 t1 t5
    have hrow := ((rowIs_ext HV0.out x1).set 2 (.pointer (some ⟨cb, 0, none⟩))).set 3 (.bool true)
    refine ⟨⟨_, rowIs_below hrow t5 hvl, ?_, ?_, ?_⟩, ⟨t5.os.trans x1.os, t5.tape.trans x1.tape, t5.output.trans x1.output, Nat.le_trans x1.size (by simpa using t5.size), fun k hk => absurd hk (by omega)⟩, fun k hk hkv => ?_⟩
    · simp [HV1.out]
    · simp
    · simp
    · rw [t5.block k hk, Below.heap_setCell _ _ _ _ hkv, Below.heap_setCell _ _ _ _ hkv, x1.block k hk]
  have HFIN : Hid (∀ (w1 w3 : World) (cb : Nat) (os1 os' : Nat → Nat) (cs1 cs' : List ByteArray), Ext w w1 → TabO w1 w.heap.size cb os1 cs1 → Below w.heap.size ((w1.setCell ⟨vb, 2, none⟩ (.pointer (some ⟨cb, 0, none⟩))).setCell ⟨vb, 3, none⟩ (.bool true)) w3 → Vw w3 vb mb cb true ∧ But vb w w3) := fin
  clear fin
  have HTAB : Hid (∀ (w1 : World) (cb : Nat) (os1 : Nat → Nat) (cs1 : List ByteArray), Ext w w1 → TabO w1 w.heap.size cb os1 cs1 → TabO ((w1.setCell ⟨vb, 2, none⟩ (.pointer (some ⟨cb, 0, none⟩))).setCell ⟨vb, 3, none⟩ (.bool true)) w.heap.size cb os1 cs1) := by
    intro w1 cb os1 cs1 x1 t1
    have hne : cb ≠ vb := by have := t1.low; omega
    have hr1 := rowIs_ext HV0.out x1
    exact (t1.other hr1 (by decide) hne 2 _).other (hr1.set 2 _) (by decide) hne 3 _
  rcases hnp with ⟨rfl, rfl⟩ | ⟨nb, rfl, hnb, hc⟩
  · go_enter Try.func27, Try.ntmps27
    go_wp2_with (first
      | (go_at_call 26; refine (copy_any tb os a n c ss _ HT.out HS.out hB hn HH.out.1 HH.out.2.1 HH.out.2.2).mono ?_; rintro e w1 ⟨cb, os1, cs1, rfl, k1, k2, k3, x1⟩; have d2 := (rowIs_ext HV0.out x1).cell (i := 2) (by omega); have e2 := (rowIs_ext HV0.out x1).frozen 2; have d3 := (rowIs_ext HV0.out x1).cell (i := 3) (by omega); have e3 := (rowIs_ext HV0.out x1).frozen 3; have K1 : Hid (TabO w1 w.heap.size cb os1 cs1) := k1; have K2 : Hid (∀ s, s < 16384 → cs1.getD (os1 s) ByteArray.empty = ss.getD (os s) ByteArray.empty) := k2; clear k1 k2)
      | (go_at_call 25; refine (set_any w.heap.size cb sl os1 cs1 _ _ (HTAB.out _ _ _ _ x1 K1.out) (by simpa using x1.le) hsl (by omega)).mono ?_; rintro e w3 ⟨rfl, p, ss', t1, t2, t3, t4, t5⟩))
    refine Great.bodyPost_end0 Try.results27 rfl ?_
    obtain ⟨f1, f2⟩ := HFIN.out _ w3 cb os1 os1 cs1 cs1 x1 K1.out t5
    refine ⟨rfl, cb, _, ss', f1, t1, fun s hs => ?_, by omega, f2⟩
    have := set_res (sl := sl) t2 t3 K1.out.fits s hs
    rw [K2.out s hs] at this
    exact this
  · have HC : Hid (∀ (w1 : World) (cb : Nat), Ext w w1 → ((w1.setCell ⟨vb, 2, none⟩ (.pointer (some ⟨cb, 0, none⟩))).setCell ⟨vb, 3, none⟩ (.bool true)).cell? ⟨nb, 0, none⟩ = some (.string x)) := by
      intro w1 cb x1
      rw [World.cell?_of_block (Below.heap_setCell _ _ _ _ (show nb ≠ vb by omega)), World.cell?_of_block (Below.heap_setCell _ _ _ _ (show nb ≠ vb by omega)), x1.cell (p := ⟨nb, 0, none⟩) (show nb < w.heap.size by omega)]
      exact hc
    go_enter Try.func27, Try.ntmps27
    go_wp2_with (first
      | (go_at_call 26; refine (copy_any tb os a n c ss _ HT.out HS.out hB hn HH.out.1 HH.out.2.1 HH.out.2.2).mono ?_; rintro e w1 ⟨cb, os1, cs1, rfl, k1, k2, k3, x1⟩; have d2 := (rowIs_ext HV0.out x1).cell (i := 2) (by omega); have e2 := (rowIs_ext HV0.out x1).frozen 2; have d3 := (rowIs_ext HV0.out x1).cell (i := 3) (by omega); have e3 := (rowIs_ext HV0.out x1).frozen 3; have dn := HC.out w1 cb x1; have K1 : Hid (TabO w1 w.heap.size cb os1 cs1) := k1; have K2 : Hid (∀ s, s < 16384 → cs1.getD (os1 s) ByteArray.empty = ss.getD (os s) ByteArray.empty) := k2; clear k1 k2)
      | (go_at_call 25; refine (set_any w.heap.size cb sl os1 cs1 _ _ (HTAB.out _ _ _ _ x1 K1.out) (by simpa using x1.le) hsl (by omega)).mono ?_; rintro e w3 ⟨rfl, p, ss', t1, t2, t3, t4, t5⟩))
    refine Great.bodyPost_end0 Try.results27 rfl ?_
    obtain ⟨f1, f2⟩ := HFIN.out _ w3 cb os1 os1 cs1 cs1 x1 K1.out t5
    refine ⟨rfl, cb, _, ss', f1, t1, fun s hs => ?_, by omega, f2⟩
    have := set_res (sl := sl) t2 t3 K1.out.fits s hs
    rw [K2.out s hs] at this
    exact this

end Go.Proofs.Qxb6608555a
