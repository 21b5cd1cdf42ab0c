/-
  The comparisons: intsConcat, compSame, rvSame, rvsConcat.
-/
import Derived.Test.Qxb6606015aWalksA
import Derived.Test.Qxb6606015aParts2
namespace Go.Proofs.Qxb6606015a
open Go.RowKit

theorem nil_test (a : Option Addr) (n : Nat) (h : a = none ↔ n = 0) : (!a.isNone == ((n : Int) == 0)) = false := by
  cases a with
  | none => have := h.1 rfl; subst this; rfl
  | some x =>
    have h0 : ¬ n = 0 := fun h0 => by have := h.2 h0; cases this
    have : ((n : Int) == 0) = false := by rw [beq_eq_false_iff_ne]; omega
    rw [this]
    rfl

set_option maxRecDepth 100000 in
set_option maxHeartbeats 1000000 in
theorem intsConcat_any {lo lo1 lo2 : Nat} (a a1 a2 : Option Addr) (n c n1 c1 n2 c2 : Nat) (xs ys : List Int) (w : World)
    (h : Elems IntC 1 lo w a n c (xs ++ ys)) (h1 : Elems IntC 1 lo1 w a1 n1 c1 xs) (h2 : Elems IntC 1 lo2 w a2 n2 c2 ys) (hnil : a = none ↔ n = 0) (b1 : n1 ≤ 2097152) (b2 : n2 ≤ 2097152) :
    Calls Try.prog 15 #[.slice a n c, .slice a1 n1 c1, .slice a2 n2 c2] w fun e w' => e = .returned (.bool true) ∧ Ext w w' := by
  have hl1 := h1.len
  have hl2 := h2.len
  have hl := h.len
  rw [List.length_append, hl1, hl2] at hl
  have HL : Hid (xs.length = n1) := hl1
  have HN : Hid (n1 + n2 = n) := hl
  have hN1 : n1 + n2 ≤ n := by omega
  have hN2 : n ≤ n1 + n2 := by omega
  have hq := fun (w : World) => Lib.run_eql_slice_nil (P := Try.prog) w 32 3 a n c 0 0 Try.underlying32
  have ht := nil_test a n hnil
  have e0 : ((n : Int) != (n1 : Int) + (n2 : Int)) = false := by rw [bne_eq_false_iff_eq]; omega
  clear hnil hl1 hl2 hl
  go_enter Try.func15, Try.ntmps15
  go_wp2
  go_loopw [7] (fun i wr => ∃ k : Nat, k ≤ n1 ∧ i = .int .i64 k ∧ Ext w wr) (fun i _ => n1 - (intOf i).toNat)
  case atStart => exact ⟨0, Nat.zero_le _, rfl, Ext.refl _⟩
  case round =>
    obtain ⟨k, hk, rfl, hx⟩ := hrel
    by_cases hlt : k < n1
    · obtain ⟨b, off, f, d, rfl, hbl, hd, hE, hc⟩ := (h.ext grows_int hx).elem k (by omega)
      obtain ⟨b', off', f', d', rfl, hbl', hd', hE', hc'⟩ := (h1.ext grows_int hx).elem k hlt
      rw [List.getElem?_append_left (by rw [HL.out]; exact hlt), hd'] at hd
      cases hd
      have g0 := hc 0 (by omega)
      have g1 := hc' 0 (by omega)
      have e1 : f 0 = .int .i64 d := hE
      have e2 : f' 0 = .int .i64 d := hE'
      rw [e1] at g0
      rw [e2] at g1
      simp only [Nat.add_zero, Nat.mul_one] at g0 g1
      have i1 : (k : Int) < (n1 : Int) := by omega
      have i2 : (k : Int) < (n : Int) := by omega
      clear hc hc' e1 e2 hE hE' hd' h h1 h2
      go_wp2
      go_quiet (fail)
      go_wp2
      go_roundw
      case rel => exact ⟨k + 1, by omega, by go_num, hx.drewN _⟩
      case measure => simp [intOf]; omega
    · go_wp2
      clear hlt hk
      go_loopw [8] (fun i wr => ∃ k : Nat, k ≤ n2 ∧ i = .int .i64 k ∧ Ext w wr) (fun i _ => n2 - (intOf i).toNat)
      case atStart => exact ⟨0, Nat.zero_le _, rfl, hx⟩
      case round =>
        clear hx
        obtain ⟨j, hj, rfl, hx⟩ := hrel
        by_cases hlt : j < n2
        · obtain ⟨b, off, f, d, rfl, hbl, hd, hE, hc⟩ := (h.ext grows_int hx).elem (n1 + j) (by omega)
          obtain ⟨b', off', f', d', rfl, hbl', hd', hE', hc'⟩ := (h2.ext grows_int hx).elem j hlt
          rw [List.getElem?_append_right (by rw [HL.out]; omega), HL.out, Nat.add_sub_cancel_left, hd'] at hd
          cases hd
          have g0 := hc 0 (by omega)
          have g1 := hc' 0 (by omega)
          have e1 : f 0 = .int .i64 d := hE
          have e2 : f' 0 = .int .i64 d := hE'
          rw [e1] at g0
          rw [e2] at g1
          simp only [Nat.add_zero, Nat.mul_one] at g0 g1
          have i1 : (j : Int) < (n2 : Int) := by omega
          have i2 : (n1 : Int) + (j : Int) < (n : Int) := by omega
          have i3 : (0 : Int) ≤ (n1 : Int) + (j : Int) := by omega
          have i4 : ((n1 : Int) + (j : Int)).toNat = n1 + j := by omega
          have i5 : IntKind.i64.wrap ((n1 : Int) + (j : Int)) = (n1 : Int) + (j : Int) := by rw [IntKind.wrap_i64]; omega
          clear hc hc' e1 e2 hE hE' hd' h h1 h2
          go_wp2
          go_quiet (fail)
          go_wp2
          go_roundw
          case rel => exact ⟨j + 1, by omega, by go_num, hx.drewN _⟩
          case measure => simp [intOf]; omega
        · go_wp2
          go_ret
          exact ⟨rfl, hx⟩
set_option maxRecDepth 100000 in
set_option maxHeartbeats 1000000 in
theorem compSame_any {lo lo' : Nat} (p q p' q' a a' : Option Addr) (n c c' : Nat) (os os' : Option ByteArray) (bs : List Int) (w : World)
    (h0 : Sp lo w p os) (h1 : Sp lo w q os') (h2 : Bs lo w a n c bs) (k0 : Sp lo' w p' os) (k1 : Sp lo' w q' os') (k2 : Bs lo' w a' n c' bs) :
    Calls Try.prog 32 #[.agg #[.pointer p, .pointer q, .slice a n c], .agg #[.pointer p', .pointer q', .slice a' n c']] w fun e w' => e = .returned (.bool true) ∧ Ext w w' := by
  have hxx : Ext w ((w.alloc (.cells #[.pointer p, .pointer q, .slice a n c] 56)).alloc (.cells #[.pointer p', .pointer q', .slice a' n c'] 56)) := ((Ext.refl _).alloc _).alloc _
  have HK : Hid (∀ w', Ext ((w.alloc (.cells #[.pointer p, .pointer q, .slice a n c] 56)).alloc (.cells #[.pointer p', .pointer q', .slice a' n c'] 56)) w' → w'.cell? ⟨w.heap.size, 1, none⟩ = some (.pointer q) ∧ w'.cell? ⟨w.heap.size + 1, 1, none⟩ = some (.pointer q') ∧ w'.cell? ⟨w.heap.size, 2, none⟩ = some (.slice a n c) ∧ w'.cell? ⟨w.heap.size + 1, 2, none⟩ = some (.slice a' n c')) := by
    intro w' hx
    refine ⟨?_, ?_, ?_, ?_⟩
    · rw [hx.cell (by simp <;> omega)]; simp
    · rw [hx.cell (by simp <;> omega)]; simp
    · rw [hx.cell (by simp <;> omega)]; simp
    · rw [hx.cell (by simp <;> omega)]; simp
  go_enter Try.func32, Try.ntmps32
  go_wp2_with (first
    | (go_at_call_of 38 (Value.pointer p); refine (strPtrEq_same _ _ _ _ (h0.ext hxx) (k0.ext hxx)).mono ?_; rintro e w1 ⟨rfl, x1⟩; obtain ⟨g1, g2, g3, g4⟩ := HK.out _ x1)
    | (go_at_call_of 38 (Value.pointer q); refine (strPtrEq_same _ _ _ _ (h1.ext (hxx.trans x1)) (k1.ext (hxx.trans x1))).mono ?_; rintro e w2 ⟨rfl, x2⟩; obtain ⟨g5, g6, g7, g8⟩ := HK.out _ (x1.trans x2))
    | (go_at_call 18; refine (bytesEq_same _ _ _ _ _ _ _ (h2.ext ((hxx.trans x1).trans x2)) (k2.ext ((hxx.trans x1).trans x2))).mono ?_; rintro e w3 ⟨rfl, x3⟩))
  go_ret
  exact ⟨rfl, ((hxx.trans x1).trans x2).trans x3⟩

set_option maxRecDepth 100000 in
set_option maxHeartbeats 1000000 in
theorem rvSame_any {lo lo' : Nat} (a p q s g a' p' q' s' g' : Option Addr) (n c ns cs ng cg c' cs' cg' : Nat) (os os' : Option ByteArray) (bs sg : List Int) (dg : List (List Int)) (w : World)
    (h0 : Bs lo w a n c bs) (h1 : Sp lo w p os) (h2 : Sp lo w q os') (h3 : Bs lo w s ns cs sg) (h4 : Elems DigC 1 lo w g ng cg dg)
    (k0 : Bs lo' w a' n c' bs) (k1 : Sp lo' w p' os) (k2 : Sp lo' w q' os') (k3 : Bs lo' w s' ns cs' sg) (k4 : Elems DigC 1 lo' w g' ng cg' dg) :
    Calls Try.prog 20 #[.agg #[.slice a n c, .pointer p, .pointer q, .slice s ns cs, .slice g ng cg], .agg #[.slice a' n c', .pointer p', .pointer q', .slice s' ns cs', .slice g' ng cg']] w fun e w' => e = .returned (.bool true) ∧ Ext w w' := by
  have hb := h4.bound
  have e0 : ((ng : Int) != (ng : Int)) = false := by simp
  obtain ⟨W, hW⟩ : ∃ W, W = (w.alloc (.cells #[.slice a n c, .pointer p, .pointer q, .slice s ns cs, .slice g ng cg] 58)).alloc (.cells #[.slice a' n c', .pointer p', .pointer q', .slice s' ns cs', .slice g' ng cg'] 58) := ⟨_, rfl⟩
  have hxx : Ext w W := by rw [hW]; exact ((Ext.refl _).alloc _).alloc _
  have HK : Hid (∀ w', Ext W w' → (w'.cell? ⟨w.heap.size, 1, none⟩ = some (.pointer p) ∧ w'.cell? ⟨w.heap.size, 2, none⟩ = some (.pointer q) ∧ w'.cell? ⟨w.heap.size, 3, none⟩ = some (.slice s ns cs) ∧ w'.cell? ⟨w.heap.size, 4, none⟩ = some (.slice g ng cg)) ∧
      (w'.cell? ⟨w.heap.size + 1, 1, none⟩ = some (.pointer p') ∧ w'.cell? ⟨w.heap.size + 1, 2, none⟩ = some (.pointer q') ∧ w'.cell? ⟨w.heap.size + 1, 3, none⟩ = some (.slice s' ns cs') ∧ w'.cell? ⟨w.heap.size + 1, 4, none⟩ = some (.slice g' ng cg'))) := by
    intro w' hx
    have hs : w.heap.size + 2 ≤ W.heap.size := by rw [hW]; simp
    refine ⟨⟨?_, ?_, ?_, ?_⟩, ?_, ?_, ?_, ?_⟩ <;> (rw [hx.cell (by simp; omega), hW]; simp)
  have HW : Hid (W = _) := hW
  clear hW
  go_enter Try.func20, Try.ntmps20
  go_wp2_with fail
  rw [← HW.out]
  go_wp2_with (first
    | (go_at_call 18; refine (bytesEq_same _ _ _ _ _ _ _ (h0.ext hxx) (k0.ext hxx)).mono ?_; rintro e w1 ⟨rfl, x1⟩; obtain ⟨⟨g1, g2, g3, g4⟩, g5, g6, g7, g8⟩ := HK.out _ x1)
    | (go_at_call 32; refine (compSame_any _ _ _ _ _ _ _ _ _ _ _ _ _ (h1.ext (hxx.trans x1)) (h2.ext (hxx.trans x1)) (h3.ext (hxx.trans x1)) (k1.ext (hxx.trans x1)) (k2.ext (hxx.trans x1)) (k3.ext (hxx.trans x1))).mono ?_; rintro e w2 ⟨rfl, x2⟩; obtain ⟨⟨_, _, _, g9⟩, _, _, _, g10⟩ := HK.out _ (x1.trans x2)))
  have X2 : Ext W w2 := x1.trans x2
  clear g1 g2 g3 g4 g5 g6 g7 g8 g9 g10 x1 x2 h0 h1 h2 h3 k0 k1 k2 k3 HW
  go_loopw [5] (fun i wr => ∃ k : Nat, k ≤ ng ∧ i = .int .i64 k ∧ Ext W wr) (fun i _ => ng - (intOf i).toNat)
  case atStart => exact ⟨0, Nat.zero_le _, rfl, X2⟩
  case round =>
    obtain ⟨k, hk, rfl, hx⟩ := hrel
    obtain ⟨⟨_, _, _, g4⟩, _, _, _, g8⟩ := HK.out _ hx
    by_cases hlt : k < ng
    · obtain ⟨b, off, f, d, rfl, hbl, hd, ⟨a3, n3, c3, e1, s1⟩, hc⟩ := (h4.ext grows_dig (hxx.trans hx)).elem k hlt
      obtain ⟨b', off', f', d', rfl, hbl', hd', ⟨a4, n4, c4, e2, s2⟩, hc'⟩ := (k4.ext grows_dig (hxx.trans hx)).elem k hlt
      rw [hd] at hd'
      cases hd'
      have r0 := hc 0 (by omega)
      have r1 := hc' 0 (by omega)
      rw [e1] at r0
      rw [e2] at r1
      simp only [Nat.add_zero, Nat.mul_one] at r0 r1
      obtain rfl : n3 = n4 := by rw [← s1.len, ← s2.len]
      have i1 : (k : Int) < (ng : Int) := by omega
      have HS : Hid (∀ w', Ext wr w' → w'.cell? ⟨w.heap.size, 4, none⟩ = some (.slice (some ⟨b, off, none⟩) ng cg) ∧ w'.cell? ⟨w.heap.size + 1, 4, none⟩ = some (.slice (some ⟨b', off', none⟩) ng cg') ∧ w'.cell? ⟨b, off + k, none⟩ = some (.slice a3 n3 c3) ∧ w'.cell? ⟨b', off' + k, none⟩ = some (.slice a4 n3 c4)) := by
        intro w' hx'
        obtain ⟨⟨_, _, _, t4⟩, _, _, _, t8⟩ := HK.out _ (hx.trans hx')
        exact ⟨t4, t8, (hx'.cell (by exact hbl.2)).trans r0, (hx'.cell (by exact hbl'.2)).trans r1⟩
      clear hc hc' e1 e2 hd h4 k4
      go_wp2
      go_region_held3 (fun w' => w'.cell? ⟨w.heap.size, 4, none⟩ = some (.slice (some ⟨b, off, none⟩) ng cg) ∧ w'.cell? ⟨w.heap.size + 1, 4, none⟩ = some (.slice (some ⟨b', off', none⟩) ng cg') ∧ w'.cell? ⟨b, off + k, none⟩ = some (.slice a3 n3 c3) ∧ w'.cell? ⟨b', off' + k, none⟩ = some (.slice a4 n3 c4))
        (first | (refine HS.out _ ?_; first | exact (Ext.refl _).drew | assumption) | go_keep)
        (first | (go_at_call 18; refine (bytesEq_same _ _ _ _ _ _ _ (s1.ext (Ext.refl _).drew) (s2.ext (Ext.refl _).drew)).mono ?_; rintro e w3 ⟨rfl, x3⟩; have y3 : Ext wr w3 := (Ext.refl _).drew.trans x3))
      go_wp2
      go_roundw
      case rel => exact ⟨k + 1, by omega, by go_num, hx.trans y3⟩
      case measure => simp [intOf]; omega
    · go_wp2
      go_ret
      exact ⟨rfl, hxx.trans hx⟩
set_option maxRecDepth 100000 in
set_option maxHeartbeats 2000000 in
theorem rvsConcat_any {lo lo1 lo2 : Nat} (a a1 a2 : Option Addr) (n c n1 c1 n2 c2 : Nat) (xs ys : List RvD) (w : World)
    (h : Elems RvC 5 lo w a n c (xs ++ ys)) (h1 : Elems RvC 5 lo1 w a1 n1 c1 xs) (h2 : Elems RvC 5 lo2 w a2 n2 c2 ys) (hnil : a = none ↔ n = 0) (b1 : n1 ≤ 2097152) (b2 : n2 ≤ 2097152) :
    Calls Try.prog 16 #[.slice a n c, .slice a1 n1 c1, .slice a2 n2 c2] w fun e w' => e = .returned (.bool true) ∧ Ext w w' := by
  have hl1 := h1.len
  have hl2 := h2.len
  have hl := h.len
  rw [List.length_append, hl1, hl2] at hl
  have HL : Hid (xs.length = n1) := hl1
  have hN1 : n1 + n2 ≤ n := by omega
  have hN2 : n ≤ n1 + n2 := by omega
  have hq := fun (w : World) => Lib.run_eql_slice_nil (P := Try.prog) w 35 58 a n c 0 0 Try.underlying35
  have ht := nil_test a n hnil
  have e0 : ((n : Int) != (n1 : Int) + (n2 : Int)) = false := by rw [bne_eq_false_iff_eq]; omega
  clear hnil hl1 hl2 hl
  go_enter Try.func16, Try.ntmps16
  go_wp2
  go_loopw [7] (fun i wr => ∃ k : Nat, k ≤ n1 ∧ i = .int .i64 k ∧ Ext w wr) (fun i _ => n1 - (intOf i).toNat)
  case atStart => exact ⟨0, Nat.zero_le _, rfl, Ext.refl _⟩
  case round =>
    obtain ⟨k, hk, rfl, hx⟩ := hrel
    by_cases hlt : k < n1
    · obtain ⟨b, off, f, d, rfl, hbl, hd, ⟨⟨a3, n3, c3, e0, s0⟩, ⟨⟨p3, e1, s1⟩, ⟨q3, e2, s2⟩, ⟨a4, n4, c4, e3, s3⟩⟩, ⟨a5, n5, c5, e4, s4⟩⟩, hc⟩ := (h.ext grows_rv hx).elem (k) (by omega)
      obtain ⟨b', off', f', d', rfl, hbl', hd', ⟨⟨a6, n6, c6, e0', s0'⟩, ⟨⟨p6, e1', s1'⟩, ⟨q6, e2', s2'⟩, ⟨a7, n7, c7, e3', s3'⟩⟩, ⟨a8, n8, c8, e4', s4'⟩⟩, hc'⟩ := (h1.ext grows_rv hx).elem k hlt
      rw [List.getElem?_append_left (by rw [HL.out]; exact hlt), hd'] at hd
      cases hd
      obtain rfl : n3 = n6 := by rw [← s0.len, ← s0'.len]
      obtain rfl : n4 = n7 := by rw [← s3.len, ← s3'.len]
      obtain rfl : n5 = n8 := by rw [← s4.len, ← s4'.len]
      have r0 := hc 0 (by omega)
      rw [e0] at r0
      have t0 := hc' 0 (by omega)
      rw [e0'] at t0
      have r1 := hc 1 (by omega)
      rw [e1] at r1
      have t1 := hc' 1 (by omega)
      rw [e1'] at t1
      have r2 := hc 2 (by omega)
      rw [e2] at r2
      have t2 := hc' 2 (by omega)
      rw [e2'] at t2
      have r3 := hc 3 (by omega)
      rw [e3] at r3
      have t3 := hc' 3 (by omega)
      rw [e3'] at t3
      have r4 := hc 4 (by omega)
      rw [e4] at r4
      have t4 := hc' 4 (by omega)
      rw [e4'] at t4
      simp only [Nat.add_zero] at r0 t0
      have i1 : (k : Int) < (n1 : Int) := by omega
      have i2 : (k : Int) < (n : Int) := by omega
      have HS : Hid (∀ w', Ext wr w' → w'.cell? ⟨b, off + k * 5, none⟩ = some (.slice a3 n3 c3) ∧ w'.cell? ⟨b, off + k * 5 + 1, none⟩ = some (.pointer p3) ∧ w'.cell? ⟨b, off + k * 5 + 2, none⟩ = some (.pointer q3) ∧ w'.cell? ⟨b, off + k * 5 + 3, none⟩ = some (.slice a4 n4 c4) ∧ w'.cell? ⟨b, off + k * 5 + 4, none⟩ = some (.slice a5 n5 c5) ∧ w'.cell? ⟨b', off' + k * 5, none⟩ = some (.slice a6 n3 c6) ∧ w'.cell? ⟨b', off' + k * 5 + 1, none⟩ = some (.pointer p6) ∧ w'.cell? ⟨b', off' + k * 5 + 2, none⟩ = some (.pointer q6) ∧ w'.cell? ⟨b', off' + k * 5 + 3, none⟩ = some (.slice a7 n4 c7) ∧ w'.cell? ⟨b', off' + k * 5 + 4, none⟩ = some (.slice a8 n5 c8)) := by
        intro w' hx'
        exact ⟨(hx'.cell (by exact hbl.2)).trans r0, (hx'.cell (by exact hbl.2)).trans r1, (hx'.cell (by exact hbl.2)).trans r2, (hx'.cell (by exact hbl.2)).trans r3, (hx'.cell (by exact hbl.2)).trans r4, (hx'.cell (by exact hbl'.2)).trans t0, (hx'.cell (by exact hbl'.2)).trans t1, (hx'.cell (by exact hbl'.2)).trans t2, (hx'.cell (by exact hbl'.2)).trans t3, (hx'.cell (by exact hbl'.2)).trans t4⟩
      clear hc hc' e0 e1 e2 e3 e4 e0' e1' e2' e3' e4' hd' h h1 h2
      go_wp2
      go_region_held3 (fun w' => w'.cell? ⟨b, off + k * 5, none⟩ = some (.slice a3 n3 c3) ∧ w'.cell? ⟨b, off + k * 5 + 1, none⟩ = some (.pointer p3) ∧ w'.cell? ⟨b, off + k * 5 + 2, none⟩ = some (.pointer q3) ∧ w'.cell? ⟨b, off + k * 5 + 3, none⟩ = some (.slice a4 n4 c4) ∧ w'.cell? ⟨b, off + k * 5 + 4, none⟩ = some (.slice a5 n5 c5) ∧ w'.cell? ⟨b', off' + k * 5, none⟩ = some (.slice a6 n3 c6) ∧ w'.cell? ⟨b', off' + k * 5 + 1, none⟩ = some (.pointer p6) ∧ w'.cell? ⟨b', off' + k * 5 + 2, none⟩ = some (.pointer q6) ∧ w'.cell? ⟨b', off' + k * 5 + 3, none⟩ = some (.slice a7 n4 c7) ∧ w'.cell? ⟨b', off' + k * 5 + 4, none⟩ = some (.slice a8 n5 c8))
        (first | (refine HS.out _ ?_; first | exact (Ext.refl _).drew | assumption) | go_keep)
        (first | (go_at_call 20; refine (rvSame_any _ _ _ _ _ _ _ _ _ _ _ _ _ _ _ _ _ _ _ _ _ _ _ _ _ (s0.ext (Ext.refl _).drew) (s1.ext (Ext.refl _).drew) (s2.ext (Ext.refl _).drew) (s3.ext (Ext.refl _).drew) (s4.ext grows_dig (Ext.refl _).drew) (s0'.ext (Ext.refl _).drew) (s1'.ext (Ext.refl _).drew) (s2'.ext (Ext.refl _).drew) (s3'.ext (Ext.refl _).drew) (s4'.ext grows_dig (Ext.refl _).drew)).mono ?_; rintro e w3 ⟨rfl, x3⟩; have y3 : Ext wr w3 := (Ext.refl _).drew.trans x3))
      go_wp2
      go_roundw
      case rel => (repeat apply Exists.intro); exact ⟨⟨k + 1, by omega, by go_num, hx.trans y3⟩, rfl⟩
      case measure => simp [intOf]; omega
    · go_wp2
      clear hlt hk
      go_loopw [8] (fun i wr => ∃ k : Nat, k ≤ n2 ∧ i = .int .i64 k ∧ Ext w wr) (fun i _ => n2 - (intOf i).toNat)
      case atStart => exact ⟨0, Nat.zero_le _, rfl, hx⟩
      case round =>
        clear hx
        obtain ⟨k, hk, rfl, hx⟩ := hrel
        by_cases hlt : k < n2
        · obtain ⟨b, off, f, d, rfl, hbl, hd, ⟨⟨a3, n3, c3, e0, s0⟩, ⟨⟨p3, e1, s1⟩, ⟨q3, e2, s2⟩, ⟨a4, n4, c4, e3, s3⟩⟩, ⟨a5, n5, c5, e4, s4⟩⟩, hc⟩ := (h.ext grows_rv hx).elem (n1 + k) (by omega)
          obtain ⟨b', off', f', d', rfl, hbl', hd', ⟨⟨a6, n6, c6, e0', s0'⟩, ⟨⟨p6, e1', s1'⟩, ⟨q6, e2', s2'⟩, ⟨a7, n7, c7, e3', s3'⟩⟩, ⟨a8, n8, c8, e4', s4'⟩⟩, hc'⟩ := (h2.ext grows_rv hx).elem k hlt
          rw [List.getElem?_append_right (by rw [HL.out]; omega), HL.out, Nat.add_sub_cancel_left, hd'] at hd
          cases hd
          obtain rfl : n3 = n6 := by rw [← s0.len, ← s0'.len]
          obtain rfl : n4 = n7 := by rw [← s3.len, ← s3'.len]
          obtain rfl : n5 = n8 := by rw [← s4.len, ← s4'.len]
          have r0 := hc 0 (by omega)
          rw [e0] at r0
          have t0 := hc' 0 (by omega)
          rw [e0'] at t0
          have r1 := hc 1 (by omega)
          rw [e1] at r1
          have t1 := hc' 1 (by omega)
          rw [e1'] at t1
          have r2 := hc 2 (by omega)
          rw [e2] at r2
          have t2 := hc' 2 (by omega)
          rw [e2'] at t2
          have r3 := hc 3 (by omega)
          rw [e3] at r3
          have t3 := hc' 3 (by omega)
          rw [e3'] at t3
          have r4 := hc 4 (by omega)
          rw [e4] at r4
          have t4 := hc' 4 (by omega)
          rw [e4'] at t4
          simp only [Nat.add_zero] at r0 t0
          have i1 : (k : Int) < (n2 : Int) := by omega
          have i2 : (n1 : Int) + (k : Int) < (n : Int) := by omega
          have i3 : (0 : Int) ≤ (n1 : Int) + (k : Int) := by omega
          have i4 : ((n1 : Int) + (k : Int)).toNat = n1 + k := by omega
          have i5 : IntKind.i64.wrap ((n1 : Int) + (k : Int)) = (n1 : Int) + (k : Int) := by rw [IntKind.wrap_i64]; omega
          have HS : Hid (∀ w', Ext wr w' → w'.cell? ⟨b, off + (n1 + k) * 5, none⟩ = some (.slice a3 n3 c3) ∧ w'.cell? ⟨b, off + (n1 + k) * 5 + 1, none⟩ = some (.pointer p3) ∧ w'.cell? ⟨b, off + (n1 + k) * 5 + 2, none⟩ = some (.pointer q3) ∧ w'.cell? ⟨b, off + (n1 + k) * 5 + 3, none⟩ = some (.slice a4 n4 c4) ∧ w'.cell? ⟨b, off + (n1 + k) * 5 + 4, none⟩ = some (.slice a5 n5 c5) ∧ w'.cell? ⟨b', off' + k * 5, none⟩ = some (.slice a6 n3 c6) ∧ w'.cell? ⟨b', off' + k * 5 + 1, none⟩ = some (.pointer p6) ∧ w'.cell? ⟨b', off' + k * 5 + 2, none⟩ = some (.pointer q6) ∧ w'.cell? ⟨b', off' + k * 5 + 3, none⟩ = some (.slice a7 n4 c7) ∧ w'.cell? ⟨b', off' + k * 5 + 4, none⟩ = some (.slice a8 n5 c8)) := by
            intro w' hx'
            exact ⟨(hx'.cell (by exact hbl.2)).trans r0, (hx'.cell (by exact hbl.2)).trans r1, (hx'.cell (by exact hbl.2)).trans r2, (hx'.cell (by exact hbl.2)).trans r3, (hx'.cell (by exact hbl.2)).trans r4, (hx'.cell (by exact hbl'.2)).trans t0, (hx'.cell (by exact hbl'.2)).trans t1, (hx'.cell (by exact hbl'.2)).trans t2, (hx'.cell (by exact hbl'.2)).trans t3, (hx'.cell (by exact hbl'.2)).trans t4⟩
          clear hc hc' e0 e1 e2 e3 e4 e0' e1' e2' e3' e4' hd' h h1 h2
          go_wp2
          go_region_held3 (fun w' => w'.cell? ⟨b, off + (n1 + k) * 5, none⟩ = some (.slice a3 n3 c3) ∧ w'.cell? ⟨b, off + (n1 + k) * 5 + 1, none⟩ = some (.pointer p3) ∧ w'.cell? ⟨b, off + (n1 + k) * 5 + 2, none⟩ = some (.pointer q3) ∧ w'.cell? ⟨b, off + (n1 + k) * 5 + 3, none⟩ = some (.slice a4 n4 c4) ∧ w'.cell? ⟨b, off + (n1 + k) * 5 + 4, none⟩ = some (.slice a5 n5 c5) ∧ w'.cell? ⟨b', off' + k * 5, none⟩ = some (.slice a6 n3 c6) ∧ w'.cell? ⟨b', off' + k * 5 + 1, none⟩ = some (.pointer p6) ∧ w'.cell? ⟨b', off' + k * 5 + 2, none⟩ = some (.pointer q6) ∧ w'.cell? ⟨b', off' + k * 5 + 3, none⟩ = some (.slice a7 n4 c7) ∧ w'.cell? ⟨b', off' + k * 5 + 4, none⟩ = some (.slice a8 n5 c8))
            (first | (refine HS.out _ ?_; first | exact (Ext.refl _).drew | assumption) | go_keep)
            (first | (go_at_call 20; refine (rvSame_any _ _ _ _ _ _ _ _ _ _ _ _ _ _ _ _ _ _ _ _ _ _ _ _ _ (s0.ext (Ext.refl _).drew) (s1.ext (Ext.refl _).drew) (s2.ext (Ext.refl _).drew) (s3.ext (Ext.refl _).drew) (s4.ext grows_dig (Ext.refl _).drew) (s0'.ext (Ext.refl _).drew) (s1'.ext (Ext.refl _).drew) (s2'.ext (Ext.refl _).drew) (s3'.ext (Ext.refl _).drew) (s4'.ext grows_dig (Ext.refl _).drew)).mono ?_; rintro e w3 ⟨rfl, x3⟩; have y3 : Ext wr w3 := (Ext.refl _).drew.trans x3))
          go_wp2
          go_roundw
          case rel => (repeat apply Exists.intro); exact ⟨⟨k + 1, by omega, by go_num, hx.trans y3⟩, rfl⟩
          case measure => simp [intOf]; omega
        · go_wp2
          go_ret
          exact ⟨rfl, hx⟩
end Go.Proofs.Qxb6606015a
