/-
  The law's own function, walked.
-/
import Derived.Test.Qxb6608673aWalksB
import Derived.Deep.RegionHeld3
namespace Go.Proofs.Qxb6608673a
open Go.RowKit
set_option maxRecDepth 100000

theorem slice_to (a : Option Addr) (n c k : Nat) (hk : k ≤ n) (hc : n ≤ c) (w : World) : (Instr.slice 23 (.slice a n c) none (some (.int .i64 k)) none).run Try.prog w = .ok (.slice a k c) w := by
  have h1 : (k : Int) ≤ (c : Int) := by omega
  simp [Instr.slice, run_underlying Try.underlying23, Instr.sliceBounds, run_sliceBound, h1, Try.sizeOf30]
  cases a <;> simp [Addr.add]
theorem slice_from (a : Option Addr) (n c k : Nat) (hk : k ≤ n) (w : World) : (Instr.slice 23 (.slice a n c) (some (.int .i64 k)) none none).run Try.prog w = .ok (.slice (if c = k then a else a.map (·.add (k * 4))) (n - k) (c - k)) w := by
  have h1 : (k : Int) ≤ (n : Int) := by omega
  simp [Instr.slice, run_underlying Try.underlying23, Instr.sliceBounds, run_sliceBound, h1, Try.sizeOf30]
theorem Ps.to {B : Nat} {w : World} {a : Option Addr} {n c : Nat} {en : Nat → Bool} {ky : Nat → ByteArray} (h : Ps B w a n c en ky) {k : Nat} (hk : k ≤ n) : Ps B w a k c en ky :=
  ⟨Nat.le_trans hk h.cap, fun e => ⟨by have := (h.nil e).1; omega, (h.nil e).2⟩, fun h0 => by
    obtain ⟨b, off, ha, hb, hc⟩ := h.cells (by omega)
    exact ⟨b, off, ha, hb, fun i hi => hc i (by omega)⟩⟩
theorem Ps.from {B : Nat} {w : World} {a : Option Addr} {n c : Nat} {en : Nat → Bool} {ky : Nat → ByteArray} (h : Ps B w a n c en ky) {k : Nat} (hk : k ≤ n) : Ps B w (if c = k then a else a.map (·.add (k * 4))) (n - k) (c - k) (fun i => en (k + i)) (fun i => ky (k + i)) := by
  have hcap := h.cap
  refine ⟨by omega, fun e => ?_, fun h0 => ?_⟩
  · have : a = none := by
      split at e
      · exact e
      · simpa using e
    have := h.nil this
    omega
  · obtain ⟨b, off, rfl, hb, hc⟩ := h.cells (by omega)
    refine ⟨b, off + k * 4, ?_, hb, fun i hi => ?_⟩
    · rw [if_neg (by omega)]
      simp [Addr.add_lit]
    · have := hc (k + i) (by omega)
      rwa [show off + (k + i) * 4 = off + k * 4 + i * 4 by omega] at this

theorem eql_str (s : ByteArray) (w : World) : (binOp .eql 9 (.string s) (.string s)).run Try.prog w = .ok (.bool true) w := by
  simp only [binOp]
  simp [Op.stringOp]
theorem bytes_app (l m : List UInt8) : (⟨l.toArray⟩ : ByteArray) ++ ⟨m.toArray⟩ = ⟨(l ++ m).toArray⟩ := by
  apply ByteArray.ext
  show (⟨l.toArray⟩ ++ ⟨m.toArray⟩ : ByteArray).data = _
  rw [ByteArray.data_append]
  simp
theorem bytes_size (l : List UInt8) : (⟨l.toArray⟩ : ByteArray).size = l.length := by simp [ByteArray.size]
theorem bytes_self (s : ByteArray) : (⟨s.data.toList.toArray⟩ : ByteArray) = s := by simp

/-- The three names, the joint, and how they add up. -/
theorem join_sum (en : Nat → Bool) (ky : Nat → ByteArray) (n k : Nat) (hk : k ≤ n) (ht : tot ky n ≤ 1048576) (sp : List UInt8) (hsp : sp = if n - k = 0 then [] else ahead en k) :
    (⟨(nm en ky k).toArray⟩ : ByteArray) ++ ⟨sp.toArray⟩ = ⟨(nm en ky k ++ sp).toArray⟩ ∧
    (⟨(nm en ky k ++ sp).toArray⟩ : ByteArray) ++ ⟨(nm (fun i => en (k + i)) (fun i => ky (k + i)) (n - k)).toArray⟩ = ⟨(nm en ky n).toArray⟩ ∧
    ¬ 9223372036854775807 < (⟨(nm en ky k).toArray⟩ : ByteArray).size + (⟨sp.toArray⟩ : ByteArray).size ∧
    ¬ 9223372036854775807 < (⟨(nm en ky k ++ sp).toArray⟩ : ByteArray).size + (⟨(nm (fun i => en (k + i)) (fun i => ky (k + i)) (n - k)).toArray⟩ : ByteArray).size ∧
    ¬ 9223372036854775807 < (⟨(nm en ky k).toArray⟩ : ByteArray).size + (⟨sp.toArray⟩ : ByteArray).size + (⟨(nm (fun i => en (k + i)) (fun i => ky (k + i)) (n - k)).toArray⟩ : ByteArray).size := by
  have h1 : nm en ky n = (nm en ky k ++ sp) ++ nm (fun i => en (k + i)) (fun i => ky (k + i)) (n - k) := by
    have := nm_cut en ky k (n - k)
    rw [show k + (n - k) = n by omega, ← hsp] at this
    rw [this, List.append_assoc]
  have h2 := nm_le en ky n
  have h3 : (nm en ky n).length = (nm en ky k ++ sp).length + (nm (fun i => en (k + i)) (fun i => ky (k + i)) (n - k)).length := by rw [h1, List.length_append]
  have h4 : (nm en ky k ++ sp).length = (nm en ky k).length + sp.length := List.length_append
  rw [bytes_size, bytes_size, bytes_size, bytes_size]
  exact ⟨bytes_app _ _, by rw [bytes_app, ← h1], by omega, by omega, by omega⟩

theorem nm_one (en : Nat → Bool) (ky : Nat → ByteArray) : (⟨(nm en ky 1).toArray⟩ : ByteArray) = ky 0 := by
  rw [show nm en ky 1 = (ky 0).data.toList from by simp [nm, ahead]]

set_option maxHeartbeats 4000000 in
theorem law_walk (a : Option Addr) (n c : Nat) (q : Int) (en : Nat → Bool) (ky : Nat → ByteArray) (w : World) (h : Ps w.heap.size w a n c en ky) :
    Calls Try.prog 3 #[.slice a n c, .int .i64 q] w fun e w' => e = .returned (.bool true) ∧ Below w.heap.size w w' := by
  have HP : Hid (Ps w.heap.size w a n c en ky) := h
  clear h
  have B0 := Below.refl w.heap.size w
  by_cases tq : q < 0
  · go_enter Try.func3, Try.ntmps3
    go_wp2_with (first
      | (go_at_call 4; refine (zzBytes_any a n c q en ky _ HP.out).mono ?_; rintro e w' ⟨⟨r, rfl, hz⟩, hw⟩; rw [hw]; clear hw w'; cases r; rotate_left; (have hn := hz rfl; clear hz); rotate_left)
      | (go_at_call 5; refine (pathBytes_any a n c en ky _ HP.out hn).mono ?_; rintro e w' ⟨⟨r, rfl, hp⟩, hw⟩; rw [hw]; clear hw w'; by_cases hr : (1048576 : Int) < r))
    all_goals (go_ret; exact ⟨rfl, B0⟩)
  by_cases tq2 : (n : Int) < q
  · go_enter Try.func3, Try.ntmps3
    go_wp2_with (first
      | (go_at_call 4; refine (zzBytes_any a n c q en ky _ HP.out).mono ?_; rintro e w' ⟨⟨r, rfl, hz⟩, hw⟩; rw [hw]; clear hw w'; cases r; rotate_left; (have hn := hz rfl; clear hz); rotate_left)
      | (go_at_call 5; refine (pathBytes_any a n c en ky _ HP.out hn).mono ?_; rintro e w' ⟨⟨r, rfl, hp⟩, hw⟩; rw [hw]; clear hw w'; by_cases hr : (1048576 : Int) < r))
    all_goals (go_ret; exact ⟨rfl, B0⟩)
  by_cases hbig : n ≤ 1048576 ∧ tot ky n ≤ 1048576
  case neg =>
    have HBIG : Hid (¬ (n ≤ 1048576 ∧ tot ky n ≤ 1048576)) := hbig
    clear hbig
    go_enter Try.func3, Try.ntmps3
    go_wp2_with (first
      | (go_at_call 4; refine (zzBytes_any a n c q en ky _ HP.out).mono ?_; rintro e w' ⟨⟨r, rfl, hz⟩, hw⟩; rw [hw]; clear hw w'; cases r; rotate_left; (have hn := hz rfl; clear hz); rotate_left)
      | (go_at_call 5; refine (pathBytes_any a n c en ky _ HP.out hn).mono ?_; rintro e w' ⟨⟨r, rfl, hp⟩, hw⟩; rw [hw]; clear hw w'; by_cases hr : (1048576 : Int) < r; rotate_left; exact absurd ⟨hn, hp (by omega)⟩ HBIG.out))
    all_goals (go_ret; exact ⟨rfl, B0⟩)
  obtain ⟨hn, ht⟩ := hbig
  have HT : Hid (tot ky n ≤ 1048576) := ht
  clear ht
  obtain ⟨k, rfl⟩ : ∃ k : Nat, q = k := ⟨q.toNat, by omega⟩
  have hk : k ≤ n := by omega
  have hto := slice_to a n c k hk HP.out.cap
  have hfrom := slice_from a n c k hk
  obtain ⟨a2, ha2⟩ : ∃ a2, (if c = k then a else a.map (·.add (k * 4))) = a2 := ⟨_, rfl⟩
  have HP2 : Hid (Ps w.heap.size w a2 (n - k) (c - k) (fun i => en (k + i)) (fun i => ky (k + i))) := by rw [← ha2]; exact HP.out.from hk
  have HP1 : Hid (Ps w.heap.size w a k c en ky) := HP.out.to hk
  rw [ha2] at hfrom
  clear ha2
  -- the letters
  obtain ⟨S0, hS0⟩ : ∃ S : ByteArray, S = ⟨(nm en ky n).toArray⟩ := ⟨_, rfl⟩
  obtain ⟨S1, hS1⟩ : ∃ S : ByteArray, S = ⟨(nm en ky k).toArray⟩ := ⟨_, rfl⟩
  obtain ⟨S2, hS2⟩ : ∃ S : ByteArray, S = ⟨(nm (fun i => en (k + i)) (fun i => ky (k + i)) (n - k)).toArray⟩ := ⟨_, rfl⟩
  have HN0 : Hid (∀ W, Below w.heap.size w W → Calls Try.prog 6 #[.slice a n c] W fun e w' => e = .returned (.string S0) ∧ Below w.heap.size w w') := fun W hW => by
    rw [hS0]
    exact (nameByKey_any a n c en ky _ (HP.out.below hW (Nat.le_refl _)) hW.size hn HT.out).mono fun e w' ⟨h1, h2⟩ => ⟨h1, Below.trans hW (Below.mono h2 hW.size)⟩
  have HN1 : Hid (∀ W, Below w.heap.size w W → Calls Try.prog 6 #[.slice a k c] W fun e w' => e = .returned (.string S1) ∧ Below w.heap.size w w') := fun W hW => by
    rw [hS1]
    exact (nameByKey_any a k c en ky _ (HP1.out.below hW (Nat.le_refl _)) hW.size (by omega) (Nat.le_trans (by have := tot_mono ky k (n - k); rwa [show k + (n - k) = n by omega] at this) HT.out)).mono fun e w' ⟨h1, h2⟩ => ⟨h1, Below.trans hW (Below.mono h2 hW.size)⟩
  have HN2 : Hid (∀ W, Below w.heap.size w W → Calls Try.prog 6 #[.slice a2 (n - k) (c - k)] W fun e w' => e = .returned (.string S2) ∧ Below w.heap.size w w') := fun W hW => by
    rw [hS2]
    exact (nameByKey_any a2 (n - k) (c - k) _ _ _ (HP2.out.below hW (Nat.le_refl _)) hW.size (by omega) (Nat.le_trans (by have := tot_shift ky k (n - k); rwa [show k + (n - k) = n by omega] at this) HT.out)).mono fun e w' ⟨h1, h2⟩ => ⟨h1, Below.trans hW (Below.mono h2 hW.size)⟩
  have HJ : Hid (∀ sp : List UInt8, (sp = if n - k = 0 then [] else ahead en k) → ∃ T : ByteArray, S1 ++ ⟨sp.toArray⟩ = T ∧ T ++ S2 = S0 ∧ ¬ 9223372036854775807 < S1.size + (⟨sp.toArray⟩ : ByteArray).size ∧ ¬ 9223372036854775807 < T.size + S2.size ∧ ¬ 9223372036854775807 < S1.size + (⟨sp.toArray⟩ : ByteArray).size + S2.size) := fun sp hsp => by
    rw [hS0, hS1, hS2]
    exact ⟨_, join_sum en ky n k hk HT.out sp hsp⟩
  clear hS0 hS1 hS2
  have hself := eql_str S0
  have F1 : True := trivial
  have F2 : True := trivial
  by_cases hin : 0 < k ∧ k < n
  · obtain ⟨j, hj⟩ : ∃ j, k = j + 1 := ⟨k - 1, by omega⟩
    obtain ⟨T, hT⟩ := HJ.out (ahead en k) (by rw [if_neg (by omega)])
    obtain ⟨hT1, hT2, hT3, hT4, hT5⟩ := hT
    obtain ⟨SP, hSP⟩ : ∃ S : ByteArray, S = ⟨(ahead en k).toArray⟩ := ⟨_, rfl⟩
    rw [← hSP] at hT1 hT3 hT5
    have HSP : Hid ((if en j = true then ⟨#[58, 32]⟩ else ⟨#[46]⟩ : ByteArray) = SP) := by
      rw [hSP, hj]
      unfold ahead
      rw [if_neg (show ¬ j + 1 = 0 by omega)]
      show _ = (⟨(if en j = true then [58, 32] else [46] : List UInt8).toArray⟩ : ByteArray)
      cases en j <;> rfl
    clear hSP
    have e1 : (k : Int) - 1 = j := by omega
    have hj2 : j < n := by omega
    have t1 : (0 : Int) < k := by omega
    have t3 : (k : Int) < n := by omega
    have t2 : (0 : Int) < n := by omega
    obtain ⟨b, off, ha, hb, hc⟩ := HP.out.cells (by omega)
    subst ha
    have HC : Hid (∀ W, Below w.heap.size w W → ∀ i, i < n → (∃ z, W.cell? ⟨b, off + i * 4, none⟩ = some (.int .i64 z)) ∧ W.cell? ⟨b, off + i * 4 + 1, none⟩ = some (.bool (en i)) ∧ (∃ z, W.cell? ⟨b, off + i * 4 + 2, none⟩ = some (.int .i64 z)) ∧ W.cell? ⟨b, off + i * 4 + 3, none⟩ = some (.string (ky i))) := fun W hW i hi => by
      have h1 := hW.cell (p := ⟨b, off + i * 4, none⟩) hb
      have h2 := hW.cell (p := ⟨b, off + i * 4 + 1, none⟩) hb
      have h3 := hW.cell (p := ⟨b, off + i * 4 + 2, none⟩) hb
      have h4 := hW.cell (p := ⟨b, off + i * 4 + 3, none⟩) hb
      rw [h1, h2, h3, h4]
      exact hc i hi
    clear hc
    have hto1 : ∀ W, (Instr.slice 23 (.slice (some ⟨b, off, none⟩) n c) none (some (.int .i64 1)) none).run Try.prog W = .ok (.slice (some ⟨b, off, none⟩) 1 c) W := slice_to (some ⟨b, off, none⟩) n c 1 (by omega) HP.out.cap
    obtain ⟨K0, hK0⟩ : ∃ K, ky 0 = K := ⟨_, rfl⟩
    have HN3 : Hid (∀ W, Below w.heap.size w W → Calls Try.prog 6 #[.slice (some ⟨b, off, none⟩) 1 c] W fun e w' => e = .returned (.string K0) ∧ Below w.heap.size w w') := fun W hW => by
      rw [← hK0, ← nm_one en ky]
      exact (nameByKey_any _ 1 c en ky _ ((HP.out.to (show 1 ≤ n by omega)).below hW (Nat.le_refl _)) hW.size (by omega) (Nat.le_trans (by have := tot_mono ky 1 (n - 1); rwa [show 1 + (n - 1) = n by omega] at this) HT.out)).mono fun e w' ⟨h1, h2⟩ => ⟨h1, Below.trans hW (Below.mono h2 hW.size)⟩
    have HK : Hid (∀ W, Below w.heap.size w W → W.cell? ⟨b, off + 3, none⟩ = some (.string K0)) := fun W hW => by
      have := (HC.out W hW 0 (by omega)).2.2.2
      rw [hK0, Nat.zero_mul, Nat.add_zero] at this
      exact this
    clear hK0
    have hself2 := eql_str K0
    clear hj hin
    go_enter Try.func3, Try.ntmps3
    go_wp2_with (first
        | (go_at_call 4; refine (zzBytes_any _ n c _ en ky _ HP.out).mono ?_; rintro e w' ⟨⟨r, rfl, -⟩, hw⟩; rw [hw]; clear hw w'; cases r)
        | (go_at_call 5; refine (pathBytes_any _ n c en ky _ HP.out hn).mono ?_; rintro e w' ⟨⟨r, rfl, -⟩, hw⟩; rw [hw]; clear hw w'; by_cases hr : (1048576 : Int) < r)
        | (go_at_call 6; clear F1; refine (HN0.out _ B0).mono ?_; rintro e w1 ⟨rfl, b1⟩)
        | (go_at_call 6; clear F2; refine (HN1.out _ b1).mono ?_; rintro e w2 ⟨rfl, b2⟩)
        | (go_at_call 6; refine (HN2.out _ b2).mono ?_; rintro e w3 ⟨rfl, b3⟩; obtain ⟨⟨z0, g0⟩, g1, ⟨z2, g2⟩, g3⟩ := HC.out w3 b3 j hj2)
        | (go_at_call 7; refine (afterStep_any _ _ _ _ _).mono ?_; rintro e w4 ⟨he, b4'⟩; rw [HSP.out] at he; subst he; have b4 : Below w.heap.size w w4 := Below.trans b3 (Below.mono b4' b3.size); clear b4' g0 g1 g2 g3))
    all_goals first | (go_ret; exact ⟨rfl, B0⟩) | skip
    have S0' : Below w.heap.size w w4.drew ∧ w4.drew.cell? ⟨b, off + 3, none⟩ = some (.string K0) := ⟨b4.drew, HK.out _ b4.drew⟩
    go_region_held3 (fun w' => Below w.heap.size w w' ∧ w'.cell? ⟨b, off + 3, none⟩ = some (.string K0)) (first | exact S0' | exact ⟨b9, HK.out _ b9⟩)
      ((go_at_call 6; refine (HN3.out _ (And.left (by assumption))).mono ?_; rintro e w9 ⟨rfl, b9⟩))
    go_wp2
    go_ret
    exact ⟨rfl, b9⟩
  · obtain ⟨T, hT⟩ := HJ.out [] (by
      by_cases h0 : n - k = 0
      · rw [if_pos h0]
      · rw [if_neg h0, show k = 0 by omega]
        rfl)
    obtain ⟨hT1', hT2, hT3', hT4, hT5'⟩ := hT
    have hT1 : S1 ++ { data := #[] } = T := hT1'
    have hT3 : ¬ 9223372036854775807 < S1.size := hT3'
    have hT5 : ¬ 9223372036854775807 < S1.size + S2.size := hT5'
    clear hT1' hT3' hT5'
    by_cases hk0 : k = 0
    · have t1 : ¬ ((0 : Int) < k) := by omega
      by_cases hn0 : n = 0
      · have t2 : ¬ ((0 : Int) < n) := by omega
        clear hk0 hn0 hin
        go_enter Try.func3, Try.ntmps3
        go_wp2_with (first
            | (go_at_call 4; refine (zzBytes_any _ n c _ en ky _ HP.out).mono ?_; rintro e w' ⟨⟨r, rfl, -⟩, hw⟩; rw [hw]; clear hw w'; cases r)
            | (go_at_call 5; refine (pathBytes_any _ n c en ky _ HP.out hn).mono ?_; rintro e w' ⟨⟨r, rfl, -⟩, hw⟩; rw [hw]; clear hw w'; by_cases hr : (1048576 : Int) < r)
            | (go_at_call 6; clear F1; refine (HN0.out _ B0).mono ?_; rintro e w1 ⟨rfl, b1⟩)
            | (go_at_call 6; clear F2; refine (HN1.out _ b1).mono ?_; rintro e w2 ⟨rfl, b2⟩)
            | (go_at_call 6; refine (HN2.out _ b2).mono ?_; rintro e w3 ⟨rfl, b3⟩))
        all_goals first | (go_ret; exact ⟨rfl, B0⟩) | skip
        go_ret
        exact ⟨rfl, b3⟩
      · have t2 : (0 : Int) < n := by omega
        obtain ⟨b, off, ha, hb, hc⟩ := HP.out.cells (by omega)
        subst ha
        have HC : Hid (∀ W, Below w.heap.size w W → ∀ i, i < n → (∃ z, W.cell? ⟨b, off + i * 4, none⟩ = some (.int .i64 z)) ∧ W.cell? ⟨b, off + i * 4 + 1, none⟩ = some (.bool (en i)) ∧ (∃ z, W.cell? ⟨b, off + i * 4 + 2, none⟩ = some (.int .i64 z)) ∧ W.cell? ⟨b, off + i * 4 + 3, none⟩ = some (.string (ky i))) := fun W hW i hi => by
          have h1 := hW.cell (p := ⟨b, off + i * 4, none⟩) hb
          have h2 := hW.cell (p := ⟨b, off + i * 4 + 1, none⟩) hb
          have h3 := hW.cell (p := ⟨b, off + i * 4 + 2, none⟩) hb
          have h4 := hW.cell (p := ⟨b, off + i * 4 + 3, none⟩) hb
          rw [h1, h2, h3, h4]
          exact hc i hi
        clear hc
        have hto1 : ∀ W, (Instr.slice 23 (.slice (some ⟨b, off, none⟩) n c) none (some (.int .i64 1)) none).run Try.prog W = .ok (.slice (some ⟨b, off, none⟩) 1 c) W := slice_to (some ⟨b, off, none⟩) n c 1 (by omega) HP.out.cap
        obtain ⟨K0, hK0⟩ : ∃ K, ky 0 = K := ⟨_, rfl⟩
        have HN3 : Hid (∀ W, Below w.heap.size w W → Calls Try.prog 6 #[.slice (some ⟨b, off, none⟩) 1 c] W fun e w' => e = .returned (.string K0) ∧ Below w.heap.size w w') := fun W hW => by
          rw [← hK0, ← nm_one en ky]
          exact (nameByKey_any _ 1 c en ky _ ((HP.out.to (show 1 ≤ n by omega)).below hW (Nat.le_refl _)) hW.size (by omega) (Nat.le_trans (by have := tot_mono ky 1 (n - 1); rwa [show 1 + (n - 1) = n by omega] at this) HT.out)).mono fun e w' ⟨h1, h2⟩ => ⟨h1, Below.trans hW (Below.mono h2 hW.size)⟩
        have HK : Hid (∀ W, Below w.heap.size w W → W.cell? ⟨b, off + 3, none⟩ = some (.string K0)) := fun W hW => by
          have := (HC.out W hW 0 (by omega)).2.2.2
          rw [hK0, Nat.zero_mul, Nat.add_zero] at this
          exact this
        clear hK0
        have hself2 := eql_str K0
        clear hk0 hn0 hin
        go_enter Try.func3, Try.ntmps3
        go_wp2_with (first
            | (go_at_call 4; refine (zzBytes_any _ n c _ en ky _ HP.out).mono ?_; rintro e w' ⟨⟨r, rfl, -⟩, hw⟩; rw [hw]; clear hw w'; cases r)
            | (go_at_call 5; refine (pathBytes_any _ n c en ky _ HP.out hn).mono ?_; rintro e w' ⟨⟨r, rfl, -⟩, hw⟩; rw [hw]; clear hw w'; by_cases hr : (1048576 : Int) < r)
            | (go_at_call 6; clear F1; refine (HN0.out _ B0).mono ?_; rintro e w1 ⟨rfl, b1⟩)
            | (go_at_call 6; clear F2; refine (HN1.out _ b1).mono ?_; rintro e w2 ⟨rfl, b2⟩)
            | (go_at_call 6; refine (HN2.out _ b2).mono ?_; rintro e w3 ⟨rfl, b3⟩))
        all_goals first | (go_ret; exact ⟨rfl, B0⟩) | skip
        have S0' : Below w.heap.size w w3.drew ∧ w3.drew.cell? ⟨b, off + 3, none⟩ = some (.string K0) := ⟨b3.drew, HK.out _ b3.drew⟩
        go_region_held3 (fun w' => Below w.heap.size w w' ∧ w'.cell? ⟨b, off + 3, none⟩ = some (.string K0)) (first | exact S0' | exact ⟨b9, HK.out _ b9⟩)
          ((go_at_call 6; refine (HN3.out _ (And.left (by assumption))).mono ?_; rintro e w9 ⟨rfl, b9⟩))
        go_wp2
        go_ret
        exact ⟨rfl, b9⟩
    · have t1 : (0 : Int) < k := by omega
      have t3 : ¬ ((k : Int) < n) := by omega
      have t2 : (0 : Int) < n := by omega
      obtain ⟨b, off, ha, hb, hc⟩ := HP.out.cells (by omega)
      subst ha
      have HC : Hid (∀ W, Below w.heap.size w W → ∀ i, i < n → (∃ z, W.cell? ⟨b, off + i * 4, none⟩ = some (.int .i64 z)) ∧ W.cell? ⟨b, off + i * 4 + 1, none⟩ = some (.bool (en i)) ∧ (∃ z, W.cell? ⟨b, off + i * 4 + 2, none⟩ = some (.int .i64 z)) ∧ W.cell? ⟨b, off + i * 4 + 3, none⟩ = some (.string (ky i))) := fun W hW i hi => by
        have h1 := hW.cell (p := ⟨b, off + i * 4, none⟩) hb
        have h2 := hW.cell (p := ⟨b, off + i * 4 + 1, none⟩) hb
        have h3 := hW.cell (p := ⟨b, off + i * 4 + 2, none⟩) hb
        have h4 := hW.cell (p := ⟨b, off + i * 4 + 3, none⟩) hb
        rw [h1, h2, h3, h4]
        exact hc i hi
      clear hc
      have hto1 : ∀ W, (Instr.slice 23 (.slice (some ⟨b, off, none⟩) n c) none (some (.int .i64 1)) none).run Try.prog W = .ok (.slice (some ⟨b, off, none⟩) 1 c) W := slice_to (some ⟨b, off, none⟩) n c 1 (by omega) HP.out.cap
      obtain ⟨K0, hK0⟩ : ∃ K, ky 0 = K := ⟨_, rfl⟩
      have HN3 : Hid (∀ W, Below w.heap.size w W → Calls Try.prog 6 #[.slice (some ⟨b, off, none⟩) 1 c] W fun e w' => e = .returned (.string K0) ∧ Below w.heap.size w w') := fun W hW => by
        rw [← hK0, ← nm_one en ky]
        exact (nameByKey_any _ 1 c en ky _ ((HP.out.to (show 1 ≤ n by omega)).below hW (Nat.le_refl _)) hW.size (by omega) (Nat.le_trans (by have := tot_mono ky 1 (n - 1); rwa [show 1 + (n - 1) = n by omega] at this) HT.out)).mono fun e w' ⟨h1, h2⟩ => ⟨h1, Below.trans hW (Below.mono h2 hW.size)⟩
      have HK : Hid (∀ W, Below w.heap.size w W → W.cell? ⟨b, off + 3, none⟩ = some (.string K0)) := fun W hW => by
        have := (HC.out W hW 0 (by omega)).2.2.2
        rw [hK0, Nat.zero_mul, Nat.add_zero] at this
        exact this
      clear hK0
      have hself2 := eql_str K0
      clear hk0 hin
      go_enter Try.func3, Try.ntmps3
      go_wp2_with (first
          | (go_at_call 4; refine (zzBytes_any _ n c _ en ky _ HP.out).mono ?_; rintro e w' ⟨⟨r, rfl, -⟩, hw⟩; rw [hw]; clear hw w'; cases r)
          | (go_at_call 5; refine (pathBytes_any _ n c en ky _ HP.out hn).mono ?_; rintro e w' ⟨⟨r, rfl, -⟩, hw⟩; rw [hw]; clear hw w'; by_cases hr : (1048576 : Int) < r)
          | (go_at_call 6; clear F1; refine (HN0.out _ B0).mono ?_; rintro e w1 ⟨rfl, b1⟩)
          | (go_at_call 6; clear F2; refine (HN1.out _ b1).mono ?_; rintro e w2 ⟨rfl, b2⟩)
          | (go_at_call 6; refine (HN2.out _ b2).mono ?_; rintro e w3 ⟨rfl, b3⟩))
      all_goals first | (go_ret; exact ⟨rfl, B0⟩) | skip
      have S0' : Below w.heap.size w w3.drew ∧ w3.drew.cell? ⟨b, off + 3, none⟩ = some (.string K0) := ⟨b3.drew, HK.out _ b3.drew⟩
      go_region_held3 (fun w' => Below w.heap.size w w' ∧ w'.cell? ⟨b, off + 3, none⟩ = some (.string K0)) (first | exact S0' | exact ⟨b9, HK.out _ b9⟩)
        ((go_at_call 6; refine (HN3.out _ (And.left (by assumption))).mono ?_; rintro e w9 ⟨rfl, b9⟩))
      go_wp2
      go_ret
      exact ⟨rfl, b9⟩
end Go.Proofs.Qxb6608673a
