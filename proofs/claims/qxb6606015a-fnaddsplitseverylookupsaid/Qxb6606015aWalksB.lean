/-
  The size functions: each returns some int; nothing old turns.
-/
import Derived.Test.Qxb6606015aWalksA
namespace Go.Proofs.Qxb6606015a
open Go.RowKit

set_option maxHeartbeats 400000 in
theorem sizeComps_any {lo : Nat} (a : Option Addr) (n c : Nat) (ds : List CompD) (w : World) (h : Elems CompC 3 lo w a n c ds) :
    Calls Try.prog 35 #[.slice a n c] w fun e w' => (∃ r, e = .returned (.int .i64 r)) ∧ Ext w w' := by
  have hb := h.bound
  go_enter Try.func35, Try.ntmps35
  go_wp2
  go_loopw [3, 4] (fun z i wr => (∃ r, z = .int .i64 r) ∧ ∃ k : Nat, k ≤ n ∧ i = .int .i64 k ∧ Ext w wr) (fun _ i _ => n - (intOf i).toNat)
  case atStart => exact ⟨⟨_, rfl⟩, 0, Nat.zero_le _, rfl, Ext.refl _⟩
  case round =>
    obtain ⟨⟨r, rfl⟩, k, hk, rfl, hx⟩ := hrel
    by_cases hlt : k < n
    · obtain ⟨b, off, f, d, rfl, hbl, hd, hE, hc⟩ := (h.ext grows_comp hx).elem k hlt
      have g0 := hc 0 (by omega)
      have g1 := hc 1 (by omega)
      have g2 := hc 2 (by omega)
      obtain ⟨⟨p, e0, s0⟩, ⟨q, e1, s1⟩, ⟨a3, n3, c3, e2, s2⟩⟩ := hE
      rw [e0] at g0
      rw [e1] at g1
      rw [e2] at g2
      simp only [Nat.add_zero] at g0
      clear hc e0 e1 e2 hd
      go_wp2_with (first
        | (go_at_call 34; refine (sizeComp_any _ _ _ _ _ _ _ _ s0 s1).mono ?_; rintro e w' ⟨⟨r1, rfl⟩, hx1⟩)
        | (go_at_call 7; refine (addSat_any _ _ _).mono ?_; rintro e w' ⟨rfl, hw⟩; rw [hw]; clear hw w'))
      · go_roundw
        case rel => exact ⟨⟨_, rfl⟩, k + 1, by omega, by go_num, hx.trans hx1⟩
        case measure => simp [intOf]; omega
      · go_ret
        exact ⟨⟨_, rfl⟩, hx⟩
    · go_wp2
      go_ret
      exact ⟨⟨_, rfl⟩, hx⟩
set_option maxHeartbeats 400000 in
theorem sizeKeys_any {lo : Nat} (a : Option Addr) (n c : Nat) (ds : List KeyD) (w : World) (h : Elems KeyC 3 lo w a n c ds) :
    Calls Try.prog 22 #[.slice a n c] w fun e w' => (∃ r, e = .returned (.int .i64 r)) ∧ Ext w w' := by
  have hb := h.bound
  go_enter Try.func22, Try.ntmps22
  go_wp2
  go_loopw [3, 4] (fun z i wr => (∃ r, z = .int .i64 r) ∧ ∃ k : Nat, k ≤ n ∧ i = .int .i64 k ∧ Ext w wr) (fun _ i _ => n - (intOf i).toNat)
  case atStart => exact ⟨⟨_, rfl⟩, 0, Nat.zero_le _, rfl, Ext.refl _⟩
  case round =>
    obtain ⟨⟨r, rfl⟩, k, hk, rfl, hx⟩ := hrel
    by_cases hlt : k < n
    · obtain ⟨b, off, f, d, rfl, hbl, hd, hE, hc⟩ := (h.ext grows_key hx).elem k hlt
      have g0 := hc 0 (by omega)
      have g1 := hc 1 (by omega)
      have g2 := hc 2 (by omega)
      obtain ⟨⟨a3, n3, c3, e0, s0⟩, ⟨a4, n4, c4, e1, s1⟩, e2⟩ := hE
      rw [e0] at g0
      rw [e1] at g1
      rw [e2] at g2
      simp only [Nat.add_zero] at g0
      have i1 : (k : Int) < (n : Int) := by omega
      clear hc e0 e1 e2 hd
      go_wp2_with fail
      · go_quiet ((go_at_call 7; refine Calls.quiet_of_same (addSat_any _ _ _)))
        go_wp2
        go_roundw
        case rel => exact ⟨⟨_, rfl⟩, k + 1, by omega, by go_num, hx.drewN _⟩
        case measure => simp [intOf]; omega
      · go_ret
        exact ⟨⟨_, rfl⟩, hx⟩
    · go_wp2
      go_ret
      exact ⟨⟨_, rfl⟩, hx⟩

set_option maxHeartbeats 1000000 in
theorem sizeRVs_any {lo : Nat} (a : Option Addr) (n c : Nat) (ds : List RvD) (w : World) (h : Elems RvC 5 lo w a n c ds) :
    Calls Try.prog 23 #[.slice a n c] w fun e w' => (∃ r, e = .returned (.int .i64 r)) ∧ Ext w w' := by
  have hb := h.bound
  go_enter Try.func23, Try.ntmps23
  go_wp2
  go_loopw [3, 4, 5, 6] (fun z i _ _ wr => (∃ r, z = .int .i64 r) ∧ ∃ k : Nat, k ≤ n ∧ i = .int .i64 k ∧ Ext w wr) (fun _ i _ _ _ => n - (intOf i).toNat)
  case atStart => exact ⟨⟨_, rfl⟩, 0, Nat.zero_le _, rfl, Ext.refl _⟩
  case round =>
    obtain ⟨⟨r, rfl⟩, k, hk, rfl, hx⟩ := hrel
    by_cases hlt : k < n
    · obtain ⟨b, off, f, d, rfl, hbl, hd, hE, hc⟩ := (h.ext grows_rv hx).elem k hlt
      have g0 := hc 0 (by omega)
      have g1 := hc 1 (by omega)
      have g2 := hc 2 (by omega)
      have g3 := hc 3 (by omega)
      have g4 := hc 4 (by omega)
      obtain ⟨⟨a3, n3, c3, e0, s0⟩, ⟨⟨p, e1, s1⟩, ⟨q, e2, s2⟩, ⟨a4, n4, c4, e3, s3⟩⟩, ⟨a5, n5, c5, e4, s4⟩⟩ := hE
      rw [e0] at g0
      rw [e1] at g1
      rw [e2] at g2
      rw [e3] at g3
      rw [e4] at g4
      simp only [Nat.add_zero] at g0
      have hb5 := s4.bound
      clear hc e0 e1 e2 e3 e4 hd
      have hgo : ∀ w', Ext _ w' → w'.cell? ⟨b, off + k * 5 + 4, none⟩ = some (.slice a5 n5 c5) := fun w' e => (e.cell (p := ⟨b, off + k * 5 + 4, none⟩) hbl.2).trans g4
      go_wp2_with (first
        | (go_at_call 34; refine (sizeComp_any _ _ _ _ _ _ _ _ s1 s2).mono ?_; rintro e w1 ⟨⟨r1, rfl⟩, hx1⟩; have g4' := hgo _ hx1)
        | (go_at_call 7; refine (addSat_any _ _ _).mono ?_; rintro e w' ⟨rfl, hw⟩; rw [hw]; clear hw w'))
      · have hX : Ext w w1 := hx.trans hx1
        have hdg := s4.ext grows_dig hx1
        clear g0 g1 g2 g3 g4 g4' hgo s0 s1 s2 s3 s4 hx1 h
        go_loopw [3, 6] (fun z j wr => (∃ r, z = .int .i64 r) ∧ ∃ i : Nat, i ≤ n5 ∧ j = .int .i64 i ∧ Ext w wr ∧ Ext w1 wr) (fun _ j _ => n5 - (intOf j).toNat)
        case atStart => exact ⟨⟨_, rfl⟩, 0, Nat.zero_le _, rfl, hX, Ext.refl _⟩
        case round =>
          obtain ⟨⟨r2, rfl⟩, i, hi, rfl, hx2, hx3⟩ := hrel
          by_cases hlt2 : i < n5
          · obtain ⟨b2, off2, f2, d2, rfl, hbl2, hd2, hE2, hc2⟩ := (hdg.ext grows_dig hx3).elem i hlt2
            have k0 := hc2 0 (by omega)
            obtain ⟨a6, n6, c6, e0, s0⟩ := hE2
            rw [e0] at k0
            simp only [Nat.add_zero, Nat.mul_one] at k0
            clear hc2 e0 hd2
            go_wp2_with (go_at_call 7; refine (addSat_any _ _ _).mono ?_; rintro e w' ⟨rfl, hw⟩; rw [hw]; clear hw w')
            · go_roundw
              case rel => exact ⟨⟨_, rfl⟩, i + 1, by omega, by go_num, hx2, hx3⟩
              case measure => simp [intOf]; omega
            · go_roundw
              case rel => exact ⟨⟨_, rfl⟩, k + 1, by omega, by go_num, hx2⟩
              case measure => simp [intOf]; omega
          · go_wp2
            go_roundw
            case rel => exact ⟨⟨_, rfl⟩, k + 1, by omega, by go_num, hx2⟩
            case measure => simp [intOf]; omega
      · go_ret
        exact ⟨⟨_, rfl⟩, hx⟩
    · go_wp2
      go_ret
      exact ⟨⟨_, rfl⟩, hx⟩
set_option maxHeartbeats 1000000 in
theorem sizeCerts_any {lo : Nat} (a : Option Addr) (n c : Nat) (ds : List Unit) (w : World) (h : Elems CertC 3 lo w a n c ds) :
    Calls Try.prog 24 #[.slice a n c] w fun e w' => (∃ r, e = .returned (.int .i64 r)) ∧ Ext w w' := by
  have hb := h.bound
  go_enter Try.func24, Try.ntmps24
  go_wp2
  go_loopw [3, 4] (fun z i wr => (∃ r, z = .int .i64 r) ∧ ∃ k : Nat, k ≤ n ∧ i = .int .i64 k ∧ Ext w wr) (fun _ i _ => n - (intOf i).toNat)
  case atStart => exact ⟨⟨_, rfl⟩, 0, Nat.zero_le _, rfl, Ext.refl _⟩
  case round =>
    obtain ⟨⟨r, rfl⟩, k, hk, rfl, hx⟩ := hrel
    by_cases hlt : k < n
    · obtain ⟨b, off, f, d, rfl, hbl, hd, hE, hc⟩ := (h.ext grows_cert hx).elem k hlt
      have g0 := hc 0 (by omega)
      have g1 := hc 1 (by omega)
      have g2 := hc 2 (by omega)
      obtain ⟨⟨bs, a3, n3, c3, e0, s0⟩, ⟨a4, n4, c4, dd, e1, s1⟩, ⟨s, e2⟩⟩ := hE
      rw [e0] at g0
      rw [e1] at g1
      rw [e2] at g2
      simp only [Nat.add_zero] at g0
      have hgo : ∀ w', Ext _ w' → w'.cell? ⟨b, off + k * 3 + 2, none⟩ = some (.string s) := fun w' e => (e.cell (p := ⟨b, off + k * 3 + 2, none⟩) hbl.2).trans g2
      clear hc e0 e1 e2 hd
      go_wp2_with (first
        | (go_at_call 35; refine (sizeComps_any _ _ _ _ _ s1).mono ?_; rintro e w1 ⟨⟨r1, rfl⟩, hx1⟩; have g4' := hgo _ hx1)
        | (go_at_call 7; refine (addSat_any _ _ _).mono ?_; rintro e w' ⟨rfl, hw⟩; rw [hw]; clear hw w'))
      · go_roundw
        case rel => exact ⟨⟨_, rfl⟩, k + 1, by omega, by go_num, hx.trans hx1⟩
        case measure => simp [intOf]; omega
      · go_ret
        exact ⟨⟨_, rfl⟩, hx⟩
    · go_wp2
      go_ret
      exact ⟨⟨_, rfl⟩, hx⟩

set_option maxHeartbeats 400000 in
theorem sizeEnd_any {lo : Nat} (a1 a2 a3 : Option Addr) (n1 c1 n2 c2 n3 c3 : Nat) (ks : List KeyD) (rs : List RvD) (cs : List Unit) (w : World)
    (h1 : Elems KeyC 3 lo w a1 n1 c1 ks) (h2 : Elems RvC 5 lo w a2 n2 c2 rs) (h3 : Elems CertC 3 lo w a3 n3 c3 cs) :
    Calls Try.prog 8 #[.slice a1 n1 c1, .slice a2 n2 c2, .slice a3 n3 c3] w fun e w' => (∃ r, e = .returned (.int .i64 r)) ∧ Ext w w' := by
  go_enter Try.func8, Try.ntmps8
  go_wp2_with (first
    | (go_at_call 22; refine (sizeKeys_any _ _ _ _ _ h1).mono ?_; rintro e w1 ⟨⟨r1, rfl⟩, hx1⟩)
    | (go_at_call 23; refine (sizeRVs_any _ _ _ _ _ (h2.ext grows_rv hx1)).mono ?_; rintro e w2 ⟨⟨r2, rfl⟩, hx2⟩)
    | (go_at_call 24; refine (sizeCerts_any _ _ _ _ _ (h3.ext grows_cert (hx1.trans hx2))).mono ?_; rintro e w3 ⟨⟨r3, rfl⟩, hx3⟩)
    | (go_at_call 7; refine (addSat_any _ _ _).mono ?_; rintro e w' ⟨rfl, hw⟩; rw [hw]; clear hw w'))
  go_ret
  exact ⟨⟨_, rfl⟩, (hx1.trans hx2).trans hx3⟩
end Go.Proofs.Qxb6606015a
