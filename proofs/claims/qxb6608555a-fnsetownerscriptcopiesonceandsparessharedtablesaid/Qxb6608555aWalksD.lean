/-
  zzTableWellFormed.
-/
import Derived.Test.Qxb6608555aWalksC
import Derived.Deep.WholeRow
namespace Go.Proofs.Qxb6608555a
open Go.RowKit
set_option maxRecDepth 100000

/-- What the law's own test of a table says when it says yes. -/
def Wf (os : Nat → Nat) (n : Nat) (ss : List ByteArray) : Prop :=
  0 < n ∧ ss.getD 0 ByteArray.empty = ByteArray.empty ∧ (∀ k, 1 ≤ k → k < n → ¬ ss.getD k ByteArray.empty = ByteArray.empty) ∧ ∀ s, s < 16384 → os s < n
def WfPost (os : Nat → Nat) (n : Nat) (ss : List ByteArray) (e : Ending) : Prop := ∃ r : Bool, e = .returned (.bool r) ∧ (r = true → Wf os n ss)
theorem wf_no (os : Nat → Nat) (n : Nat) (ss : List ByteArray) : WfPost os n ss (.returned (.bool false)) := ⟨false, rfl, fun h => by cases h⟩

theorem zero4 : ∀ w, (zeroValue 4).run Try.prog w = .ok (.bool false) w := (zero_of_info (P := Try.prog) (t := 4) (v := .bool false) (n := 1) (by kernel_rfl)).1

theorem isEmpty_no {s : ByteArray} (h : ¬ s = ByteArray.empty) : s.toList.isEmpty = false := by
  have h1 := beq_ne h
  have h2 : ByteArray.empty.toList = [] := by simp [ByteArray.toList, ByteArray.toList.loop]
  rw [h2] at h1
  cases hq : s.toList with
  | nil => rw [hq] at h1; simp at h1
  | cons x l => rfl
theorem isEmpty_yes : ByteArray.empty.toList.isEmpty = true := by
  have h2 : ByteArray.empty.toList = [] := by simp [ByteArray.toList, ByteArray.toList.loop]
  rw [h2]; rfl

set_option maxHeartbeats 1000000 in
theorem wellFormed_any {B : Nat} (ob : Nat) (F : Nat → Value) (os : Nat → Nat) (a : Option Addr) (n c : Nat) (ss : List ByteArray) (w : World) (hF : w.rowIs ob 29 16384 F) (hos : ∀ s, s < 16384 → F s = .int .u16 (os s : Nat)) (hob : ∀ s, s < 16384 → os s ≤ 65535) (h : Ss B w a n c ss) (hB : B ≤ w.heap.size) (hn : n ≤ 65536) :
    Calls Try.prog 12 #[.pointer (some ⟨ob, 0, none⟩), .slice a n c] w fun e w' => WfPost os n ss e ∧ Ext w w' := by
  have hmm := @run_makeMap Try.prog
  by_cases h0 : n = 0
  · subst h0
    go_enter Try.func12, Try.ntmps12
    go_wp2
    go_ret
    exact ⟨wf_no _ _ _, Ext.refl _⟩
  obtain ⟨b, off, rfl, hb, hc⟩ := h.cells (by omega)
  have g0 := hc 0 (by omega)
  rw [Nat.add_zero] at g0
  obtain ⟨s0, hs0⟩ : ∃ s, ss.getD 0 ByteArray.empty = s := ⟨_, rfl⟩
  rw [hs0] at g0
  have hF0 : Hid (w.rowIs ob 29 16384 F) := hF
  have HC : Hid (∀ i, i < n → w.cell? ⟨b, off + i, none⟩ = some (.string (ss.getD i ByteArray.empty))) := hc
  have HO : Hid (∀ s, s < 16384 → F s = .int .u16 (os s : Nat)) := hos
  have HS0 : Hid (ss.getD 0 ByteArray.empty = s0) := hs0
  have HOB : Hid (∀ s, s < 16384 → os s ≤ 65535) := hob
  clear hF hc hos hs0 h hob
  by_cases he : s0 = ByteArray.empty
  case neg =>
    have he' := isEmpty_no he
    go_enter Try.func12, Try.ntmps12
    go_wp2
    go_ret
    exact ⟨wf_no _ _ _, Ext.refl _⟩
  subst he
  have he' := isEmpty_yes
  go_enter Try.func12, Try.ntmps12
  go_wp2
  clear he' g0
  go_loopw [6] (fun i wr => ∃ k : Nat, 1 ≤ k ∧ k ≤ n ∧ i = .int .i64 k ∧ Ext w wr ∧ (∀ j, 1 ≤ j → j < k → ¬ ss.getD j ByteArray.empty = ByteArray.empty) ∧ ∃ M, SMap wr w.heap.size M ∧ ∀ x v, M x = some v → ∃ q : Bool, v = .bool q) (fun i _ => n - (intOf i).toNat)
  case atStart => exact ⟨1, Nat.le_refl _, by omega, rfl, (Ext.refl _).alloc _, fun j h1 h2 => absurd h2 (by omega), _, SMap.made w, fun x v hv => by cases hv⟩
  case round =>
    obtain ⟨k, hk1, hk, rfl, hx, hne, M, hM, hMb⟩ := hrel
    have HNE : Hid (∀ j, 1 ≤ j → j < k → ¬ ss.getD j ByteArray.empty = ByteArray.empty) := hne
    have HM : Hid (SMap wr w.heap.size M) := hM
    have HMb : Hid (∀ x v, M x = some v → ∃ q : Bool, v = .bool q) := hMb
    clear hne hM hMb
    by_cases hlt : k < n
    · have g := HC.out k hlt
      obtain ⟨s, hs⟩ : ∃ s, ss.getD k ByteArray.empty = s := ⟨_, rfl⟩
      rw [hs] at g
      rw [← hx.cell (p := ⟨b, off + k, none⟩) (show b < w.heap.size by omega)] at g
      have HS : Hid (ss.getD k ByteArray.empty = s) := hs
      clear hs
      by_cases hse : s = ByteArray.empty
      · subst hse
        have he' := isEmpty_yes
        go_wp2
        go_ret
        exact ⟨wf_no _ _ _, hx⟩
      · have he' := isEmpty_no hse
        obtain ⟨q, hq⟩ : ∃ q : Bool, (M s).getD (.bool false) = .bool q := by
          cases hMs : M s with
          | none => exact ⟨false, rfl⟩
          | some v =>
            obtain ⟨q, rfl⟩ := HMb.out s v hMs
            exact ⟨q, rfl⟩
        have hlk := run_lookup_str (P := Try.prog) HM.out 33 9 4 (.bool false) s Try.underlying33 Try.underlying9 zero4
        rw [hq] at hlk
        cases q with
        | true =>
          go_wp2
          go_ret
          exact ⟨wf_no _ _ _, hx⟩
        | false =>
          obtain ⟨w1, hup, hM1, ht⟩ := run_update_str (P := Try.prog) HM.out 33 9 4 s (.bool true) Try.underlying33 Try.underlying9
          have HM1 : Hid (SMap w1 w.heap.size (fun k' => if (k' == s) = true then some (.bool true) else M k')) := hM1
          clear hM1
          go_wp2
          go_roundw
          case rel =>
            refine ⟨k + 1, by omega, by omega, by go_num, Below.trans hx (ht.below (Nat.le_refl _)), fun j h1 h2 => ?_, _, HM1.out, fun x v hv => ?_⟩
            · by_cases hjk : j < k
              · exact HNE.out j h1 hjk
              · have : j = k := by omega
                subst this
                rw [HS.out]
                exact hse
            · by_cases hxs : (x == s) = true
              · simp only [hxs, if_true] at hv
                exact ⟨true, by cases hv; rfl⟩
              · simp only [hxs] at hv
                exact HMb.out x v (by simpa using hv)
          case measure => simp [intOf]; omega
    · have hkn : n = k := by omega
      subst hkn
      clear HMb HM
      go_wp2
      go_loop [7] (fun i => ∃ k : Nat, k ≤ 16384 ∧ i = .int .i64 k ∧ ∀ s, s < k → os s < n) (fun i => 16384 - (intOf i).toNat)
      case atStart => exact ⟨0, by omega, rfl, fun s hs => absurd hs (by omega)⟩
      case round =>
        obtain ⟨j, hj, rfl, hjo⟩ := hrel
        have HJ : Hid (∀ s, s < j → os s < n) := hjo
        clear hjo
        by_cases hlt2 : j < 16384
        · have r0 := (rowIs_ext hF0.out hx).cell (i := j) hlt2
          rw [HO.out j hlt2] at r0
          have hpb := HOB.out j hlt2
          obtain ⟨p, hp⟩ : ∃ p, os j = p := ⟨_, rfl⟩
          rw [hp] at r0 hpb
          have HP : Hid (os j = p) := hp
          clear hp
          by_cases hon : p < n
          · go_wp2
            go_round
            case rel =>
              refine ⟨j + 1, by omega, by go_num, fun s hs => ?_⟩
              by_cases hsj : s < j
              · exact HJ.out s hsj
              · have : s = j := by omega
                subst this
                rw [HP.out]
                exact hon
            case measure => simp [intOf]; omega
          · go_wp2
            go_ret
            exact ⟨wf_no _ _ _, hx⟩
        · go_wp2
          go_ret
          exact ⟨⟨true, rfl, fun _ => ⟨by omega, HS0.out, HNE.out, fun s hs => HJ.out s (by omega)⟩⟩, hx⟩

end Go.Proofs.Qxb6608555a
