/-
  Slices of strings: zzAddStrings, zzCloneStrings, zzEqualStrings, slices.Index, the measure.
-/
import Derived.Test.Qxb6608555aWalksA
namespace Go.Proofs.Qxb6608555a
open Go.RowKit
set_option maxRecDepth 100000

theorem beq_ne {x s : ByteArray} (h : ¬ x = s) : (x.toList == s.toList) = false := by
  rw [← beq_toListBytes]
  cases hq : (x == s) with
  | false => rfl
  | true => exact absurd (beq_bytes hq) h
theorem beq_eq (s : ByteArray) : (s.toList == s.toList) = true := by simp

set_option maxHeartbeats 400000 in
theorem addStrings_any {B : Nat} (t : Int) (a : Option Addr) (n c : Nat) (ss : List ByteArray) (w : World) (h : Ss B w a n c ss) (hn : n ≤ 65536) :
    Calls Try.prog 7 #[.int .i64 t, .slice a n c] w fun e w' => (∃ r, e = .returned (.int .i64 r)) ∧ w' = w := by
  go_enter Try.func7, Try.ntmps7
  go_wp2
  go_loop [0, 5] (fun z i => (∃ r, z = .int .i64 r) ∧ ∃ k : Nat, k ≤ n ∧ i = .int .i64 k) (fun _ i => n - (intOf i).toNat)
  case atStart => exact ⟨⟨_, rfl⟩, 0, Nat.zero_le _, rfl⟩
  case round =>
    obtain ⟨⟨r, rfl⟩, k, hk, rfl⟩ := hrel
    by_cases hlt : k < n
    · obtain ⟨b, off, rfl, hb, hc⟩ := h.cells (by omega)
      have g := hc k hlt
      obtain ⟨s, hs⟩ : ∃ s, ss.getD k ByteArray.empty = s := ⟨_, rfl⟩
      rw [hs] at g
      clear hc hs h
      by_cases t1 : (1048576 : Int) < r
      · go_wp2
        go_ret
        exact ⟨⟨_, rfl⟩, rfl⟩
      · by_cases t2 : (1048576 : Int) < s.size
        · go_wp2
          go_ret
          exact ⟨⟨_, rfl⟩, rfl⟩
        · go_wp2
          go_round
          case rel => exact ⟨⟨_, rfl⟩, k + 1, by omega, by go_num⟩
          case measure => simp [intOf]; omega
    · go_wp2
      go_ret
      exact ⟨⟨_, rfl⟩, rfl⟩

theorem Try.info9 : (Try.prog.info? 9).map (fun i => (i.zero, i.size, i.bytes)) = some (some (.string ByteArray.empty), 1, 16) := by kernel_rfl

set_option maxHeartbeats 400000 in
theorem cloneStrings_any {B : Nat} (a : Option Addr) (n c : Nat) (ss : List ByteArray) (w : World) (h : Ss B w a n c ss) (hn : n ≤ 65536) (hB : B ≤ w.heap.size) :
    Calls Try.prog 14 #[.slice a n c] w fun e w' => ∃ a', e = .returned (.slice a' n n) ∧ Ss w'.heap.size w' a' n n ss ∧ Ext w w' := by
  have hnil := fun (w : World) => Lib.run_eql_slice_nil (P := Try.prog) w 23 9 a n c 0 0 Try.underlying23
  cases a with
  | none =>
    obtain ⟨rfl, rfl⟩ := h.nil rfl
    go_enter Try.func14, Try.ntmps14
    go_wp2
    go_ret
    exact ⟨none, rfl, ⟨h.len, h.cap, h.nil, fun h0 => absurd h0 (by omega)⟩, Ext.refl _⟩
  | some ad =>
    have hmk := run_make_row' (P := Try.prog) 23 9 (.string ByteArray.empty) 16 Try.underlying23 Try.info9 rfl .i64 .i64 n (by omega) (by omega)
    go_enter Try.func14, Try.ntmps14
    go_wp2
    go_loopw [4] (fun i wr => ∃ k : Nat, k ≤ n ∧ i = .int .i64 k ∧ Ext w wr ∧ ∃ F, wr.rowIs w.heap.size 9 n F ∧ ∀ j, j < k → F j = .string (ss.getD j ByteArray.empty)) (fun i _ => n - (intOf i).toNat)
    case atStart => exact ⟨0, Nat.zero_le _, rfl, (Ext.refl _).alloc _, _, World.rowIs_made w _ n 9, fun j hj => absurd hj (by omega)⟩
    case round =>
      obtain ⟨k, hk, rfl, hx, F, hF, hFk⟩ := hrel
      by_cases hlt : k < n
      · obtain ⟨b, off, ha, hb, hc⟩ := (h.below hx hB).cells (by omega)
        cases ha
        have g := hc k hlt
        have r0 := hF.cell (i := k) hlt
        have f0 := hF.frozen k
        obtain ⟨s, hs⟩ : ∃ s, ss.getD k ByteArray.empty = s := ⟨_, rfl⟩
        rw [hs] at g
        have HS : Hid (ss.getD k ByteArray.empty = s) := hs
        have HF : Hid (wr.rowIs w.heap.size 9 n F) := hF
        have HK : Hid (∀ j, j < k → F j = .string (ss.getD j ByteArray.empty)) := hFk
        clear hc hs hF hFk
        go_wp2
        go_roundw
        case rel =>
          refine ⟨k + 1, by omega, by go_num, hx.setCell (by simp) _, _, HF.out.set k _, fun j hj => ?_⟩
          by_cases hjk : j = k
          · subst hjk
            simp only [if_pos]
            rw [HS.out]
          · simp only [if_neg hjk]
            exact HK.out j (by omega)
        case measure => simp [intOf]; omega
      · have hkn : n = k := by omega
        subst hkn
        have HF : Hid (wr.rowIs w.heap.size 9 n F) := hF
        have HK : Hid (∀ j, j < n → F j = .string (ss.getD j ByteArray.empty)) := hFk
        clear hF hFk
        go_wp2
        go_ret
        refine ⟨_, rfl, ⟨h.len, Nat.le_refl _, fun e => (by cases e), fun h0 => ⟨_, 0, rfl, HF.out.lt, fun i hi => ?_⟩⟩, hx⟩
        rw [Nat.zero_add, HF.out.cell (i := i) hi, HK.out i hi]

set_option maxHeartbeats 400000 in
theorem equalStrings_same {B B' : Nat} (a b : Option Addr) (n c d : Nat) (ss : List ByteArray) (w : World) (h : Ss B w a n c ss) (k : Ss B' w b n d ss) (hB : B ≤ w.heap.size) (hB' : B' ≤ w.heap.size) (hn : n ≤ 65536) :
    Calls Try.prog 16 #[.slice a n c, .slice b n d] w fun e w' => e = .returned (.bool true) ∧ Ext w w' := by
  have e0 : ((n : Int) != (n : Int)) = false := by simp
  go_enter Try.func16, Try.ntmps16
  go_wp2
  go_loopw [5] (fun i wr => ∃ j : Nat, j ≤ n ∧ i = .int .i64 j ∧ Ext w wr) (fun i _ => n - (intOf i).toNat)
  case atStart => exact ⟨0, Nat.zero_le _, rfl, Ext.refl _⟩
  case round =>
    obtain ⟨j, hj, rfl, hx⟩ := hrel
    by_cases hlt : j < n
    · obtain ⟨b1, off1, rfl, -, hc1⟩ := (h.below hx hB).cells (by omega)
      obtain ⟨b2, off2, rfl, -, hc2⟩ := (k.below hx hB').cells (by omega)
      have g1 := hc1 j hlt
      have g2 := hc2 j hlt
      obtain ⟨s, hs⟩ : ∃ s, ss.getD j ByteArray.empty = s := ⟨_, rfl⟩
      rw [hs] at g1 g2
      clear hc1 hc2 hs
      go_wp2
      go_quiet (fail)
      go_wp2
      go_roundw
      case rel => exact ⟨j + 1, by omega, by go_num, hx.drewN _⟩
      case measure => simp [intOf]; omega
    · go_wp2
      go_ret
      exact ⟨rfl, hx⟩

set_option maxHeartbeats 400000 in
theorem index_any {B : Nat} (a : Option Addr) (n c : Nat) (ss : List ByteArray) (x : ByteArray) (w : World) (h : Ss B w a n c ss) (hn : n ≤ 65536) :
    Calls Try.prog 29 #[.slice a n c, .string x] w fun e w' => (e = .returned (.int .i64 (-1)) ∨ ∃ k : Nat, k < n ∧ ss.getD k ByteArray.empty = x ∧ e = .returned (.int .i64 k)) ∧ w' = w := by
  go_enter Try.func29, Try.ntmps29
  go_wp2
  go_loop [8] (fun i => ∃ k : Nat, k ≤ n ∧ i = .int .i64 k) (fun i => n - (intOf i).toNat)
  case atStart => exact ⟨0, Nat.zero_le _, rfl⟩
  case round =>
    obtain ⟨k, hk, rfl⟩ := hrel
    by_cases hlt : k < n
    · obtain ⟨b, off, rfl, hb, hc⟩ := h.cells (by omega)
      have g := hc k hlt
      obtain ⟨s, hs⟩ : ∃ s, ss.getD k ByteArray.empty = s := ⟨_, rfl⟩
      rw [hs] at g
      have HS : Hid (ss.getD k ByteArray.empty = s) := hs
      clear hc hs h
      by_cases hxs : x = s
      · subst hxs
        go_wp2
        go_ret
        exact ⟨.inr ⟨k, hlt, HS.out, rfl⟩, rfl⟩
      · have hq : (x.toList == s.toList) = false := beq_ne hxs
        go_wp2
        go_round
        case rel => exact ⟨k + 1, by omega, by go_num⟩
        case measure => simp [intOf]; omega
    · go_wp2
      go_ret
      exact ⟨.inl rfl, rfl⟩

/-- A bool, whichever. -/
def SomeBool (e : Ending) : Prop := ∃ r : Bool, e = .returned (.bool r)

set_option maxHeartbeats 1000000 in
theorem zzBytes_any {B : Nat} (xs : Array Value) (a1 a2 a3 : Option Addr) (n1 c1 n2 c2 n3 c3 : Nat) (ss1 ss3 : List ByteArray) (w : World) (hB : B ≤ w.heap.size) (h1 : Ss B w a1 n1 c1 ss1) (h3 : Ss B w a3 n3 c3 ss3) (b1 : n1 ≤ 140737488355328) (b3 : n3 ≤ 140737488355328) :
    Calls Try.prog 17 #[.agg xs, .slice a1 n1 c1, .slice a2 n2 c2, .slice a3 n3 c3] w fun e w' => SomeBool e ∧ Ext w w' := by
  have H1 : Hid (Ss B w a1 n1 c1 ss1) := h1
  have H3 : Hid (Ss B w a3 n3 c3 ss3) := h3
  clear h1 h3
  go_enter Try.func17, Try.ntmps17
  go_wp2
  all_goals first | (go_ret; exact ⟨⟨_, rfl⟩, (Ext.refl _).alloc _⟩) | skip
  go_loop [9, 10] (fun z i => (∃ r, z = .int .i64 r) ∧ ∃ k : Nat, k ≤ n1 ∧ i = .int .i64 k) (fun _ i => n1 - (intOf i).toNat)
  case atStart => exact ⟨⟨_, rfl⟩, 0, Nat.zero_le _, rfl⟩
  case round =>
    obtain ⟨⟨r, rfl⟩, k, hk, rfl⟩ := hrel
    by_cases hlt : k < n1
    · obtain ⟨b, off, rfl, hb, hc⟩ := (H1.out.below ((Ext.refl w).alloc (.cells xs 29)) hB).cells (by omega)
      have g := hc k hlt
      obtain ⟨s, hs⟩ : ∃ s, ss1.getD k ByteArray.empty = s := ⟨_, rfl⟩
      rw [hs] at g
      clear hc hs
      go_wp2
      all_goals first | (go_ret; exact ⟨⟨_, rfl⟩, (Ext.refl _).alloc _⟩) | skip
      go_round
      case rel => exact ⟨⟨_, rfl⟩, k + 1, by omega, by go_num⟩
      case measure => simp [intOf]; omega
    · clear H1
      go_wp2
      all_goals first | (go_ret; exact ⟨⟨_, rfl⟩, (Ext.refl _).alloc _⟩) | skip
      clear hlt hk
      go_loop [9, 11] (fun z i => (∃ r, z = .int .i64 r) ∧ ∃ k : Nat, k ≤ n3 ∧ i = .int .i64 k) (fun _ i => n3 - (intOf i).toNat)
      case atStart => exact ⟨⟨_, rfl⟩, 0, Nat.zero_le _, rfl⟩
      case round =>
        obtain ⟨⟨r, rfl⟩, k, hk, rfl⟩ := hrel
        by_cases hlt : k < n3
        · obtain ⟨b, off, rfl, hb, hc⟩ := (H3.out.below ((Ext.refl w).alloc (.cells xs 29)) hB).cells (by omega)
          have g := hc k hlt
          obtain ⟨s, hs⟩ : ∃ s, ss3.getD k ByteArray.empty = s := ⟨_, rfl⟩
          rw [hs] at g
          clear hc hs
          go_wp2
          all_goals first | (go_ret; exact ⟨⟨_, rfl⟩, (Ext.refl _).alloc _⟩) | skip
          go_round
          case rel => exact ⟨⟨_, rfl⟩, k + 1, by omega, by go_num⟩
          case measure => simp [intOf]; omega
        · clear H3
          go_wp2
          all_goals first | (go_ret; exact ⟨⟨_, rfl⟩, (Ext.refl _).alloc _⟩) | skip

end Go.Proofs.Qxb6608555a
