/-
  A path's name, in plain words; the walks of the path's functions.
-/
import Derived.Test.Qxb6608673aWalksA
import Derived.Deep.QuietTactic
import Derived.BigQuiet
namespace Go.Proofs.Qxb6608673a
open Go.RowKit
set_option maxRecDepth 100000

/-- A path that is read: of each step whether it is an entry, and its key. -/
structure Ps (B : Nat) (w : World) (a : Option Addr) (n c : Nat) (en : Nat → Bool) (ky : Nat → ByteArray) : Prop where
  cap : n ≤ c
  nil : a = none → n = 0 ∧ c = 0
  cells : 0 < n → ∃ b off, a = some ⟨b, off, none⟩ ∧ b < B ∧ ∀ i, i < n → (∃ z, w.cell? ⟨b, off + i * 4, none⟩ = some (.int .i64 z)) ∧ w.cell? ⟨b, off + i * 4 + 1, none⟩ = some (.bool (en i)) ∧ (∃ z, w.cell? ⟨b, off + i * 4 + 2, none⟩ = some (.int .i64 z)) ∧ w.cell? ⟨b, off + i * 4 + 3, none⟩ = some (.string (ky i))
theorem Ps.below {B B' : Nat} {w w' : World} {a : Option Addr} {n c : Nat} {en : Nat → Bool} {ky : Nat → ByteArray} (h : Ps B w a n c en ky) (e : Below B' w w') (hb : B ≤ B') : Ps B w' a n c en ky :=
  ⟨h.cap, h.nil, fun hn => by
    obtain ⟨b, off, ha, hb1, hc⟩ := h.cells hn
    refine ⟨b, off, ha, hb1, fun i hi => ?_⟩
    rw [e.cell (p := ⟨b, off + i * 4, none⟩) (show b < B' by omega), e.cell (p := ⟨b, off + i * 4 + 1, none⟩) (show b < B' by omega), e.cell (p := ⟨b, off + i * 4 + 2, none⟩) (show b < B' by omega), e.cell (p := ⟨b, off + i * 4 + 3, none⟩) (show b < B' by omega)]
    exact hc i hi⟩

/-- What stands ahead of step k. -/
def ahead (en : Nat → Bool) (k : Nat) : List UInt8 := if k = 0 then [] else if en (k - 1) = true then [58, 32] else [46]
/-- The name of the first n steps. -/
def nm (en : Nat → Bool) (ky : Nat → ByteArray) : Nat → List UInt8
  | 0 => []
  | k + 1 => nm en ky k ++ (ahead en k ++ (ky k).data.toList)
/-- The sum that the law bounds. -/
def tot (ky : Nat → ByteArray) : Nat → Nat
  | 0 => 0
  | k + 1 => tot ky k + (40 + (ky k).size)
theorem ahead_le (en : Nat → Bool) (k : Nat) : (ahead en k).length ≤ 2 := by
  unfold ahead
  split
  · simp
  · split <;> simp
theorem nm_le (en : Nat → Bool) (ky : Nat → ByteArray) : ∀ k, (nm en ky k).length ≤ tot ky k
  | 0 => by simp [nm, tot]
  | k + 1 => by
    have h1 := nm_le en ky k
    have h2 := ahead_le en k
    have h3 : (ky k).data.toList.length = (ky k).size := by rw [Array.length_toList]; rfl
    simp only [nm, tot, List.length_append, h3]
    omega
theorem tot_mono (ky : Nat → ByteArray) (k : Nat) : ∀ m, tot ky k ≤ tot ky (k + m)
  | 0 => Nat.le_refl _
  | m + 1 => by
    have := tot_mono ky k m
    show _ ≤ tot ky (k + m) + _
    omega
theorem tot_shift (ky : Nat → ByteArray) (k : Nat) : ∀ m, tot (fun i => ky (k + i)) m ≤ tot ky (k + m)
  | 0 => Nat.zero_le _
  | m + 1 => by
    have := tot_shift ky k m
    show tot (fun i => ky (k + i)) m + (40 + (ky (k + m)).size) ≤ tot ky (k + m) + (40 + (ky (k + m)).size)
    omega
/-- The law, in plain words: a cut at k. -/
theorem nm_cut (en : Nat → Bool) (ky : Nat → ByteArray) (k : Nat) : ∀ m, nm en ky (k + m) = nm en ky k ++ ((if m = 0 then [] else ahead en k) ++ nm (fun i => en (k + i)) (fun i => ky (k + i)) m)
  | 0 => by simp [nm]
  | m + 1 => by
    have ih := nm_cut en ky k m
    show nm en ky (k + m) ++ (ahead en (k + m) ++ (ky (k + m)).data.toList) = _
    rw [ih]
    cases m with
    | zero => simp [nm, ahead]
    | succ m =>
      have h1 : ahead en (k + (m + 1)) = ahead (fun i => en (k + i)) (m + 1) := by
        have h2 : k + (m + 1) - 1 = k + (m + 1 - 1) := by omega
        unfold ahead
        rw [if_neg (show ¬ k + (m + 1) = 0 by omega), if_neg (show ¬ m + 1 = 0 by omega), h2]
      rw [h1]
      simp [nm, List.append_assoc]
      
/-! ### The walks -/
set_option maxHeartbeats 400000 in
theorem byKey_any {B : Nat} (b off n c : Nat) (en : Nat → Bool) (ky : Nat → ByteArray) (k : Nat) (w : World) (h : Ps B w (some ⟨b, off, none⟩) n c en ky) (hk : k < n) (hn : n ≤ 1048576) :
    Calls Try.prog 9 #[.slice (some ⟨b, off, none⟩) (k + 1) c] w fun e w' => e = .returned (.string (ky k)) ∧ w' = w := by
  obtain ⟨b', off', ha, hb, hc⟩ := h.cells (by omega)
  cases ha
  obtain ⟨g0, g1, g2, g3⟩ := hc k hk
  obtain ⟨x, hx⟩ : ∃ x, ky k = x := ⟨_, rfl⟩
  rw [hx] at g3 ⊢
  clear hc hx
  have e1 : ((k + 1 : Nat) : Int) - 1 = k := by omega
  go_enter Try.func9, Try.ntmps9
  go_wp2
  go_ret
  exact ⟨rfl, rfl⟩

theorem byte_append (l m : List UInt8) : Lib.byteCells (l ++ m) = Lib.byteCells l ++ Lib.byteCells m := by simp [Lib.byteCells]
theorem str_byte (s : ByteArray) : Lib.strCells s = Lib.byteCells s.data.toList := rfl

set_option maxHeartbeats 2000000 in
theorem name_any {B : Nat} (a : Option Addr) (n c : Nat) (en : Nat → Bool) (ky : Nat → ByteArray) (w : World) (h : Ps B w a n c en ky) (hB : B ≤ w.heap.size) (hn : n ≤ 1048576) (ht : tot ky n ≤ 1048576) :
    Calls Try.prog 8 #[.slice a n c, .func (.func 9) #[] #[]] w fun e w' => e = .returned (.string ⟨(nm en ky n).toArray⟩) ∧ Below w.heap.size w w' := by
  have HP : Hid (Ps B w a n c en ky) := h
  clear h
  have HT : Hid (tot ky n ≤ 1048576) := ht
  clear ht
  go_enter Try.func8, Try.ntmps8
  go_wp2
  go_loopw [6, 9] (fun _ i wr => ∃ k : Nat, k ≤ n ∧ i = .int .i64 k ∧ Lib.IsBuilder 35 5 w.heap.size w.heap.size (Lib.byteCells (nm en ky k)) wr ∧ Below w.heap.size w wr) (fun _ i _ => n - (intOf i).toNat)
  case atStart => exact ⟨0, by omega, rfl, Lib.fresh_isBuilder 35 5 w, (Below.refl _ w).alloc (Nat.le_refl _) _⟩
  case round =>
    obtain ⟨k, hk, rfl, hI, hbw⟩ := hrel
    have HI : Hid (Lib.IsBuilder 35 5 w.heap.size w.heap.size (Lib.byteCells (nm en ky k)) wr) := hI
    have HBW : Hid (Below w.heap.size w wr) := hbw
    clear hI hbw
    by_cases hlt : k < n
    · obtain ⟨b, off, ha, hb, hc⟩ := (HP.out.below HBW.out hB).cells (by omega)
      subst ha
      have hcap := HP.out.cap
      have HL : Hid ((nm en ky k).length + ((ahead en k).length + (ky k).size) ≤ 1048576) := by
        have h1 := nm_le en ky (k + 1)
        have h2 : tot ky (k + 1) ≤ tot ky n := by
          have := tot_mono ky (k + 1) (n - (k + 1))
          rwa [show k + 1 + (n - (k + 1)) = n by omega] at this
        have h3 : (ky k).data.toList.length = (ky k).size := by rw [Array.length_toList]; rfl
        have h4 := HT.out
        simp only [nm, List.length_append, h3] at h1
        show _ ≤ _
        omega
      have h1k : (0 : Int) ≤ (k : Int) + 1 := by omega
      have h2k : (k : Int) + 1 ≤ (c : Int) := by omega
      cases k with
      | zero =>
        go_wp2_with (first
          | (go_at_call 9; refine (byKey_any b off n c en ky 0 _ (HP.out.below HBW.out hB) hlt hn).mono ?_; rintro e w' ⟨rfl, hw⟩; rw [hw]; clear hw w')
          | (go_at_call 10; refine (writeString_any w.heap.size w.heap.size _ _ _ HI.out (by have := HL.out; rw [Lib.byteCells_length]; omega) HBW.out.size).mono ?_; rintro e w1 ⟨rfl, i1, b1⟩))
        refine ⟨⟨1, by omega, rfl, ?_, HBW.out.trans b1⟩, by simp [intOf]; omega⟩
        rw [show nm en ky 1 = nm en ky 0 ++ (ahead en 0 ++ (ky 0).data.toList) from rfl, byte_append, byte_append, ← str_byte]
        simpa [ahead, Lib.byteCells] using i1
      | succ j =>
        obtain ⟨-, g1, -, -⟩ := hc j (by omega)
        have e1 : ((j + 1 : Nat) : Int) - 1 = j := by omega
        have e2 : (((j + 1 : Nat) : Int) == 0) = false := by simp; omega
        have HA : Hid (ahead en (j + 1) = if en j = true then [58, 32] else [46]) := by
          show ahead en (j + 1) = _
          unfold ahead
          rw [if_neg (show ¬ j + 1 = 0 by omega)]
          rfl
        have fin : ∀ w2, Lib.IsBuilder 35 5 w.heap.size w.heap.size ((Lib.byteCells (nm en ky (j + 1)) ++ Lib.byteCells (ahead en (j + 1))) ++ Lib.strCells (ky (j + 1))) w2 → Lib.IsBuilder 35 5 w.heap.size w.heap.size (Lib.byteCells (nm en ky (j + 2))) w2 := fun w2 h2 => by
          rw [show nm en ky (j + 2) = nm en ky (j + 1) ++ (ahead en (j + 1) ++ (ky (j + 1)).data.toList) from rfl, byte_append, byte_append, ← str_byte, ← List.append_assoc]
          exact h2
        have FIN : Hid (∀ w2, Lib.IsBuilder 35 5 w.heap.size w.heap.size ((Lib.byteCells (nm en ky (j + 1)) ++ Lib.byteCells (ahead en (j + 1))) ++ Lib.strCells (ky (j + 1))) w2 → Lib.IsBuilder 35 5 w.heap.size w.heap.size (Lib.byteCells (nm en ky (j + 2))) w2) := fin
        clear fin hc
        cases hen : en j with
        | true =>
          rw [hen] at g1
          have HA2 : Hid (ahead en (j + 1) = [58, 32]) := by rw [HA.out, hen]; rfl
          have HL2 : Hid ((nm en ky (j + 1)).length + 2 + (ky (j + 1)).size ≤ 1048576) := by have := HL.out; rw [HA2.out] at this; simp at this; show _ ≤ _; omega
          clear hen HA HL
          have NOTYET : True := trivial
          go_wp2_with (first
            | (go_at_call 9; refine (byKey_any b off n c en ky (j + 1) _ ((HP.out.below HBW.out hB).below b1 hB) hlt hn).mono ?_; rintro e w' ⟨rfl, hw⟩; rw [hw]; clear hw w')
            | (go_at_call 10; clear NOTYET; refine (writeString_any w.heap.size w.heap.size _ _ _ HI.out (by have := HL2.out; rw [Lib.byteCells_length]; show _ + 2 ≤ _; omega) HBW.out.size).mono ?_; rintro e w1 ⟨rfl, i1, b1⟩)
            | (go_at_call 10; refine (writeString_any w.heap.size w.heap.size _ _ _ i1 (by have := HL2.out; rw [List.length_append, Lib.byteCells_length]; show _ + 2 + _ ≤ _; omega) (Nat.le_trans HBW.out.size b1.size)).mono ?_; rintro e w2 ⟨rfl, i2, b2⟩))
          go_roundw
          case rel => exact ⟨j + 2, by omega, by go_num, FIN.out _ (by rw [HA2.out]; exact i2), (HBW.out.trans b1).trans b2⟩
          case measure => simp [intOf]; omega
        | false =>
          rw [hen] at g1
          have HA2 : Hid (ahead en (j + 1) = [46]) := by rw [HA.out, hen]; rfl
          have HL2 : Hid ((nm en ky (j + 1)).length + 1 + (ky (j + 1)).size ≤ 1048576) := by have := HL.out; rw [HA2.out] at this; simp at this; show _ ≤ _; omega
          clear hen HA HL
          have NOTYET : True := trivial
          go_wp2_with (first
            | (go_at_call 9; refine (byKey_any b off n c en ky (j + 1) _ ((HP.out.below HBW.out hB).below b1 hB) hlt hn).mono ?_; rintro e w' ⟨rfl, hw⟩; rw [hw]; clear hw w')
            | (go_at_call 10; clear NOTYET; refine (writeString_any w.heap.size w.heap.size _ _ _ HI.out (by have := HL2.out; rw [Lib.byteCells_length]; show _ + 1 ≤ _; omega) HBW.out.size).mono ?_; rintro e w1 ⟨rfl, i1, b1⟩)
            | (go_at_call 10; refine (writeString_any w.heap.size w.heap.size _ _ _ i1 (by have := HL2.out; rw [List.length_append, Lib.byteCells_length]; show _ + 1 + _ ≤ _; omega) (Nat.le_trans HBW.out.size b1.size)).mono ?_; rintro e w2 ⟨rfl, i2, b2⟩))
          go_roundw
          case rel => exact ⟨j + 2, by omega, by go_num, FIN.out _ (by rw [HA2.out]; exact i2), (HBW.out.trans b1).trans b2⟩
          case measure => simp [intOf]; omega
    · have hkn : k = n := by omega
      go_wp2_with (go_at_call 11; refine (Try.Builder_String_any w.heap.size w.heap.size (nm en ky k) _ HI.out HBW.out.size).mono ?_; rintro e w1 ⟨rfl, b1⟩)
      go_ret
      exact ⟨rfl, HBW.out.trans b1⟩

set_option maxHeartbeats 400000 in
theorem nameByKey_any {B : Nat} (a : Option Addr) (n c : Nat) (en : Nat → Bool) (ky : Nat → ByteArray) (w : World) (h : Ps B w a n c en ky) (hB : B ≤ w.heap.size) (hn : n ≤ 1048576) (ht : tot ky n ≤ 1048576) :
    Calls Try.prog 6 #[.slice a n c] w fun e w' => e = .returned (.string ⟨(nm en ky n).toArray⟩) ∧ Below w.heap.size w w' := by
  go_enter Try.func6, Try.ntmps6
  go_wp2_with (go_at_call 8; refine (name_any a n c en ky _ h hB hn ht).mono ?_; rintro e w1 ⟨rfl, b1⟩)
  go_ret
  exact ⟨rfl, b1⟩

set_option maxHeartbeats 400000 in
theorem afterStep_any (z y : Int) (e : Bool) (s : ByteArray) (w : World) :
    Calls Try.prog 7 #[.agg #[.int .i64 z, .bool e, .int .i64 y, .string s]] w fun e' w' => e' = .returned (.string (if e = true then ⟨#[58, 32]⟩ else ⟨#[46]⟩)) ∧ Below w.heap.size w w' := by
  cases e with
  | true =>
    go_enter Try.func7, Try.ntmps7
    go_wp2
    go_ret
    exact ⟨rfl, (Below.refl _ w).alloc (Nat.le_refl _) _⟩
  | false =>
    go_enter Try.func7, Try.ntmps7
    go_wp2
    go_ret
    exact ⟨rfl, (Below.refl _ w).alloc (Nat.le_refl _) _⟩

/-- A number; where it is small so is the sum. -/
def PbPost (T : Nat) (e : Ending) : Prop := ∃ r : Int, e = .returned (.int .i64 r) ∧ (r ≤ 1048576 → T ≤ 1048576)
set_option maxHeartbeats 400000 in
theorem pathBytes_any {B : Nat} (a : Option Addr) (n c : Nat) (en : Nat → Bool) (ky : Nat → ByteArray) (w : World) (h : Ps B w a n c en ky) (hn : n ≤ 1048576) :
    Calls Try.prog 5 #[.slice a n c] w fun e w' => PbPost (tot ky n) e ∧ w' = w := by
  have HP : Hid (Ps B w a n c en ky) := h
  clear h
  go_enter Try.func5, Try.ntmps5
  go_wp2
  go_loop [3, 4] (fun z i => ∃ k : Nat, k ≤ n ∧ i = .int .i64 k ∧ z = .int .i64 (tot ky k : Nat) ∧ tot ky k ≤ 1048576) (fun _ i => n - (intOf i).toNat)
  case atStart => exact ⟨0, by omega, rfl, rfl, by simp [tot]⟩
  case round =>
    obtain ⟨k, hk, rfl, rfl, ht⟩ := hrel
    by_cases hlt : k < n
    · obtain ⟨b, off, ha, hb, hc⟩ := HP.out.cells (by omega)
      subst ha
      obtain ⟨-, -, -, g3⟩ := hc k hlt
      have HS : Hid (tot ky (k + 1) = tot ky k + (40 + (ky k).size)) := rfl
      have HM : Hid (tot ky (k + 1) ≤ tot ky n) := by
        have := tot_mono ky (k + 1) (n - (k + 1))
        rwa [show k + 1 + (n - (k + 1)) = n by omega] at this
      obtain ⟨T, hT⟩ : ∃ T, tot ky k = T := ⟨_, rfl⟩
      rw [hT] at HS ht
      simp only [hT]
      obtain ⟨x, hx⟩ : ∃ x, ky k = x := ⟨_, rfl⟩
      rw [hx] at g3 HS
      clear hc hx hT
      by_cases t1 : (1048576 : Int) < x.size
      · go_wp2
        go_ret
        exact ⟨⟨_, rfl, fun h => by omega⟩, rfl⟩
      · by_cases t2 : (1048576 : Int) < (T : Int) + (40 + x.size)
        · go_wp2
          go_ret
          exact ⟨⟨_, rfl, fun h => by omega⟩, rfl⟩
        · go_wp2
          go_round
          case rel => exact ⟨k + 1, by omega, by go_num, by rw [HS.out]; go_num, by rw [HS.out]; omega⟩
          case measure => simp [intOf]; omega
    · have hkn : k = n := by omega
      subst hkn
      go_wp2
      go_ret
      exact ⟨⟨_, rfl, fun _ => ht⟩, rfl⟩

/-- A bool; where it is true the path is short. -/
def ZzPost (n : Nat) (e : Ending) : Prop := ∃ r : Bool, e = .returned (.bool r) ∧ (r = true → n ≤ 1048576)
theorem zz_no (n : Nat) : ZzPost n (.returned (.bool false)) := ⟨false, rfl, fun h => by cases h⟩
theorem zz_yes {n : Nat} (h : n ≤ 1048576) : ZzPost n (.returned (.bool true)) := ⟨true, rfl, fun _ => h⟩
set_option maxHeartbeats 400000 in
theorem zzBytes_any {B : Nat} (a : Option Addr) (n c : Nat) (q : Int) (en : Nat → Bool) (ky : Nat → ByteArray) (w : World) (h : Ps B w a n c en ky) :
    Calls Try.prog 4 #[.slice a n c, .int .i64 q] w fun e w' => ZzPost n e ∧ w' = w := by
  have HP : Hid (Ps B w a n c en ky) := h
  clear h
  by_cases t0 : (1048576 : Int) < n
  · go_enter Try.func4, Try.ntmps4
    go_wp2
    go_ret
    exact ⟨zz_no n, rfl⟩
  have hn : n ≤ 1048576 := by omega
  go_enter Try.func4, Try.ntmps4
  go_wp2
  go_loop [5, 6] (fun z i => (∃ r, z = .int .i64 r) ∧ ∃ k : Nat, k ≤ n ∧ i = .int .i64 k) (fun _ i => n - (intOf i).toNat)
  case atStart => exact ⟨⟨_, rfl⟩, 0, Nat.zero_le _, rfl⟩
  case round =>
    obtain ⟨⟨r, rfl⟩, k, hk, rfl⟩ := hrel
    by_cases hlt : k < n
    · obtain ⟨b, off, ha, hb, hc⟩ := HP.out.cells (by omega)
      subst ha
      obtain ⟨-, -, -, g3⟩ := hc k hlt
      obtain ⟨x, hx⟩ : ∃ x, ky k = x := ⟨_, rfl⟩
      rw [hx] at g3
      clear hc hx
      go_wp2
      all_goals first
        | (go_ret; exact ⟨zz_no n, rfl⟩)
        | skip
      go_round
      case rel => exact ⟨⟨_, rfl⟩, k + 1, by omega, by go_num⟩
      case measure => simp [intOf]; omega
    · go_wp2
      go_ret
      exact ⟨zz_yes hn, rfl⟩
end Go.Proofs.Qxb6608673a
