/-
  A path's name, in plain words; the walks of the path's functions.
-/
import Derived.Test.Qxb6608673aFmtWalksB
import Derived.Deep.QuietTactic
import Derived.BigQuiet
namespace Go.Proofs.Qxb6608673aFmt
open Go.RowKit Go.Extern.Stop Go.Stop Go.Extern Go.Kit
set_option maxRecDepth 100000

/-- A path that is read: of each step its field, whether it is an entry, its index, its key. -/
structure Ps (B : Nat) (w : World) (a : Option Addr) (n c : Nat) (fd : Nat → Int) (en : Nat → Bool) (ix : Nat → Int) (ky : Nat → ByteArray) : Prop where
  cap : n ≤ c
  nil : a = none → n = 0 ∧ c = 0
  cells : 0 < n → ∃ b off, a = some ⟨b, off, none⟩ ∧ b < B ∧ ∀ i, i < n → w.cell? ⟨b, off + i * 4, none⟩ = some (.int .i64 (fd i)) ∧ w.cell? ⟨b, off + i * 4 + 1, none⟩ = some (.bool (en i)) ∧ w.cell? ⟨b, off + i * 4 + 2, none⟩ = some (.int .i64 (ix i)) ∧ w.cell? ⟨b, off + i * 4 + 3, none⟩ = some (.string (ky i))
theorem Ps.below {B B' : Nat} {w w' : World} {a : Option Addr} {n c : Nat} {fd : Nat → Int} {en : Nat → Bool} {ix : Nat → Int} {ky : Nat → ByteArray} (h : Ps B w a n c fd en ix ky) (e : Below B' w w') (hb : B ≤ B') : Ps B w' a n c fd en ix ky :=
  ⟨h.cap, h.nil, fun hn => by
    obtain ⟨b, off, ha, hb1, hc⟩ := h.cells hn
    refine ⟨b, off, ha, hb1, fun i hi => ?_⟩
    rw [e.cell (p := ⟨b, off + i * 4, none⟩) (show b < B' by omega), e.cell (p := ⟨b, off + i * 4 + 1, none⟩) (show b < B' by omega), e.cell (p := ⟨b, off + i * 4 + 2, none⟩) (show b < B' by omega), e.cell (p := ⟨b, off + i * 4 + 3, none⟩) (show b < B' by omega)]
    exact hc i hi⟩
theorem Ps.mono {B B' : Nat} {w : World} {a : Option Addr} {n c : Nat} {fd : Nat → Int} {en : Nat → Bool} {ix : Nat → Int} {ky : Nat → ByteArray} (h : Ps B w a n c fd en ix ky) (hb : B ≤ B') : Ps B' w a n c fd en ix ky :=
  ⟨h.cap, h.nil, fun hn => by
    obtain ⟨b, off, ha, hb1, hc⟩ := h.cells hn
    exact ⟨b, off, ha, by omega, hc⟩⟩

/-- What stands ahead of step k. -/
def ahead (en : Nat → Bool) (k : Nat) : List UInt8 := if k = 0 then [] else if en (k - 1) = true then [58, 32] else [46]
/-- The name of the first n steps. -/
def nm (en : Nat → Bool) (ky : Nat → ByteArray) : Nat → List UInt8
  | 0 => []
  | k + 1 => nm en ky k ++ (ahead en k ++ (ky k).data.toList)
/-- The sum that the law bounds. -/
def tot (ky : Nat → ByteArray) : Nat → Nat
  | 0 => 0
  | k + 1 => tot ky k + (40 + (ky k).size)
theorem ahead_le (en : Nat → Bool) (k : Nat) : (ahead en k).length ≤ 2 := by
  unfold ahead
  split
  · simp
  · split <;> simp
theorem nm_le (en : Nat → Bool) (ky : Nat → ByteArray) : ∀ k, (nm en ky k).length ≤ tot ky k
  | 0 => by simp [nm, tot]
  | k + 1 => by
    have h1 := nm_le en ky k
    have h2 := ahead_le en k
    have h3 : (ky k).data.toList.length = (ky k).size := by rw [Array.length_toList]; rfl
    simp only [nm, tot, List.length_append, h3]
    omega
theorem tot_mono (ky : Nat → ByteArray) (k : Nat) : ∀ m, tot ky k ≤ tot ky (k + m)
  | 0 => Nat.le_refl _
  | m + 1 => by
    have := tot_mono ky k m
    show _ ≤ tot ky (k + m) + _
    omega
theorem tot_le (st ky : Nat → ByteArray) (c : Nat) : ∀ n, (∀ k, k < n → (st k).size ≤ (ky k).size + c) → tot st n ≤ tot ky n + c * n
  | 0, _ => Nat.zero_le _
  | n + 1, h => by
    have h1 := tot_le st ky c n (fun k hk => h k (by omega))
    have h2 := h n (by omega)
    show tot st n + _ ≤ tot ky n + _ + c * (n + 1)
    rw [Nat.mul_add]
    omega
theorem tot_count (ky : Nat → ByteArray) : ∀ n, 40 * n ≤ tot ky n
  | 0 => Nat.le_refl _
  | n + 1 => by
    have := tot_count ky n
    show _ ≤ tot ky n + _
    omega
theorem tot_one (ky : Nat → ByteArray) (k n : Nat) (hk : k < n) : (ky k).size ≤ tot ky n := by
  have h1 := tot_mono ky (k + 1) (n - (k + 1))
  rw [show k + 1 + (n - (k + 1)) = n by omega] at h1
  have h2 : tot ky (k + 1) = tot ky k + (40 + (ky k).size) := rfl
  omega
theorem nm_empty (en : Nat → Bool) (st : Nat → ByteArray) (n : Nat) (hn : 0 < n) (h : ∀ k, k < n → 0 < (st k).size) : nm en st n ≠ [] := by
  obtain ⟨m, rfl⟩ : ∃ m, n = m + 1 := ⟨n - 1, by omega⟩
  have h1 := h m (by omega)
  have h3 : (st m).data.toList.length = (st m).size := by rw [Array.length_toList]; rfl
  have h5 : 0 < (nm en st (m + 1)).length := by
    simp only [nm, List.length_append, h3]
    omega
  intro e
  rw [e] at h5
  simp at h5

theorem own_kept {w w' : World} {lo e size n : Nat} {v : Value} {xs : List Value} (h : w.ownsRow lo e size v n xs) (x : Below w.heap.size w w') : w'.ownsRow lo e size v n xs :=
  h.kept (row := none) ⟨x.os, x.tape, x.output, x.size, fun k hk _ => x.block k hk⟩ (by cases v.ownBlock <;> simp)
/-- A builder stays one while new blocks are laid. -/
theorem builder_kept {T e B b : Nat} {bs : List Value} {w w' : World} (h : Lib.IsBuilder T e B b bs w) (x : Below w.heap.size w w') : Lib.IsBuilder T e B b bs w' := by
  rcases h with ⟨h1, v, h2, h3, h4⟩ | ⟨h1, v, h2, h3, h4⟩
  · exact .inl ⟨h1, v, (x.block b (Array.getElem?_eq_some_iff.1 h2).1).trans h2, own_kept h3 x, h4⟩
  · exact .inr ⟨h1, v, (x.block b (Array.getElem?_eq_some_iff.1 h2).1).trans h2, own_kept h3 x, h4⟩

/-! ### The walks -/
set_option maxHeartbeats 400000 in
theorem byKey_any {B : Nat} (b off n c : Nat) (fd : Nat → Int) (en : Nat → Bool) (ix : Nat → Int) (ky : Nat → ByteArray) (k : Nat) (w : World) (h : Ps B w (some ⟨b, off, none⟩) n c fd en ix ky) (hk : k < n) (hn : n ≤ 1048576) :
    Calls Tryf.prog 13 #[.slice (some ⟨b, off, none⟩) (k + 1) c] w fun e w' => e = .returned (.string (ky k)) ∧ Below w.heap.size w w' := by
  obtain ⟨b', off', ha, hb, hc⟩ := h.cells (by omega)
  cases ha
  obtain ⟨g0, g1, g2, g3⟩ := hc k hk
  obtain ⟨x, hx⟩ : ∃ x, ky k = x := ⟨_, rfl⟩
  rw [hx] at g3 ⊢
  clear hc hx
  have e1 : ((k + 1 : Nat) : Int) - 1 = k := by omega
  go_enter Tryf.func13, Tryf.ntmps13
  go_wp2
  go_ret
  exact ⟨rfl, Below.refl _ w⟩

set_option maxHeartbeats 400000 in
theorem inTypes_any {B : Nat} (F : Interp) (nf : Nat → ByteArray) (b off n c : Nat) (fd : Nat → Int) (en : Nat → Bool) (ix : Nat → Int) (ky : Nat → ByteArray) (k : Nat) (w : World) (hF : F.answers w.tape) (hT : Tab w nf) (h : Ps B w (some ⟨b, off, none⟩) n c fd en ix ky) (hk : k < n) (hn : n ≤ 1048576)
    (z1 : (fname F nf (fd k)).size ≤ 100) (z2 : (FmtStop.textOf (F "fmt.Sprintf" (readA (ix k)) 0)).size ≤ 100) (z3 : (ky k).size ≤ 1048576) :
    Calls Tryf.prog 12 #[.slice (some ⟨b, off, none⟩) (k + 1) c] w fun e w' => e = .returned (.string (pname F nf (fd k) (en k) (ix k) (ky k))) ∧ Below w.heap.size w w' := by
  obtain ⟨b', off', ha, hb, hc⟩ := h.cells (by omega)
  cases ha
  obtain ⟨g0, g1, g2, g3⟩ := hc k hk
  have HP := place_any F nf (fd k) (en k) (ix k) (ky k) w hF hT z1 z2 z3
  obtain ⟨S, hS⟩ : ∃ S, pname F nf (fd k) (en k) (ix k) (ky k) = S := ⟨_, rfl⟩
  rw [hS] at HP ⊢
  have HPP : Hid (Calls Tryf.prog 6 #[.agg #[.int .i64 (fd k), .bool (en k), .int .i64 (ix k), .string (ky k)]] w fun e w' => e = .returned (.string S) ∧ Below w.heap.size w w') := HP
  clear hc HP hS hT hF z1 z2 z3
  have e1 : ((k + 1 : Nat) : Int) - 1 = k := by omega
  go_enter Tryf.func12, Tryf.ntmps12
  go_wp2_with (go_at_call 6; refine HPP.out.mono ?_; rintro e w1 ⟨rfl, b1⟩)
  go_ret
  exact ⟨rfl, b1⟩

theorem byte_append (l m : List UInt8) : Lib.byteCells (l ++ m) = Lib.byteCells l ++ Lib.byteCells m := by simp [Lib.byteCells]
theorem str_byte (s : ByteArray) : Lib.strCells s = Lib.byteCells s.data.toList := rfl

set_option maxHeartbeats 2000000 in
theorem name12_any {B : Nat} (a : Option Addr) (n c : Nat) (fd : Nat → Int) (en : Nat → Bool) (ix : Nat → Int) (k0 : Nat → ByteArray) (ky : Nat → ByteArray) (w : World) (h : Ps B w a n c fd en ix k0) (hB : B ≤ w.heap.size) (ht : tot ky n ≤ 1000000000)
    (hcl : ∀ W, Below w.heap.size w W → ∀ k, k < n → Calls Tryf.prog 12 #[.slice a (k + 1) c] W fun e w' => e = .returned (.string (ky k)) ∧ Below W.heap.size W w') (hn : n ≤ 1048576) :
    Calls Tryf.prog 11 #[.slice a n c, .func (.func 12) #[] #[]] w fun e w' => e = .returned (.string ⟨(nm en ky n).toArray⟩) ∧ Below w.heap.size w w' := by
  have HP : Hid (Ps B w a n c fd en ix k0) := h
  have HCL : Hid (∀ W, Below w.heap.size w W → ∀ k, k < n → Calls Tryf.prog 12 #[.slice a (k + 1) c] W fun e w' => e = .returned (.string (ky k)) ∧ Below W.heap.size W w') := hcl
  clear hcl
  clear h
  have HT : Hid (tot ky n ≤ 1000000000) := ht
  clear ht
  go_enter Tryf.func11, Tryf.ntmps11
  go_wp2
  go_loopw [6, 9] (fun _ i wr => ∃ k : Nat, k ≤ n ∧ i = .int .i64 k ∧ Lib.IsBuilder 38 5 w.heap.size w.heap.size (Lib.byteCells (nm en ky k)) wr ∧ Below w.heap.size w wr) (fun _ i _ => n - (intOf i).toNat)
  case atStart => exact ⟨0, by omega, rfl, Lib.fresh_isBuilder 38 5 w, (Below.refl _ w).alloc (Nat.le_refl _) _⟩
  case round =>
    obtain ⟨k, hk, rfl, hI, hbw⟩ := hrel
    have HI : Hid (Lib.IsBuilder 38 5 w.heap.size w.heap.size (Lib.byteCells (nm en ky k)) wr) := hI
    have HBW : Hid (Below w.heap.size w wr) := hbw
    clear hI hbw
    by_cases hlt : k < n
    · obtain ⟨b, off, ha, hb, hc⟩ := (HP.out.below HBW.out hB).cells (by omega)
      subst ha
      have hcap := HP.out.cap
      have HL : Hid ((nm en ky k).length + ((ahead en k).length + (ky k).size) ≤ 1000000000) := by
        have h1 := nm_le en ky (k + 1)
        have h2 : tot ky (k + 1) ≤ tot ky n := by
          have := tot_mono ky (k + 1) (n - (k + 1))
          rwa [show k + 1 + (n - (k + 1)) = n by omega] at this
        have h3 : (ky k).data.toList.length = (ky k).size := by rw [Array.length_toList]; rfl
        have h4 := HT.out
        simp only [nm, List.length_append, h3] at h1
        show _ ≤ _
        omega
      have h1k : (0 : Int) ≤ (k : Int) + 1 := by omega
      have h2k : (k : Int) + 1 ≤ (c : Int) := by omega
      cases k with
      | zero =>
        go_wp2_with (first
          | (go_at_call 12; refine (HCL.out _ HBW.out 0 hlt).mono ?_; rintro e w9 ⟨rfl, b9⟩; have i9 := builder_kept HI.out b9; have HI9 : Hid (Lib.IsBuilder 38 5 w.heap.size w.heap.size (Lib.byteCells (nm en ky 0)) w9) := i9; have B9 : Below w.heap.size w w9 := Below.trans HBW.out (Below.mono b9 HBW.out.size); clear i9 b9)
          | (go_at_call 14; refine (writeString_any w.heap.size w.heap.size _ _ _ HI9.out (by have := HL.out; rw [Lib.byteCells_length]; omega) B9.size).mono ?_; rintro e w1 ⟨rfl, i1, b1⟩))
        refine ⟨⟨1, by omega, rfl, ?_, B9.trans b1⟩, by simp [intOf]; omega⟩
        rw [show nm en ky 1 = nm en ky 0 ++ (ahead en 0 ++ (ky 0).data.toList) from rfl, byte_append, byte_append, ← str_byte]
        simpa [ahead, Lib.byteCells] using i1
      | succ j =>
        obtain ⟨-, g1, -, -⟩ := hc j (by omega)
        have e1 : ((j + 1 : Nat) : Int) - 1 = j := by omega
        have e2 : (((j + 1 : Nat) : Int) == 0) = false := by simp; omega
        have HA : Hid (ahead en (j + 1) = if en j = true then [58, 32] else [46]) := by
          show ahead en (j + 1) = _
          unfold ahead
          rw [if_neg (show ¬ j + 1 = 0 by omega)]
          rfl
        have fin : ∀ w2, Lib.IsBuilder 38 5 w.heap.size w.heap.size ((Lib.byteCells (nm en ky (j + 1)) ++ Lib.byteCells (ahead en (j + 1))) ++ Lib.strCells (ky (j + 1))) w2 → Lib.IsBuilder 38 5 w.heap.size w.heap.size (Lib.byteCells (nm en ky (j + 2))) w2 := fun w2 h2 => by
          rw [show nm en ky (j + 2) = nm en ky (j + 1) ++ (ahead en (j + 1) ++ (ky (j + 1)).data.toList) from rfl, byte_append, byte_append, ← str_byte, ← List.append_assoc]
          exact h2
        have FIN : Hid (∀ w2, Lib.IsBuilder 38 5 w.heap.size w.heap.size ((Lib.byteCells (nm en ky (j + 1)) ++ Lib.byteCells (ahead en (j + 1))) ++ Lib.strCells (ky (j + 1))) w2 → Lib.IsBuilder 38 5 w.heap.size w.heap.size (Lib.byteCells (nm en ky (j + 2))) w2) := fin
        clear fin hc
        cases hen : en j with
        | true =>
          rw [hen] at g1
          have HA2 : Hid (ahead en (j + 1) = [58, 32]) := by rw [HA.out, hen]; rfl
          have HL2 : Hid ((nm en ky (j + 1)).length + 2 + (ky (j + 1)).size ≤ 1000000000) := by have := HL.out; rw [HA2.out] at this; simp at this; show _ ≤ _; omega
          clear hen HA HL
          have NOTYET : True := trivial
          go_wp2_with (first
            | (go_at_call 12; refine (HCL.out _ (HBW.out.trans b1) (j + 1) hlt).mono ?_; rintro e w9 ⟨rfl, b9⟩; have i9 := builder_kept i1 b9; have B9 : Below w.heap.size w w9 := Below.trans (HBW.out.trans b1) (Below.mono b9 (HBW.out.trans b1).size); clear b9)
            | (go_at_call 14; clear NOTYET; refine (writeString_any w.heap.size w.heap.size _ _ _ HI.out (by have := HL2.out; rw [Lib.byteCells_length]; show _ + 2 ≤ _; omega) HBW.out.size).mono ?_; rintro e w1 ⟨rfl, i1, b1⟩)
            | (go_at_call 14; refine (writeString_any w.heap.size w.heap.size _ _ _ i9 (by have := HL2.out; rw [List.length_append, Lib.byteCells_length]; show _ + 2 + _ ≤ _; omega) B9.size).mono ?_; rintro e w2 ⟨rfl, i2, b2⟩))
          go_roundw
          case rel => exact ⟨j + 2, by omega, by go_num, FIN.out _ (by rw [HA2.out]; exact i2), B9.trans b2⟩
          case measure => simp [intOf]; omega
        | false =>
          rw [hen] at g1
          have HA2 : Hid (ahead en (j + 1) = [46]) := by rw [HA.out, hen]; rfl
          have HL2 : Hid ((nm en ky (j + 1)).length + 1 + (ky (j + 1)).size ≤ 1000000000) := by have := HL.out; rw [HA2.out] at this; simp at this; show _ ≤ _; omega
          clear hen HA HL
          have NOTYET : True := trivial
          go_wp2_with (first
            | (go_at_call 12; refine (HCL.out _ (HBW.out.trans b1) (j + 1) hlt).mono ?_; rintro e w9 ⟨rfl, b9⟩; have i9 := builder_kept i1 b9; have B9 : Below w.heap.size w w9 := Below.trans (HBW.out.trans b1) (Below.mono b9 (HBW.out.trans b1).size); clear b9)
            | (go_at_call 14; clear NOTYET; refine (writeString_any w.heap.size w.heap.size _ _ _ HI.out (by have := HL2.out; rw [Lib.byteCells_length]; show _ + 1 ≤ _; omega) HBW.out.size).mono ?_; rintro e w1 ⟨rfl, i1, b1⟩)
            | (go_at_call 14; refine (writeString_any w.heap.size w.heap.size _ _ _ i9 (by have := HL2.out; rw [List.length_append, Lib.byteCells_length]; show _ + 1 + _ ≤ _; omega) B9.size).mono ?_; rintro e w2 ⟨rfl, i2, b2⟩))
          go_roundw
          case rel => exact ⟨j + 2, by omega, by go_num, FIN.out _ (by rw [HA2.out]; exact i2), B9.trans b2⟩
          case measure => simp [intOf]; omega
    · have hkn : k = n := by omega
      go_wp2_with (go_at_call 15; refine (Tryf.Builder_String_any w.heap.size w.heap.size (nm en ky k) _ HI.out HBW.out.size).mono ?_; rintro e w1 ⟨rfl, b1⟩)
      go_ret
      exact ⟨rfl, HBW.out.trans b1⟩

set_option maxHeartbeats 2000000 in
theorem name13_any {B : Nat} (a : Option Addr) (n c : Nat) (fd : Nat → Int) (en : Nat → Bool) (ix : Nat → Int) (k0 : Nat → ByteArray) (ky : Nat → ByteArray) (w : World) (h : Ps B w a n c fd en ix k0) (hB : B ≤ w.heap.size) (ht : tot ky n ≤ 1000000000)
    (hcl : ∀ W, Below w.heap.size w W → ∀ k, k < n → Calls Tryf.prog 13 #[.slice a (k + 1) c] W fun e w' => e = .returned (.string (ky k)) ∧ Below W.heap.size W w') (hn : n ≤ 1048576) :
    Calls Tryf.prog 11 #[.slice a n c, .func (.func 13) #[] #[]] w fun e w' => e = .returned (.string ⟨(nm en ky n).toArray⟩) ∧ Below w.heap.size w w' := by
  have HP : Hid (Ps B w a n c fd en ix k0) := h
  have HCL : Hid (∀ W, Below w.heap.size w W → ∀ k, k < n → Calls Tryf.prog 13 #[.slice a (k + 1) c] W fun e w' => e = .returned (.string (ky k)) ∧ Below W.heap.size W w') := hcl
  clear hcl
  clear h
  have HT : Hid (tot ky n ≤ 1000000000) := ht
  clear ht
  go_enter Tryf.func11, Tryf.ntmps11
  go_wp2
  go_loopw [6, 9] (fun _ i wr => ∃ k : Nat, k ≤ n ∧ i = .int .i64 k ∧ Lib.IsBuilder 38 5 w.heap.size w.heap.size (Lib.byteCells (nm en ky k)) wr ∧ Below w.heap.size w wr) (fun _ i _ => n - (intOf i).toNat)
  case atStart => exact ⟨0, by omega, rfl, Lib.fresh_isBuilder 38 5 w, (Below.refl _ w).alloc (Nat.le_refl _) _⟩
  case round =>
    obtain ⟨k, hk, rfl, hI, hbw⟩ := hrel
    have HI : Hid (Lib.IsBuilder 38 5 w.heap.size w.heap.size (Lib.byteCells (nm en ky k)) wr) := hI
    have HBW : Hid (Below w.heap.size w wr) := hbw
    clear hI hbw
    by_cases hlt : k < n
    · obtain ⟨b, off, ha, hb, hc⟩ := (HP.out.below HBW.out hB).cells (by omega)
      subst ha
      have hcap := HP.out.cap
      have HL : Hid ((nm en ky k).length + ((ahead en k).length + (ky k).size) ≤ 1000000000) := by
        have h1 := nm_le en ky (k + 1)
        have h2 : tot ky (k + 1) ≤ tot ky n := by
          have := tot_mono ky (k + 1) (n - (k + 1))
          rwa [show k + 1 + (n - (k + 1)) = n by omega] at this
        have h3 : (ky k).data.toList.length = (ky k).size := by rw [Array.length_toList]; rfl
        have h4 := HT.out
        simp only [nm, List.length_append, h3] at h1
        show _ ≤ _
        omega
      have h1k : (0 : Int) ≤ (k : Int) + 1 := by omega
      have h2k : (k : Int) + 1 ≤ (c : Int) := by omega
      cases k with
      | zero =>
        go_wp2_with (first
          | (go_at_call 13; refine (HCL.out _ HBW.out 0 hlt).mono ?_; rintro e w9 ⟨rfl, b9⟩; have i9 := builder_kept HI.out b9; have HI9 : Hid (Lib.IsBuilder 38 5 w.heap.size w.heap.size (Lib.byteCells (nm en ky 0)) w9) := i9; have B9 : Below w.heap.size w w9 := Below.trans HBW.out (Below.mono b9 HBW.out.size); clear i9 b9)
          | (go_at_call 14; refine (writeString_any w.heap.size w.heap.size _ _ _ HI9.out (by have := HL.out; rw [Lib.byteCells_length]; omega) B9.size).mono ?_; rintro e w1 ⟨rfl, i1, b1⟩))
        refine ⟨⟨1, by omega, rfl, ?_, B9.trans b1⟩, by simp [intOf]; omega⟩
        rw [show nm en ky 1 = nm en ky 0 ++ (ahead en 0 ++ (ky 0).data.toList) from rfl, byte_append, byte_append, ← str_byte]
        simpa [ahead, Lib.byteCells] using i1
      | succ j =>
        obtain ⟨-, g1, -, -⟩ := hc j (by omega)
        have e1 : ((j + 1 : Nat) : Int) - 1 = j := by omega
        have e2 : (((j + 1 : Nat) : Int) == 0) = false := by simp; omega
        have HA : Hid (ahead en (j + 1) = if en j = true then [58, 32] else [46]) := by
          show ahead en (j + 1) = _
          unfold ahead
          rw [if_neg (show ¬ j + 1 = 0 by omega)]
          rfl
        have fin : ∀ w2, Lib.IsBuilder 38 5 w.heap.size w.heap.size ((Lib.byteCells (nm en ky (j + 1)) ++ Lib.byteCells (ahead en (j + 1))) ++ Lib.strCells (ky (j + 1))) w2 → Lib.IsBuilder 38 5 w.heap.size w.heap.size (Lib.byteCells (nm en ky (j + 2))) w2 := fun w2 h2 => by
          rw [show nm en ky (j + 2) = nm en ky (j + 1) ++ (ahead en (j + 1) ++ (ky (j + 1)).data.toList) from rfl, byte_append, byte_append, ← str_byte, ← List.append_assoc]
          exact h2
        have FIN : Hid (∀ w2, Lib.IsBuilder 38 5 w.heap.size w.heap.size ((Lib.byteCells (nm en ky (j + 1)) ++ Lib.byteCells (ahead en (j + 1))) ++ Lib.strCells (ky (j + 1))) w2 → Lib.IsBuilder 38 5 w.heap.size w.heap.size (Lib.byteCells (nm en ky (j + 2))) w2) := fin
        clear fin hc
        cases hen : en j with
        | true =>
          rw [hen] at g1
          have HA2 : Hid (ahead en (j + 1) = [58, 32]) := by rw [HA.out, hen]; rfl
          have HL2 : Hid ((nm en ky (j + 1)).length + 2 + (ky (j + 1)).size ≤ 1000000000) := by have := HL.out; rw [HA2.out] at this; simp at this; show _ ≤ _; omega
          clear hen HA HL
          have NOTYET : True := trivial
          go_wp2_with (first
            | (go_at_call 13; refine (HCL.out _ (HBW.out.trans b1) (j + 1) hlt).mono ?_; rintro e w9 ⟨rfl, b9⟩; have i9 := builder_kept i1 b9; have B9 : Below w.heap.size w w9 := Below.trans (HBW.out.trans b1) (Below.mono b9 (HBW.out.trans b1).size); clear b9)
            | (go_at_call 14; clear NOTYET; refine (writeString_any w.heap.size w.heap.size _ _ _ HI.out (by have := HL2.out; rw [Lib.byteCells_length]; show _ + 2 ≤ _; omega) HBW.out.size).mono ?_; rintro e w1 ⟨rfl, i1, b1⟩)
            | (go_at_call 14; refine (writeString_any w.heap.size w.heap.size _ _ _ i9 (by have := HL2.out; rw [List.length_append, Lib.byteCells_length]; show _ + 2 + _ ≤ _; omega) B9.size).mono ?_; rintro e w2 ⟨rfl, i2, b2⟩))
          go_roundw
          case rel => exact ⟨j + 2, by omega, by go_num, FIN.out _ (by rw [HA2.out]; exact i2), B9.trans b2⟩
          case measure => simp [intOf]; omega
        | false =>
          rw [hen] at g1
          have HA2 : Hid (ahead en (j + 1) = [46]) := by rw [HA.out, hen]; rfl
          have HL2 : Hid ((nm en ky (j + 1)).length + 1 + (ky (j + 1)).size ≤ 1000000000) := by have := HL.out; rw [HA2.out] at this; simp at this; show _ ≤ _; omega
          clear hen HA HL
          have NOTYET : True := trivial
          go_wp2_with (first
            | (go_at_call 13; refine (HCL.out _ (HBW.out.trans b1) (j + 1) hlt).mono ?_; rintro e w9 ⟨rfl, b9⟩; have i9 := builder_kept i1 b9; have B9 : Below w.heap.size w w9 := Below.trans (HBW.out.trans b1) (Below.mono b9 (HBW.out.trans b1).size); clear b9)
            | (go_at_call 14; clear NOTYET; refine (writeString_any w.heap.size w.heap.size _ _ _ HI.out (by have := HL2.out; rw [Lib.byteCells_length]; show _ + 1 ≤ _; omega) HBW.out.size).mono ?_; rintro e w1 ⟨rfl, i1, b1⟩)
            | (go_at_call 14; refine (writeString_any w.heap.size w.heap.size _ _ _ i9 (by have := HL2.out; rw [List.length_append, Lib.byteCells_length]; show _ + 1 + _ ≤ _; omega) B9.size).mono ?_; rintro e w2 ⟨rfl, i2, b2⟩))
          go_roundw
          case rel => exact ⟨j + 2, by omega, by go_num, FIN.out _ (by rw [HA2.out]; exact i2), B9.trans b2⟩
          case measure => simp [intOf]; omega
    · have hkn : k = n := by omega
      go_wp2_with (go_at_call 15; refine (Tryf.Builder_String_any w.heap.size w.heap.size (nm en ky k) _ HI.out HBW.out.size).mono ?_; rintro e w1 ⟨rfl, b1⟩)
      go_ret
      exact ⟨rfl, HBW.out.trans b1⟩

set_option maxHeartbeats 400000 in
theorem nameByKey_any {B : Nat} (a : Option Addr) (n c : Nat) (fd : Nat → Int) (en : Nat → Bool) (ix : Nat → Int) (ky : Nat → ByteArray) (w : World) (h : Ps B w a n c fd en ix ky) (hB : B ≤ w.heap.size) (hn : n ≤ 1048576) (ht : tot ky n ≤ 1000000000) :
    Calls Tryf.prog 8 #[.slice a n c] w fun e w' => e = .returned (.string ⟨(nm en ky n).toArray⟩) ∧ Below w.heap.size w w' := by
  have hcl : ∀ W, Below w.heap.size w W → ∀ k, k < n → Calls Tryf.prog 13 #[.slice a (k + 1) c] W fun e w' => e = .returned (.string (ky k)) ∧ Below W.heap.size W w' := fun W hW k hk => by
    obtain ⟨b, off, rfl, _, _⟩ := h.cells (by omega)
    exact byKey_any b off n c fd en ix ky k W (h.below hW hB) hk hn
  go_enter Tryf.func8, Tryf.ntmps8
  go_wp2_with (go_at_call 11; refine (name13_any a n c fd en ix ky ky _ h hB ht hcl hn).mono ?_; rintro e w1 ⟨rfl, b1⟩)
  go_ret
  exact ⟨rfl, b1⟩

set_option maxHeartbeats 400000 in
theorem pathString_any {B : Nat} (F : Interp) (nf : Nat → ByteArray) (a : Option Addr) (n c : Nat) (fd : Nat → Int) (en : Nat → Bool) (ix : Nat → Int) (ky : Nat → ByteArray) (w : World) (hF : F.answers w.tape) (hT : Tab w nf) (h : Ps B w a n c fd en ix ky) (hB : B ≤ w.heap.size) (hn : n ≤ 1048576)
    (z : ∀ k, k < n → (fname F nf (fd k)).size ≤ 100 ∧ (FmtStop.textOf (F "fmt.Sprintf" (readA (ix k)) 0)).size ≤ 100 ∧ (ky k).size ≤ 1048576) (ht : tot (fun k => pname F nf (fd k) (en k) (ix k) (ky k)) n ≤ 1000000000) :
    Calls Tryf.prog 7 #[.slice a n c] w fun e w' => e = .returned (.string ⟨(nm en (fun k => pname F nf (fd k) (en k) (ix k) (ky k)) n).toArray⟩) ∧ Below w.heap.size w w' := by
  have hcl : ∀ W, Below w.heap.size w W → ∀ k, k < n → Calls Tryf.prog 12 #[.slice a (k + 1) c] W fun e w' => e = .returned (.string (pname F nf (fd k) (en k) (ix k) (ky k))) ∧ Below W.heap.size W w' := fun W hW k hk => by
    obtain ⟨b, off, rfl, _, _⟩ := h.cells (by omega)
    exact inTypes_any F nf b off n c fd en ix ky k W (by rw [hW.tape]; exact hF) (hT.below hW) (h.below hW hB) hk hn (z k hk).1 (z k hk).2.1 (z k hk).2.2
  obtain ⟨pn, hpn⟩ : ∃ pn, pn = (fun k => pname F nf (fd k) (en k) (ix k) (ky k)) := ⟨_, rfl⟩
  have HN := name12_any a n c fd en ix ky pn w h hB (by rw [hpn]; exact ht) (by rw [hpn]; exact hcl) hn
  rw [← hpn]
  have HNN : Hid (Calls Tryf.prog 11 #[.slice a n c, .func (.func 12) #[] #[]] w fun e w' => e = .returned (.string ⟨(nm en pn n).toArray⟩) ∧ Below w.heap.size w w') := HN
  clear HN hpn hcl z ht hT hF h
  go_enter Tryf.func7, Tryf.ntmps7
  go_wp2_with (go_at_call 11; refine HNN.out.mono ?_; rintro e w1 ⟨rfl, b1⟩)
  go_ret
  exact ⟨rfl, b1⟩

/-- A number; where it is small so is the sum. -/
def PbPost (T : Nat) (e : Ending) : Prop := ∃ r : Int, e = .returned (.int .i64 r) ∧ (r ≤ 1048576 → T ≤ 1048576)
set_option maxHeartbeats 400000 in
theorem pathBytes_any {B : Nat} (a : Option Addr) (n c : Nat) (fd : Nat → Int) (en : Nat → Bool) (ix : Nat → Int) (ky : Nat → ByteArray) (w : World) (h : Ps B w a n c fd en ix ky) (hn : n ≤ 1048576) :
    Calls Tryf.prog 5 #[.slice a n c] w fun e w' => PbPost (tot ky n) e ∧ w' = w := by
  have HP : Hid (Ps B w a n c fd en ix ky) := h
  clear h
  go_enter Tryf.func5, Tryf.ntmps5
  go_wp2
  go_loop [3, 4] (fun z i => ∃ k : Nat, k ≤ n ∧ i = .int .i64 k ∧ z = .int .i64 (tot ky k : Nat) ∧ tot ky k ≤ 1048576) (fun _ i => n - (intOf i).toNat)
  case atStart => exact ⟨0, by omega, rfl, rfl, by simp [tot]⟩
  case round =>
    obtain ⟨k, hk, rfl, rfl, ht⟩ := hrel
    by_cases hlt : k < n
    · obtain ⟨b, off, ha, hb, hc⟩ := HP.out.cells (by omega)
      subst ha
      obtain ⟨-, -, -, g3⟩ := hc k hlt
      have HS : Hid (tot ky (k + 1) = tot ky k + (40 + (ky k).size)) := rfl
      have HM : Hid (tot ky (k + 1) ≤ tot ky n) := by
        have := tot_mono ky (k + 1) (n - (k + 1))
        rwa [show k + 1 + (n - (k + 1)) = n by omega] at this
      obtain ⟨T, hT⟩ : ∃ T, tot ky k = T := ⟨_, rfl⟩
      rw [hT] at HS ht
      simp only [hT]
      obtain ⟨x, hx⟩ : ∃ x, ky k = x := ⟨_, rfl⟩
      rw [hx] at g3 HS
      clear hc hx hT
      by_cases t1 : (1048576 : Int) < x.size
      · go_wp2
        go_ret
        exact ⟨⟨_, rfl, fun h => by omega⟩, rfl⟩
      · by_cases t2 : (1048576 : Int) < (T : Int) + (40 + x.size)
        · go_wp2
          go_ret
          exact ⟨⟨_, rfl, fun h => by omega⟩, rfl⟩
        · go_wp2
          go_round
          case rel => exact ⟨k + 1, by omega, by go_num, by rw [HS.out]; go_num, by rw [HS.out]; omega⟩
          case measure => simp [intOf]; omega
    · have hkn : k = n := by omega
      subst hkn
      go_wp2
      go_ret
      exact ⟨⟨_, rfl, fun _ => ht⟩, rfl⟩

/-- A bool; where it is true the path is short. -/
def ZzPost (n : Nat) (e : Ending) : Prop := ∃ r : Bool, e = .returned (.bool r) ∧ (r = true → n ≤ 1048576)
theorem zz_no (n : Nat) : ZzPost n (.returned (.bool false)) := ⟨false, rfl, fun h => by cases h⟩
theorem zz_yes {n : Nat} (h : n ≤ 1048576) : ZzPost n (.returned (.bool true)) := ⟨true, rfl, fun _ => h⟩
set_option maxHeartbeats 400000 in
theorem zzBytes_any {B : Nat} (a : Option Addr) (n c : Nat) (fd : Nat → Int) (en : Nat → Bool) (ix : Nat → Int) (ky : Nat → ByteArray) (w : World) (h : Ps B w a n c fd en ix ky) :
    Calls Tryf.prog 4 #[.slice a n c] w fun e w' => ZzPost n e ∧ w' = w := by
  have HP : Hid (Ps B w a n c fd en ix ky) := h
  clear h
  by_cases t0 : (1048576 : Int) < n
  · go_enter Tryf.func4, Tryf.ntmps4
    go_wp2
    go_ret
    exact ⟨zz_no n, rfl⟩
  have hn : n ≤ 1048576 := by omega
  go_enter Tryf.func4, Tryf.ntmps4
  go_wp2
  go_loop [3, 4] (fun z i => (∃ r, z = .int .i64 r) ∧ ∃ k : Nat, k ≤ n ∧ i = .int .i64 k) (fun _ i => n - (intOf i).toNat)
  case atStart => exact ⟨⟨_, rfl⟩, 0, Nat.zero_le _, rfl⟩
  case round =>
    obtain ⟨⟨r, rfl⟩, k, hk, rfl⟩ := hrel
    by_cases hlt : k < n
    · obtain ⟨b, off, ha, hb, hc⟩ := HP.out.cells (by omega)
      subst ha
      obtain ⟨-, -, -, g3⟩ := hc k hlt
      obtain ⟨x, hx⟩ : ∃ x, ky k = x := ⟨_, rfl⟩
      rw [hx] at g3
      clear hc hx
      go_wp2
      all_goals first
        | (go_ret; exact ⟨zz_no n, rfl⟩)
        | skip
      go_round
      case rel => exact ⟨⟨_, rfl⟩, k + 1, by omega, by go_num⟩
      case measure => simp [intOf]; omega
    · go_wp2
      go_ret
      exact ⟨zz_yes hn, rfl⟩
end Go.Proofs.Qxb6608673aFmt
