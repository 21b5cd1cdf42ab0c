/-
  A step's own name: ScenarioField.String, ScenarioPlace.String.
-/
import Derived.Test.Qxb6608673aFmtWalksA
import Derived.Test.Qxb6608673aFmtFacts
namespace Go.Proofs.Qxb6608673aFmt
open Go.RowKit Go.Extern.Stop Go.Stop Go.Extern Go.Kit
set_option maxRecDepth 100000

/-- The table of the fields' names, as the walks read it. -/
def Tab (w : World) (nf : Nat → ByteArray) : Prop := 0 < w.heap.size ∧ ∀ i, i < 21 → w.cell? ⟨0, i * 2, none⟩ = some (.string (nf i))
theorem Tab.below {w w' : World} {nf : Nat → ByteArray} (h : Tab w nf) (e : Below w.heap.size w w') : Tab w' nf :=
  ⟨Nat.lt_of_lt_of_le h.1 e.size, fun i hi => (e.cell (p := ⟨0, i * 2, none⟩) h.1).trans (h.2 i hi)⟩

/-- The name of a field. -/
def fname (F : Interp) (nf : Nat → ByteArray) (f : Int) : ByteArray := if 0 ≤ f ∧ f < 21 then nf f.toNat else FmtStop.textOf (F "fmt.Sprintf" (readB f) 0)

set_option maxHeartbeats 400000 in
theorem field_any (F : Interp) (nf : Nat → ByteArray) (f : Int) (w : World) (hF : F.answers w.tape) (hT : Tab w nf) :
    Calls Tryf.prog 9 #[.int .i64 f] w fun e w' => e = .returned (.string (fname F nf f)) ∧ Below w.heap.size w w' := by
  have hF' := answers_open hF
  by_cases h0 : 0 ≤ f
  · by_cases h1 : f < 21
    · obtain ⟨i, rfl⟩ : ∃ i : Nat, f = i := ⟨f.toNat, by omega⟩
      have g := hT.2 i (by omega)
      have e1 : fname F nf i = nf i := by
        unfold fname
        rw [if_pos ⟨h0, h1⟩]
        rfl
      rw [e1]
      clear hT e1
      go_enter Tryf.func9, Tryf.ntmps9
      go_wp2
      go_ret
      exact ⟨rfl, Below.refl _ w⟩
    · have e1 : fname F nf f = FmtStop.textOf (F "fmt.Sprintf" (readB f) 0) := by
        unfold fname
        rw [if_neg (by omega)]
      rw [e1]
      clear hT e1
      go_enter Tryf.func9, Tryf.ntmps9
      go_wp2
      go_ret
      exact ⟨rfl, ((Below.refl _ w).alloc (Nat.le_refl _) _).drew⟩
  · have e1 : fname F nf f = FmtStop.textOf (F "fmt.Sprintf" (readB f) 0) := by
      unfold fname
      rw [if_neg (by omega)]
    rw [e1]
    clear hT e1
    go_enter Tryf.func9, Tryf.ntmps9
    go_wp2
    go_ret
    exact ⟨rfl, ((Below.refl _ w).alloc (Nat.le_refl _) _).drew⟩

theorem beq_bytes {a b : ByteArray} (h : (a == b) = true) : a = b := by
  obtain ⟨x⟩ := a
  obtain ⟨y⟩ := b
  have h' : (x == y) = true := h
  rw [eq_of_beq h']
theorem beq_ne {x s : ByteArray} (h : ¬ x = s) : (x.toList == s.toList) = false := by
  rw [← beq_toListBytes]
  cases hq : (x == s) with
  | false => rfl
  | true => exact absurd (beq_bytes hq) h
theorem isEmpty_no {s : ByteArray} (h : ¬ s = ByteArray.empty) : s.toList.isEmpty = false := by
  have h1 := beq_ne h
  have h2 : ByteArray.empty.toList = [] := by simp [ByteArray.toList, ByteArray.toList.loop]
  rw [h2] at h1
  cases hq : s.toList with
  | nil => rw [hq] at h1; simp at h1
  | cons x l => rfl
theorem isEmpty_yes : ByteArray.empty.toList.isEmpty = true := by
  have h2 : ByteArray.empty.toList = [] := by simp [ByteArray.toList, ByteArray.toList.loop]
  rw [h2]; rfl

/-- The name of a step by its place. -/
def pname (F : Interp) (nf : Nat → ByteArray) (f : Int) (e : Bool) (x : Int) (s : ByteArray) : ByteArray :=
  if e = true then (if s = ByteArray.empty then fname F nf f ++ FmtStop.textOf (F "fmt.Sprintf" (readA x) 0) else fname F nf f ++ FmtStop.textOf (F "fmt.Sprintf" (readA x) 0) ++ (⟨#[32, 40]⟩ ++ s ++ ⟨#[41]⟩)) else fname F nf f

set_option maxHeartbeats 1000000 in
theorem place_any (F : Interp) (nf : Nat → ByteArray) (f : Int) (e : Bool) (x : Int) (s : ByteArray) (w : World) (hF : F.answers w.tape) (hT : Tab w nf) (z1 : (fname F nf f).size ≤ 100) (z2 : (FmtStop.textOf (F "fmt.Sprintf" (readA x) 0)).size ≤ 100) (z3 : s.size ≤ 1048576) :
    Calls Tryf.prog 6 #[.agg #[.int .i64 f, .bool e, .int .i64 x, .string s]] w fun e' w' => e' = .returned (.string (pname F nf f e x s)) ∧ Below w.heap.size w w' := by
  obtain ⟨W, hW⟩ : ∃ W, W = w.alloc (.cells #[.int .i64 f, .bool e, .int .i64 x, .string s] 28) := ⟨_, rfl⟩
  have bW : Below w.heap.size w W := by rw [hW]; exact (Below.refl _ w).alloc (Nat.le_refl _) _
  have HT : Hid (Tab W nf) := hT.below bW
  have HF : Hid (F.answers W.tape) := by rw [hW]; exact hF
  obtain ⟨A, hA⟩ : ∃ A, FmtStop.textOf (F "fmt.Sprintf" (readA x) 0) = A := ⟨_, rfl⟩
  obtain ⟨N, hN⟩ : ∃ N, fname F nf f = N := ⟨_, rfl⟩
  have HA : Hid (FmtStop.textOf (F "fmt.Sprintf" (readA x) 0) = A) := hA
  have HN : Hid (fname F nf f = N) := hN
  rw [hA] at z2
  rw [hN] at z1
  have HC : Hid (∀ w1, Below W.heap.size W w1 → w1.cell? ⟨w.heap.size, 1, none⟩ = some (.bool e) ∧ w1.cell? ⟨w.heap.size, 2, none⟩ = some (.int .i64 x) ∧ w1.cell? ⟨w.heap.size, 3, none⟩ = some (.string s) ∧ w.heap.size < w1.heap.size ∧ (∀ o, (w1.alloc o).cell? ⟨w.heap.size, 3, none⟩ = some (.string s)) ∧ Below w.heap.size w w1 ∧ F.answers w1.tape) := fun w1 b1 => by
    have hlt : w.heap.size < W.heap.size := by rw [hW]; simp
    have hlt1 := b1.size
    have c3 : w1.cell? ⟨w.heap.size, 3, none⟩ = some (.string s) := by rw [b1.cell (p := ⟨w.heap.size, 3, none⟩) hlt, hW]; simp
    refine ⟨?_, ?_, c3, by omega, fun o => ?_, Below.trans bW (Below.mono b1 bW.size), ?_⟩
    · rw [b1.cell (p := ⟨w.heap.size, 1, none⟩) hlt, hW]; simp
    · rw [b1.cell (p := ⟨w.heap.size, 2, none⟩) hlt, hW]; simp
    · rw [((Below.refl w1.heap.size w1).alloc (Nat.le_refl _) o).cell (p := ⟨w.heap.size, 3, none⟩) (show w.heap.size < w1.heap.size by omega)]
      exact c3
    · rw [b1.tape]; exact HF.out
  cases e with
  | false =>
    have e1 : pname F nf f false x s = N := by unfold pname; rw [if_neg (by simp), hN]
    rw [e1]
    clear hT hF hA hN e1
    go_enter Tryf.func6, Tryf.ntmps6
    go_wp2_with (go_at_call 9; rw [← hW]; refine (field_any F nf f _ HF.out HT.out).mono ?_; rintro e w1 ⟨he, b1⟩; rw [HN.out] at he; subst he; obtain ⟨g1, g2, g3, hlt, g4, bw1, hF1⟩ := HC.out w1 b1; have hF' := answers_open hF1)
    go_ret
    exact ⟨rfl, bw1⟩
  | true =>
    by_cases hs : s = ByteArray.empty
    · have e1 : pname F nf f true x s = N ++ A := by unfold pname; rw [if_pos rfl, if_pos hs, hN, hA]
      rw [e1]
      subst hs
      have he' := isEmpty_yes
      clear hT hF hA hN e1
      go_enter Tryf.func6, Tryf.ntmps6
      go_wp2_with (go_at_call 9; rw [← hW]; refine (field_any F nf f _ HF.out HT.out).mono ?_; rintro e w1 ⟨he, b1⟩; rw [HN.out] at he; subst he; obtain ⟨g1, g2, g3, hlt, g4, bw1, hF1⟩ := HC.out w1 b1; have hF' := answers_open hF1; have HA' : FmtStop.textOf (F "fmt.Sprintf" [[91, 37, 100, 93], Tryf.shape3, digits 8 (x % 18446744073709551616).toNat] 0) = A := HA.out)
      all_goals first | (exfalso; omega) | skip
      go_ret
      exact ⟨rfl, (bw1.alloc bw1.size _).drew⟩
    · have e1 : pname F nf f true x s = N ++ A ++ (⟨#[32, 40]⟩ ++ s ++ ⟨#[41]⟩) := by unfold pname; rw [if_pos rfl, if_neg hs, hN, hA]
      rw [e1]
      have he' := isEmpty_no hs
      clear hT hF hA hN e1
      go_enter Tryf.func6, Tryf.ntmps6
      go_wp2_with (go_at_call 9; rw [← hW]; refine (field_any F nf f _ HF.out HT.out).mono ?_; rintro e w1 ⟨he, b1⟩; rw [HN.out] at he; subst he; obtain ⟨g1, g2, g3, hlt, g4, bw1, hF1⟩ := HC.out w1 b1; have hF' := answers_open hF1; have HA' : FmtStop.textOf (F "fmt.Sprintf" [[91, 37, 100, 93], Tryf.shape3, digits 8 (x % 18446744073709551616).toNat] 0) = A := HA.out)
      all_goals first | (exfalso; omega) | skip
      go_ret
      exact ⟨rfl, (bw1.alloc bw1.size _).drew⟩
end Go.Proofs.Qxb6608673aFmt
