/-
  The law's own function, walked.
-/
import Derived.Test.Qxb6608673aFmtWalksC
import Derived.Deep.OwnRows
namespace Go.Proofs.Qxb6608673aFmt
open Go.RowKit Go.Extern.Stop Go.Stop Go.Extern Go.Kit
set_option maxRecDepth 100000

theorem Tryf.info28 : (Tryf.prog.info? 28).map (fun i => (i.zero, i.size, i.bytes)) = some (some (.agg #[.int .i64 0, .bool false, .int .i64 0, .string ByteArray.empty]), 4, 40) := by kernel_rfl
theorem getD_there (xs : Array Value) (i : Nat) (hi : i < xs.size) : xs[i]? = some (xs.getD i undef) := by simp [hi]
theorem run_make28 (n : Nat) (hn : n ≤ 1048576) (w : World) : (Instr.makeSlice 23 (.int .i64 n) (.int .i64 n)).run Tryf.prog w = .ok (.slice (some ⟨w.heap.size, 0, none⟩) n n) (w.alloc (.cells (madeCells #[.int .i64 0, .bool false, .int .i64 0, .string ByteArray.empty] (n * 4)) 28)) := by
  obtain ⟨i, hi, hz, hs, hb⟩ := info_parts Tryf.info28
  have := run_make (P := Tryf.prog) w 23 28 i _ Tryf.underlying23 hi hz .i64 .i64 n n (by omega) (by omega) (by rw [hb]; omega) (by omega)
  rw [hs] at this
  exact this

set_option maxHeartbeats 4000000 in
theorem law_walk (F : Interp) (nf : Nat → ByteArray) (a : Option Addr) (n c : Nat) (fd : Nat → Int) (en : Nat → Bool) (ix : Nat → Int) (ky : Nat → ByteArray) (w : World) (hF : F.answers w.tape) (hT : Tab w nf) (h : Ps w.heap.size w a n c fd en ix ky)
    (z : ∀ k, k < n → (fname F nf (fd k)).size ≤ 100 ∧ 0 < (fname F nf (fd k)).size ∧ (FmtStop.textOf (F "fmt.Sprintf" (readA (ix k)) 0)).size ≤ 100) :
    Calls Tryf.prog 3 #[.slice a n c] w fun e w' => e = .returned (.bool true) ∧ Below w.heap.size w w' := by
  have HP : Hid (Ps w.heap.size w a n c fd en ix ky) := h
  have HF : Hid (F.answers w.tape) := hF
  have HT : Hid (Tab w nf) := hT
  have HZ : Hid (∀ k, k < n → (fname F nf (fd k)).size ≤ 100 ∧ 0 < (fname F nf (fd k)).size ∧ (FmtStop.textOf (F "fmt.Sprintf" (readA (ix k)) 0)).size ≤ 100) := z
  clear h hF hT z
  have B0 := Below.refl w.heap.size w
  by_cases hbig : n ≤ 1048576 ∧ tot ky n ≤ 1048576
  case neg =>
    have HBIG : Hid (¬ (n ≤ 1048576 ∧ tot ky n ≤ 1048576)) := hbig
    clear hbig
    go_enter Tryf.func3, Tryf.ntmps3
    go_wp2_with (first
      | (go_at_call 4; refine (zzBytes_any a n c fd en ix ky _ HP.out).mono ?_; rintro e w' ⟨⟨r, rfl, hz⟩, hw⟩; rw [hw]; clear hw w'; cases r; rotate_left; (have hn := hz rfl; clear hz); rotate_left)
      | (go_at_call 5; refine (pathBytes_any a n c fd en ix ky _ HP.out hn).mono ?_; rintro e w' ⟨⟨r, rfl, hp⟩, hw⟩; rw [hw]; clear hw w'; by_cases hr : (1048576 : Int) < r; rotate_left; exact absurd ⟨hn, hp (by omega)⟩ HBIG.out))
    all_goals (go_ret; exact ⟨rfl, B0⟩)
  obtain ⟨hn, ht⟩ := hbig
  obtain ⟨pn, hpn⟩ : ∃ pn : Nat → ByteArray, pn = (fun k => pname F nf (fd k) (en k) (ix k) (ky k)) := ⟨_, rfl⟩
  have HK1 : Hid (∀ k, k < n → (ky k).size ≤ 1048576) := fun k hk => Nat.le_trans (tot_one ky k n hk) ht
  have hpz : ∀ k, k < n → (pn k).size ≤ (ky k).size + 203 ∧ 0 < (pn k).size := fun k hk => by
    obtain ⟨z1, z2, z3⟩ := HZ.out k hk
    rw [hpn]
    have e2 : (⟨#[32, 40]⟩ : ByteArray).size = 2 := rfl
    have e3 : (⟨#[41]⟩ : ByteArray).size = 1 := rfl
    show (pname F nf (fd k) (en k) (ix k) (ky k)).size ≤ _ ∧ 0 < (pname F nf (fd k) (en k) (ix k) (ky k)).size
    unfold pname
    split
    · split
      · rw [ByteArray.size_append]; omega
      · rw [ByteArray.size_append, ByteArray.size_append, ByteArray.size_append, ByteArray.size_append, e2, e3]; omega
    · omega
  have HTP : Hid (tot pn n ≤ 1000000000) := by
    have h1 := tot_le pn ky 203 n (fun k hk => (hpz k hk).1)
    show _ ≤ _
    omega
  have HNE : Hid (0 < n → nm en pn n ≠ []) := fun h0 => nm_empty en pn n h0 (fun k hk => (hpz k hk).2)
  have HPL : Hid (∀ W, Below w.heap.size w W → ∀ k, k < n → Calls Tryf.prog 6 #[.agg #[.int .i64 (fd k), .bool (en k), .int .i64 (ix k), .string (ky k)]] W fun e w' => e = .returned (.string (pn k)) ∧ Below W.heap.size W w') := fun W hW k hk => by
    rw [hpn]
    exact place_any F nf (fd k) (en k) (ix k) (ky k) W (by rw [hW.tape]; exact HF.out) (HT.out.below hW) (HZ.out k hk).1 (HZ.out k hk).2.2 (HK1.out k hk)
  have HPS : Hid (∀ W, Below w.heap.size w W → Calls Tryf.prog 7 #[.slice a n c] W fun e w' => e = .returned (.string ⟨(nm en pn n).toArray⟩) ∧ Below W.heap.size W w') := fun W hW => by
    have h1 := HTP.out
    rw [hpn] at h1 ⊢
    exact pathString_any F nf a n c fd en ix ky W (by rw [hW.tape]; exact HF.out) (HT.out.below hW) (HP.out.below hW (Nat.le_refl _)) hW.size hn (fun k hk => ⟨(HZ.out k hk).1, (HZ.out k hk).2.2, HK1.out k hk⟩) h1
  clear hpz hpn ht HF HT
  have hmk := run_make28 n hn
  have FL : True := trivial
  go_enter Tryf.func3, Tryf.ntmps3
  go_wp2_with (first
    | (go_at_call 4; refine (zzBytes_any a n c fd en ix ky _ HP.out).mono ?_; rintro e w' ⟨⟨r, rfl, -⟩, hw⟩; rw [hw]; clear hw w'; cases r)
    | (go_at_call 5; refine (pathBytes_any a n c fd en ix ky _ HP.out hn).mono ?_; rintro e w' ⟨⟨r, rfl, -⟩, hw⟩; rw [hw]; clear hw w'; by_cases hr : (1048576 : Int) < r))
  all_goals first | (go_ret; exact ⟨rfl, B0⟩) | skip
  clear hmk hr
  obtain ⟨G0, hG0⟩ : ∃ G, (w.alloc (.cells (madeCells #[.int .i64 0, .bool false, .int .i64 0, .string ByteArray.empty] (n * 4)) 28)).rowIs w.heap.size 28 (n * 4) G := by
    have := World.rowIs_alloc w (madeCells #[.int .i64 0, .bool false, .int .i64 0, .string ByteArray.empty] (n * 4)) 28 _ (fun i hi => getD_there _ i hi)
    rw [size_madeCells] at this
    exact ⟨_, this⟩
  have HG0 : Hid ((w.alloc (.cells (madeCells #[.int .i64 0, .bool false, .int .i64 0, .string ByteArray.empty] (n * 4)) 28)).rowIs w.heap.size 28 (n * 4) G0) := hG0
  clear hG0
  go_loopw [4, 5] (fun i _ wr => ∃ k : Nat, k ≤ n ∧ i = .int .i64 k ∧ Below w.heap.size w wr ∧ ∃ G, wr.rowIs w.heap.size 28 (n * 4) G ∧ ∀ j, j < k → G (j * 4) = .int .i64 (fd j) ∧ G (j * 4 + 1) = .bool (en j) ∧ G (j * 4 + 2) = .int .i64 (ix j) ∧ G (j * 4 + 3) = .string (pn j)) (fun i _ _ => n - (intOf i).toNat)
  case atStart => exact ⟨0, by omega, rfl, B0.alloc (Nat.le_refl _) _, G0, HG0.out, fun j hj => absurd hj (by omega)⟩
  case round =>
    clear HG0
    obtain ⟨k, hk, rfl, hbw, G, hG, hGs⟩ := hrel
    have HBW : Hid (Below w.heap.size w wr) := hbw
    have HG : Hid (wr.rowIs w.heap.size 28 (n * 4) G) := hG
    have HGS : Hid (∀ j, j < k → G (j * 4) = .int .i64 (fd j) ∧ G (j * 4 + 1) = .bool (en j) ∧ G (j * 4 + 2) = .int .i64 (ix j) ∧ G (j * 4 + 3) = .string (pn j)) := hGs
    clear hbw hG hGs
    by_cases hlt : k < n
    · obtain ⟨b, off, ha, hb, hc⟩ := (HP.out.below HBW.out (Nat.le_refl _)).cells (by omega)
      subst ha
      obtain ⟨g0, g1, g2, g3⟩ := hc k hlt
      clear hc
      have hwl : w.heap.size < wr.heap.size := HG.out.lt
      have hbl : b < wr.heap.size := by omega
      have HR : Hid (∀ w1, Below (wr.heap.size + 1) (wr.alloc (.cells #[.int .i64 (fd k), .bool (en k), .int .i64 (ix k), .string (ky k)] 28)) w1 → w1.rowIs wr.heap.size 28 4 (fun i => #[Value.int .i64 (fd k), .bool (en k), .int .i64 (ix k), .string (ky k)].getD i undef) ∧ w1.rowIs w.heap.size 28 (n * 4) G ∧ Below w.heap.size w w1) := fun w1 b1 => by
        have h1 := World.rowIs_alloc wr #[Value.int .i64 (fd k), .bool (en k), .int .i64 (ix k), .string (ky k)] 28 _ (fun i hi => getD_there _ i hi)
        have h2 := HG.out.alloc (.cells #[.int .i64 (fd k), .bool (en k), .int .i64 (ix k), .string (ky k)] 28)
        exact ⟨h1.of_block (b1.block _ (by omega)), h2.of_block (b1.block _ (by omega)), Below.trans (HBW.out.alloc (by omega) _) (Below.mono b1 (by omega))⟩
      go_wp2_with (go_at_call 6; refine (HPL.out _ (HBW.out.alloc HBW.out.size _) k hlt).mono ?_)
      rintro e w1 ⟨rfl, b1'⟩
      have b1 : Below (wr.heap.size + 1) (wr.alloc (.cells #[.int .i64 (fd k), .bool (en k), .int .i64 (ix k), .string (ky k)] 28)) w1 := by
        have e0 : (wr.alloc (.cells #[.int .i64 (fd k), .bool (en k), .int .i64 (ix k), .string (ky k)] 28)).heap.size = wr.heap.size + 1 := by simp
        rw [e0] at b1'
        exact b1'
      clear b1'
      obtain ⟨q1, q2, q3⟩ := HR.out w1 b1
      have s0 := q1.cell (i := 0) (by omega)
      have s1 := q1.cell (i := 1) (by omega)
      have s2 := q1.cell (i := 2) (by omega)
      have s3 := q1.cell (i := 3) (by omega)
      have t3 := q1.frozen 3
      simp at s0 s1 s2 s3
      have r0 := q2.cell (i := k * 4) (by omega)
      have r1 := q2.cell (i := k * 4 + 1) (by omega)
      have r2 := q2.cell (i := k * 4 + 2) (by omega)
      have r3 := q2.cell (i := k * 4 + 3) (by omega)
      have f0 := q2.frozen (k * 4)
      have f1 := q2.frozen (k * 4 + 1)
      have f2 := q2.frozen (k * 4 + 2)
      have f3 := q2.frozen (k * 4 + 3)
      have hne1 : ¬ w.heap.size = wr.heap.size := by omega
      have hne2 : ¬ wr.heap.size = w.heap.size := by omega
      have Q2 : Hid (w1.rowIs w.heap.size 28 (n * 4) G) := q2
      have Q3 : Hid (Below w.heap.size w w1) := q3
      clear q1 q2 q3 b1 HR
      go_wp2
      refine ⟨⟨k + 1, by omega, by go_num, ?_, _, ((((Q2.out.setOther hne1 _).set _ _).set _ _).set _ _).set _ _, fun j hj => ?_⟩, by simp [intOf]; omega⟩
      · exact ((((Q3.out.setCell (by simp; omega) _).setCell (by simp) _).setCell (by simp) _).setCell (by simp) _).setCell (by simp) _
      · by_cases hjk : j = k
        · subst hjk
          refine ⟨?_, ?_, ?_, ?_⟩
          · rw [if_neg (by omega), if_neg (by omega), if_neg (by omega), if_pos rfl]
          · rw [if_neg (by omega), if_neg (by omega), if_pos rfl]
          · rw [if_neg (by omega), if_pos rfl]
          · rw [if_pos rfl]
        · obtain ⟨p0, p1, p2, p3⟩ := HGS.out j (by omega)
          refine ⟨?_, ?_, ?_, ?_⟩
          · rw [if_neg (by omega), if_neg (by omega), if_neg (by omega), if_neg (by omega)]; exact p0
          · rw [if_neg (by omega), if_neg (by omega), if_neg (by omega), if_neg (by omega)]; exact p1
          · rw [if_neg (by omega), if_neg (by omega), if_neg (by omega), if_neg (by omega)]; exact p2
          · rw [if_neg (by omega), if_neg (by omega), if_neg (by omega), if_neg (by omega)]; exact p3
    · have HPN : Hid (Ps (w.heap.size + 1) wr (some ⟨w.heap.size, 0, none⟩) n n fd en ix pn) := ⟨Nat.le_refl _, fun e => (by cases e), fun _ => ⟨w.heap.size, 0, rfl, by omega, fun i hi => by
        obtain ⟨p0, p1, p2, p3⟩ := HGS.out i (by omega)
        have r0 := HG.out.cell (i := i * 4) (by omega)
        have r1 := HG.out.cell (i := i * 4 + 1) (by omega)
        have r2 := HG.out.cell (i := i * 4 + 2) (by omega)
        have r3 := HG.out.cell (i := i * 4 + 3) (by omega)
        rw [p0] at r0
        rw [p1] at r1
        rw [p2] at r2
        rw [p3] at r3
        rw [Nat.zero_add]
        exact ⟨r0, r1, r2, r3⟩⟩⟩
      have hwl : w.heap.size + 1 ≤ wr.heap.size := HG.out.lt
      obtain ⟨S0, hS0⟩ : ∃ S : ByteArray, S = ⟨(nm en pn n).toArray⟩ := ⟨_, rfl⟩
      have H1 : Hid (Calls Tryf.prog 7 #[.slice a n c] wr fun e w' => e = .returned (.string S0) ∧ Below wr.heap.size wr w') := by rw [hS0]; exact HPS.out wr HBW.out
      have H2 : Hid (∀ W, Below wr.heap.size wr W → Calls Tryf.prog 8 #[.slice (some ⟨w.heap.size, 0, none⟩) n n] W fun e w' => e = .returned (.string S0) ∧ Below W.heap.size W w') := fun W hW => by
        rw [hS0]
        exact nameByKey_any _ n n fd en ix pn W (HPN.out.below hW hwl) (Nat.le_trans hwl hW.size) hn HTP.out
      by_cases hn0 : n = 0
      · have hne : S0 = ByteArray.empty := by rw [hS0, hn0]; rfl
        subst hne
        have he' := isEmpty_yes
        have t1 : ((n : Int) == 0) = true := by simp [hn0]
        clear hn0 hS0
        go_wp2_with (first
          | (go_at_call 7; refine H1.out.mono ?_; rintro e w2 ⟨rfl, b2⟩)
          | (go_at_call 8; refine (H2.out _ b2).mono ?_; rintro e w3 ⟨rfl, b3⟩))
        go_ret
        exact ⟨rfl, Below.trans HBW.out (Below.mono (Below.trans b2 (Below.mono b3 b2.size)) HBW.out.size)⟩
      · have hne : ¬ S0 = ByteArray.empty := by
          intro e
          rw [hS0] at e
          have e2 := congrArg (fun b : ByteArray => b.data.toList) e
          exact HNE.out (by omega) (by simpa using e2)
        have he' := isEmpty_no hne
        have t1 : ((n : Int) == 0) = false := by simp; omega
        clear hn0 hS0 hne
        go_wp2_with (first
          | (go_at_call 7; refine H1.out.mono ?_; rintro e w2 ⟨rfl, b2⟩)
          | (go_at_call 8; refine (H2.out _ b2).mono ?_; rintro e w3 ⟨rfl, b3⟩))
        go_ret
        exact ⟨rfl, Below.trans HBW.out (Below.mono (Below.trans b2 (Below.mono b3 b2.size)) HBW.out.size)⟩
end Go.Proofs.Qxb6608673aFmt
