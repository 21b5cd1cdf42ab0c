/-
  The law's own function, walked.
-/
import Derived.Test.Qxb6608555aLaw0
import Derived.Deep.RegionHeld3
import Derived.Deep.DeepCutAuto
namespace Go.Proofs.Qxb6608555a
open Go.RowKit
set_option maxRecDepth 100000

set_option maxHeartbeats 8000000 in
theorem law_walk (xs : Array Value) (os : Nat → Nat) (a1 a2 a3 : Option Addr) (n1 c1 n2 c2 n3 c3 : Nat) (ss1 : List ByteArray) (zs : List Int) (ss3 : List ByteArray) (w : World)
    (hxs : xs.size = 16384) (hxv : ∀ s, s < 16384 → xs[s]? = some (.int .u16 (os s : Nat))) (hob : ∀ s, s < 16384 → os s ≤ 65535)
    (h1 : Ss w.heap.size w a1 n1 c1 ss1) (h2 : Is w.heap.size w a2 n2 c2 zs) (h3 : Ss w.heap.size w a3 n3 c3 ss3) (b1 : n1 ≤ 140737488355328) (b3 : n3 ≤ 140737488355328) :
    Calls Try.prog 5 #[.agg xs, .slice a1 n1 c1, .slice a2 n2 c2, .slice a3 n3 c3] w fun e w' => e = .returned (.bool true) ∧ Ext w w' := by
  have hrow : (w.alloc (.cells xs 29)).rowIs w.heap.size 29 16384 (fun s => .int .u16 (os s : Nat)) := by
    have := World.rowIs_alloc w xs 29 (fun s => .int .u16 (os s : Nat)) (fun i hi => hxv i (by omega))
    rwa [hxs] at this
  have hrange : ∀ w', Ext (w.alloc (.cells xs 29)) w' → w'.rangeAt w.heap.size 0 xs.toList := fun w' hx j v hv => by
    have hj : j < 16384 := by have := (List.getElem?_eq_some_iff.1 hv).1; simp at this; omega
    rw [Nat.zero_add, (rowIs_ext hrow hx).cell (i := j) hj]
    simpa [hxv j hj] using hv
  have HROW : Hid ((w.alloc (.cells xs 29)).rowIs w.heap.size 29 16384 (fun s => .int .u16 (os s : Nat))) := hrow
  have HRG : Hid (∀ w', Ext (w.alloc (.cells xs 29)) w' → w'.rangeAt w.heap.size 0 xs.toList) := hrange
  have hr0 := hrange _ (Ext.refl _)
  have H1 : Hid (Ss w.heap.size w a1 n1 c1 ss1) := h1
  have H2 : Hid (Is w.heap.size w a2 n2 c2 zs) := h2
  have H3 : Hid (Ss w.heap.size w a3 n3 c3 ss3) := h3
  have HXV : Hid (∀ s, s < 16384 → xs[s]? = some (.int .u16 (os s : Nat))) := hxv
  have HOB : Hid (∀ s, s < 16384 → os s ≤ 65535) := hob
  clear hrow hrange h1 h2 h3 hxv hob
  have x0 : Ext w (w.alloc (.cells xs 29)) := (Ext.refl _).alloc _
  by_cases t1 : (65536 : Int) < n1 ∨ (4096 : Int) < n2 ∨ (4096 : Int) < n3
  · rcases t1 with t1 | t1 | t1
    · go_enter Try.func5, Try.ntmps5
      go_wp2_with (first
        | (refine wpList_load_mid rfl 29 _ rfl _ _ rfl _ _ hr0 Try.underlying29 rfl (by rw [Try.sz29]; simp [hxs]) ?_)
        | (go_at_call 17; refine (zzBytes_any xs a1 a2 a3 n1 c1 n2 c2 n3 c3 ss1 ss3 _ (x0.le) (H1.out.below x0 (Nat.le_refl _)) (H3.out.below x0 (Nat.le_refl _)) b1 b3).mono ?_; rintro e w1 ⟨⟨r, rfl⟩, x1⟩; cases r))
      all_goals (go_ret; exact ⟨rfl, x0.trans x1⟩)
    · by_cases t2 : (65536 : Int) < n1
      all_goals
        go_enter Try.func5, Try.ntmps5
        go_wp2_with (first
          | (refine wpList_load_mid rfl 29 _ rfl _ _ rfl _ _ hr0 Try.underlying29 rfl (by rw [Try.sz29]; simp [hxs]) ?_)
          | (go_at_call 17; refine (zzBytes_any xs a1 a2 a3 n1 c1 n2 c2 n3 c3 ss1 ss3 _ (x0.le) (H1.out.below x0 (Nat.le_refl _)) (H3.out.below x0 (Nat.le_refl _)) b1 b3).mono ?_; rintro e w1 ⟨⟨r, rfl⟩, x1⟩; cases r))
        all_goals (go_ret; exact ⟨rfl, x0.trans x1⟩)
    · by_cases t2 : (65536 : Int) < n1
      all_goals
        by_cases t3 : (4096 : Int) < n2
        all_goals
          go_enter Try.func5, Try.ntmps5
          go_wp2_with (first
            | (refine wpList_load_mid rfl 29 _ rfl _ _ rfl _ _ hr0 Try.underlying29 rfl (by rw [Try.sz29]; simp [hxs]) ?_)
            | (go_at_call 17; refine (zzBytes_any xs a1 a2 a3 n1 c1 n2 c2 n3 c3 ss1 ss3 _ (x0.le) (H1.out.below x0 (Nat.le_refl _)) (H3.out.below x0 (Nat.le_refl _)) b1 b3).mono ?_; rintro e w1 ⟨⟨r, rfl⟩, x1⟩; cases r))
          all_goals (go_ret; exact ⟨rfl, x0.trans x1⟩)
  have t1' : n1 ≤ 65536 ∧ n2 ≤ 4096 ∧ n3 ≤ 4096 := by omega
  obtain ⟨u1, u2, u3⟩ := t1'
  clear t1 b1 b3
  by_cases hnn : n2 = n3
  case neg =>
    have hnq : ((n2 : Int) == (n3 : Int)) = false := by simp; omega
    have hnq2 : ((n2 : Int) != (n3 : Int)) = true := by simp; omega
    go_enter Try.func5, Try.ntmps5
    go_wp2_with (first
      | (refine wpList_load_mid rfl 29 _ rfl _ _ rfl _ _ hr0 Try.underlying29 rfl (by rw [Try.sz29]; simp [hxs]) ?_)
      | (go_at_call 17; refine (zzBytes_any xs a1 a2 a3 n1 c1 n2 c2 n3 c3 ss1 ss3 _ (x0.le) (H1.out.below x0 (Nat.le_refl _)) (H3.out.below x0 (Nat.le_refl _)) (by omega) (by omega)).mono ?_; rintro e w1 ⟨⟨r, rfl⟩, x1⟩; have y1 : Ext w w1 := x0.trans x1; cases r)
      | (go_at_call_of 7 (Value.slice a1 n1 c1); refine (addStrings_any _ a1 n1 c1 ss1 _ (H1.out.below y1 (Nat.le_refl _)) u1).mono ?_; rintro e w' ⟨⟨r1, rfl⟩, hw⟩; rw [hw]; clear hw w')
      | (go_at_call_of 7 (Value.slice a3 n3 c3); refine (addStrings_any _ a3 n3 c3 ss3 _ (H3.out.below y1 (Nat.le_refl _)) (by omega)).mono ?_; rintro e w' ⟨⟨r2, rfl⟩, hw⟩; rw [hw]; clear hw w'))
    all_goals (go_ret; exact ⟨rfl, by first | exact y1 | exact x0.trans x1⟩)
  subst hnn
  go_enter Try.func5, Try.ntmps5
  go_wp2_with (first
    | (refine wpList_load_mid rfl 29 _ rfl _ _ rfl _ _ hr0 Try.underlying29 rfl (by rw [Try.sz29]; simp [hxs]) ?_)
    | (go_at_call 17; refine (zzBytes_any xs a1 a2 a3 n1 c1 n2 c2 n2 c3 ss1 ss3 _ (x0.le) (H1.out.below x0 (Nat.le_refl _)) (H3.out.below x0 (Nat.le_refl _)) (by omega) (by omega)).mono ?_; rintro e w1 ⟨⟨r, rfl⟩, x1⟩; have y1 : Ext w w1 := x0.trans x1; cases r)
    | (go_at_call_of 7 (Value.slice a1 n1 c1); refine (addStrings_any _ a1 n1 c1 ss1 _ (H1.out.below y1 (Nat.le_refl _)) u1).mono ?_; rintro e w' ⟨⟨r1, rfl⟩, hw⟩; rw [hw]; clear hw w')
    | (go_at_call_of 7 (Value.slice a3 n2 c3); refine (addStrings_any _ a3 n2 c3 ss3 _ (H3.out.below y1 (Nat.le_refl _)) (by omega)).mono ?_; rintro e w' ⟨⟨r2, rfl⟩, hw⟩; rw [hw]; clear hw w')
    | (go_at_call 12; refine (wellFormed_any w.heap.size _ os a1 n1 c1 ss1 _ (rowIs_ext HROW.out x1) (fun s _ => rfl) HOB.out (H1.out.below y1 (Nat.le_refl _)) y1.le u1).mono ?_; rintro e w2 ⟨⟨r3, rfl, hwf⟩, x2⟩; have y2 : Ext w w2 := y1.trans x2; have HWF : Hid (r3 = true → Wf os n1 ss1) := hwf; clear hwf; cases r3))
  all_goals first | (go_ret; exact ⟨rfl, by first | exact y2 | exact y1 | exact x0.trans x1⟩) | skip
  go_loop [10] (fun i => ∃ k : Nat, k ≤ n2 ∧ i = .int .i64 k ∧ ∀ j, j < k → 0 ≤ zs.getD j 0 ∧ zs.getD j 0 < 16384) (fun i => n2 - (intOf i).toNat)
  case atStart => exact ⟨0, by omega, rfl, fun j hj => absurd hj (by omega)⟩
  case round =>
    obtain ⟨k, hk, rfl, hz⟩ := hrel
    have HZ : Hid (∀ j, j < k → 0 ≤ zs.getD j 0 ∧ zs.getD j 0 < 16384) := hz
    clear hz
    by_cases hlt : k < n2
    · obtain ⟨b, off, rfl, hb, hc⟩ := (H2.out.below y2 (Nat.le_refl _)).cells (by omega)
      have g := hc k hlt
      obtain ⟨z, hzz⟩ : ∃ z, zs.getD k 0 = z := ⟨_, rfl⟩
      rw [hzz] at g
      have HZZ : Hid (zs.getD k 0 = z) := hzz
      clear hc hzz
      by_cases v1 : z < 0
      · go_wp2
        go_ret
        exact ⟨rfl, y2⟩
      · by_cases v2 : (16384 : Int) ≤ z
        · go_wp2
          go_ret
          exact ⟨rfl, y2⟩
        · go_wp2
          go_round
          case rel =>
            refine ⟨k + 1, by omega, by go_num, fun j hj => ?_⟩
            by_cases hjk : j < k
            · exact HZ.out j hjk
            · have : j = k := by omega
              subst this
              rw [HZZ.out]
              omega
          case measure => simp [intOf]; omega
    · have hkn : n2 = k := by omega
      subst hkn
      have hmm := @run_makeMap Try.prog
      go_wp2
      clear hmm hlt hk
      have hwf := HWF.out (by first | rfl | trivial)
      have HWF2 : Hid (Wf os n1 ss1) := hwf
      have hn1 : 0 < n1 := hwf.1
      clear HWF hwf
      go_loopw [12] (fun i wr => ∃ k : Nat, 1 ≤ k ∧ k ≤ n1 ∧ i = .int .i64 k ∧ Ext w2 wr ∧ ∃ M, SMap wr w2.heap.size M ∧ NodesOk wr M) (fun i _ => n1 - (intOf i).toNat)
      case atStart => exact ⟨1, by omega, by omega, rfl, (Ext.refl _).alloc _, _, SMap.made w2, rfl, fun x v hv => by cases hv⟩
      case round =>
        obtain ⟨k, hk1, hk, rfl, hx, M, hM, hN⟩ := hrel
        have HM : Hid (SMap wr w2.heap.size M) := hM
        have HN : Hid (NodesOk wr M) := hN
        clear hM hN
        by_cases hlt : k < n1
        · obtain ⟨b, off, rfl, hb, hc⟩ := (H1.out.below (y2.trans hx) (Nat.le_refl _)).cells (by omega)
          have g := hc k hlt
          obtain ⟨x, hxx⟩ : ∃ x, ss1.getD k ByteArray.empty = x := ⟨_, rfl⟩
          rw [hxx] at g
          have HX : Hid (¬ x = ByteArray.empty) := by rw [← hxx]; exact HWF2.out.2.2.1 k hk1 hlt
          clear hc hxx
          have g' : (wr.alloc (.cells (nodeCells x) 47)).cell? ⟨b, off + k, none⟩ = some (.string x) := by rw [((Ext.refl wr).alloc _).cell (p := ⟨b, off + k, none⟩) (show b < wr.heap.size by have := (y2.trans hx).le; omega)]; exact g
          obtain ⟨wn, hup, z1, z2, z3⟩ := node_added HM.out HN.out hx HX.out
          have HZ1 : Hid (Ext w2 wn ∧ SMap wn w2.heap.size (fun k' => if (k' == x) = true then some (.pointer (some ⟨wr.heap.size, 0, none⟩)) else M k') ∧ NodesOk wn (fun k' => if (k' == x) = true then some (.pointer (some ⟨wr.heap.size, 0, none⟩)) else M k')) := ⟨z1, z2, z3⟩
          clear z1 z2 z3
          go_wp2
          go_region
          go_wp2
          go_roundw
          case rel => exact ⟨k + 1, by omega, by omega, by go_num, HZ1.out.1, _, HZ1.out.2.1, HZ1.out.2.2⟩
          case measure => simp [intOf]; omega
        · go_wp2
          clear hlt hk hk1
          go_loopw [13] (fun i wr => ∃ k : Nat, k ≤ n2 ∧ i = .int .i64 k ∧ Ext w2 wr ∧ ∃ M, SMap wr w2.heap.size M ∧ NodesOk wr M) (fun i _ => n2 - (intOf i).toNat)
          case atStart => exact ⟨0, by omega, rfl, hx, M, HM.out, HN.out⟩
          case round =>
            clear HM HN hx
            obtain ⟨k, hk, rfl, hx, M, hM, hN⟩ := hrel
            have HM : Hid (SMap wr w2.heap.size M) := hM
            have HN : Hid (NodesOk wr M) := hN
            clear hM hN
            by_cases hlt : k < n2
            · obtain ⟨b, off, rfl, hb, hc⟩ := (H3.out.below (y2.trans hx) (Nat.le_refl _)).cells (by omega)
              have g := hc k hlt
              obtain ⟨x, hxx⟩ : ∃ x, ss3.getD k ByteArray.empty = x := ⟨_, rfl⟩
              rw [hxx] at g
              clear hc hxx
              by_cases hxe : x = ByteArray.empty
              · subst hxe
                have he' := isEmpty_yes
                go_wp2
                go_roundw
                case rel => exact ⟨k + 1, by omega, by go_num, hx, _, HM.out, HN.out⟩
                case measure => simp [intOf]; omega
              · have he' := isEmpty_no hxe
                have hlk := run_lookup_str (P := Try.prog) HM.out 42 9 43 (.pointer none) x Try.underlying42 Try.underlying9 zero43
                cases hMx : M x with
                | some v =>
                  obtain ⟨nb, rfl, -, -⟩ := HN.out.2 x v hMx
                  rw [hMx] at hlk
                  simp only [Option.getD_some] at hlk
                  clear hMx
                  go_wp2
                  go_roundw
                  case rel => exact ⟨k + 1, by omega, by go_num, hx, _, HM.out, HN.out⟩
                  case measure => simp [intOf]; omega
                | none =>
                  rw [hMx] at hlk
                  simp only [Option.getD_none] at hlk
                  clear hMx
                  have g' : (wr.alloc (.cells (nodeCells x) 47)).cell? ⟨b, off + k, none⟩ = some (.string x) := by rw [((Ext.refl wr).alloc _).cell (p := ⟨b, off + k, none⟩) (show b < wr.heap.size by have := (y2.trans hx).le; omega)]; exact g
                  obtain ⟨wn, hup, z1, z2, z3⟩ := node_added HM.out HN.out hx hxe
                  have HZ1 : Hid (Ext w2 wn ∧ SMap wn w2.heap.size (fun k' => if (k' == x) = true then some (.pointer (some ⟨wr.heap.size, 0, none⟩)) else M k') ∧ NodesOk wn (fun k' => if (k' == x) = true then some (.pointer (some ⟨wr.heap.size, 0, none⟩)) else M k')) := ⟨z1, z2, z3⟩
                  clear z1 z2 z3
                  go_wp2
                  go_region
                  go_wp2
                  go_roundw
                  case rel => exact ⟨k + 1, by omega, by go_num, HZ1.out.1, _, HZ1.out.2.1, HZ1.out.2.2⟩
                  case measure => simp [intOf]; omega
            · go_wp2
              clear hlt hk
              have y3 : Ext w wr := y2.trans hx
              have x3 : Ext (w.alloc (.cells xs 29)) wr := x1.trans (x2.trans hx)
              obtain ⟨lx, hlx⟩ : ∃ lx, lx = xs.toList := ⟨_, rfl⟩
              have hll : lx.length = 16384 := by rw [hlx]; simpa using hxs
              have HR25 : ∀ c, Ext wr c → c.rangeAt w.heap.size 0 lx := fun c hc => by rw [hlx]; exact HRG.out c (x3.trans hc)
              have hsz29 : (Try.prog.info? 29).map (·.size) = some lx.length := by rw [hll]; exact Try.sz29
              have hu29 := Try.underlying29
              have S0 : Ext wr wr.drew ∧ wr.drew.rangeAt w.heap.size 0 lx := ⟨(Ext.refl _).drew, HR25 _ ((Ext.refl _).drew)⟩
              go_region_held3 (fun w' => Ext wr w' ∧ w'.rangeAt w.heap.size 0 lx) (first | exact S0 | exact keepS (by assumption) (by assumption) HR25)
                (first
                  | (go_at_call 14; refine (cloneStrings_any a1 n1 c1 ss1 _ ((H1.out.below y3 (Nat.le_refl _)).below (B' := wr.heap.size) (And.left (by assumption)) y3.le) u1 (Nat.le_trans y3.le (Ext.le (And.left (by assumption))))).mono ?_; rintro e w3 ⟨ac, rfl, k3, x4⟩)
                  | (go_at_call 18; refine (tableOf_any xs hxs ac n1 n1 _).mono ?_; rintro e w4 ⟨tb, rfl, k4, ⟨F, f1, f2, f3⟩, x5⟩))
              rename_i hh
              have x6 : Ext wr w4 := hh.1
              have HTB : Hid (Tb w4 tb os ac n1 n1) := ⟨F, f1, fun s hs => by rw [f2 s hs, Array.getD_eq_getD_getElem?, HXV.out s hs]; rfl, f3⟩
              have HSS : Hid (Ss w4.heap.size w4 ac n1 n1 ss1) := (k3.below (B' := w3.heap.size) x5 (Nat.le_refl _)).mono x5.le
              clear hh S0 HR25 k3 k4 f1 f2 f3 x4 x5 hsz29 hu29
              have NOTYET : True := trivial
              go_wp2_with (first
                | (go_at_call 19; clear NOTYET; refine (newView_any _ tb _).mono ?_; rintro e w5 ⟨bb, rfl, kb, vw5, x7⟩; have HB5 : Hid (Vw w5 bb w2.heap.size tb false) := vw5; clear vw5 kb)
                | (go_at_call 19; refine (newView_any _ tb _).mono ?_; rintro e w6 ⟨vb, rfl, kv, vw6, x8⟩; have HV6 : Hid (Vw w6 vb w2.heap.size tb false) := vw6; clear vw6)
                | (refine wpList_alloc32 rfl rfl ?_))
              have HVL : Hid (vb < w6.heap.size) := HV6.out.lt
              have hvl := HV6.out.lt
              have x9 : Ext wr w6 := x6.trans (x7.trans x8)
              have y9 : Ext w w6 := y3.trans x9
              have z9 : Ext (w.alloc (.cells xs 29)) w6 := x3.trans x9
              obtain ⟨G0, hG0⟩ := model_new w6
              have HG0 : Hid ((w6.alloc (.cells (Array.replicate 16384 (.string ByteArray.empty)) 32)).rowIs w6.heap.size 32 16384 G0) := hG0
              clear hG0
              go_loopw [18] (fun i wq => ∃ k : Nat, k ≤ 16384 ∧ i = .int .i64 k ∧ Ext w6 wq ∧ ∃ G, wq.rowIs w6.heap.size 32 16384 G ∧ ∀ s, s < k → G s = .string (ss1.getD (os s) ByteArray.empty)) (fun i _ => 16384 - (intOf i).toNat)
              case atStart => exact ⟨0, by omega, rfl, (Ext.refl _).alloc _, G0, HG0.out, fun s hs => absurd hs (by omega)⟩
              case round =>
                obtain ⟨k, hk, rfl, hxq, G, hG, hGs⟩ := hrel
                have HG : Hid (wr.rowIs w6.heap.size 32 16384 G) := hG
                have HGS : Hid (∀ s, s < k → G s = .string (ss1.getD (os s) ByteArray.empty)) := hGs
                clear hG hGs
                by_cases hlt : k < 16384
                · have c1 := (rowIs_ext HROW.out (z9.trans hxq)).cell (i := k) hlt
                  have hp1 := HWF2.out.2.2.2 k hlt
                  have hp2 := HOB.out k hlt
                  obtain ⟨p, hp⟩ : ∃ p, os k = p := ⟨_, rfl⟩
                  rw [hp] at c1 hp1 hp2
                  obtain ⟨b, off, ha, hb, hc⟩ := (H1.out.below (y9.trans hxq) (Nat.le_refl _)).cells (by omega)
                  subst ha
                  have g := hc p hp1
                  obtain ⟨x, hxx⟩ : ∃ x, ss1.getD p ByteArray.empty = x := ⟨_, rfl⟩
                  rw [hxx] at g
                  have HX : Hid (ss1.getD (os k) ByteArray.empty = x) := by rw [hp]; exact hxx
                  have c3 := HG.out.cell (i := k) hlt
                  have f3 := HG.out.frozen k
                  clear hc hxx hp
                  go_wp2
                  go_roundw
                  case rel =>
                    refine ⟨k + 1, by omega, by go_num, Ext.setCell hxq (Nat.le_refl _) _, _, HG.out.set k _, fun s hs => ?_⟩
                    by_cases hsk : s = k
                    · simp only [hsk, if_true, HX.out]
                    · simp only [if_neg hsk]
                      exact HGS.out s (by omega)
                  case measure => simp [intOf]; omega
                · have hgs4 : ∀ s, s < 16384 → G s = .string (ss1.getD (os s) ByteArray.empty) := fun s hs => HGS.out s (by omega)
                  have HGS4 : Hid (∀ s, s < 16384 → G s = .string (ss1.getD (os s) ByteArray.empty)) := hgs4
                  clear hgs4
                  go_wp2
                  have hsz56 : w5.heap.size ≤ w6.heap.size := x8.le
                  have v5 : Below w5.heap.size w5 wr := Below.trans x8 (Below.mono hxq hsz56)
                  have xr5 : Ext w2 w5 := hx.trans (x6.trans x7)
                  have HA1 : Hid (∀ c, Below w5.heap.size w5 c → Tb c tb os ac n1 n1 ∧ Ss w4.heap.size c ac n1 n1 ss1) := fun c hc => ⟨(HTB.out.of_block (x7.block _ HTB.out.lt)).of_block (hc.block _ (Nat.lt_of_lt_of_le HTB.out.lt x7.le)), (HSS.out.below x7 (Nat.le_refl _)).below hc x7.le⟩
                  have HA2 : Hid (∀ c, Below w5.heap.size w5 c → SMap c w2.heap.size M) := fun c hc => (HM.out.of_block ((x6.trans x7).block _ HM.out.lt)).of_block (hc.block _ (Nat.lt_of_lt_of_le HM.out.lt (x6.trans x7).le))
                  have HA3 : Hid (∀ c, Below w5.heap.size w5 c → ∀ x, ∃ np y, NK M x = .pointer np ∧ NodeIs c vb np y ∧ NK M y = NK M x) := fun c hc x => by
                    obtain ⟨np, y, e1, e2, e3⟩ := node_of HN.out x
                    exact ⟨np, y, e1, (e2.below (x6.trans x7) (Nat.le_refl _) (x6.trans x7).le).below hc (Nat.le_refl _) kv, e3⟩
                  have HA4 : Hid (∀ c, Below w5.heap.size w5 c → Vw c bb w2.heap.size tb false) := fun c hc => HB5.out.of_block (hc.block _ HB5.out.lt)
                  have hsw5 : w.heap.size ≤ w5.heap.size := (y2.trans xr5).le
                  have HA5 : Hid (∀ c, Below w5.heap.size w5 c → Is w.heap.size c a2 n2 c2 zs ∧ Ss w.heap.size c a3 n2 c3 ss3 ∧ Ss w.heap.size c a1 n1 c1 ss1) := fun c hc => ⟨(H2.out.below (y2.trans xr5) (Nat.le_refl _)).below hc hsw5, (H3.out.below (y2.trans xr5) (Nat.le_refl _)).below hc hsw5, (H1.out.below (y2.trans xr5) (Nat.le_refl _)).below hc hsw5⟩
                  have HA6 : Hid (∀ c, Below w5.heap.size w5 c → c.rowIs w.heap.size 29 16384 (fun s => .int .u16 (os s : Nat)) ∧ c.rangeAt w.heap.size 0 xs.toList) := fun c hc => by
                    have hr5 := rowIs_ext HROW.out (x1.trans (x2.trans xr5))
                    have hrc := rowIs_below hr5 hc hr5.lt
                    refine ⟨hrc, fun j v hv => ?_⟩
                    have hj : j < 16384 := by have := (List.getElem?_eq_some_iff.1 hv).1; simp at this; omega
                    rw [Nat.zero_add, hrc.cell (i := j) hj]
                    simpa [HXV.out j hj] using hv
                  have HA7 : Hid (M ByteArray.empty = none) := HN.out.1
                  have HA8 : Hid (tb < w5.heap.size ∧ Ext w w5 ∧ w4.heap.size ≤ w5.heap.size) := ⟨Nat.lt_of_lt_of_le HTB.out.lt x7.le, y2.trans xr5, x7.le⟩
                  have HSC : Hid (Sc w5.heap.size w5 wr vb w6.heap.size w2.heap.size tb os ss1 M 0 (.pointer none) (fun s => ss1.getD (os s) ByteArray.empty)) :=
                    ⟨v5, ⟨G, HG.out, HGS4.out⟩, .inl ⟨rfl, rfl, HV6.out.of_block (hxq.block vb hvl), fun s _ => rfl⟩⟩
                  clear v5 xr5 HG HGS HGS4 hxq hk hlt
                  go_loopw [19, 20] (fun f i wr => ∃ k : Nat, k ≤ n2 ∧ i = .int .i64 k ∧ ∃ md, Sc w5.heap.size w5 wr vb w6.heap.size w2.heap.size tb os ss1 M k f md) (fun _ i _ => n2 - (intOf i).toNat)
                  case atStart => exact ⟨0, by omega, rfl, _, HSC.out⟩
                  case round =>
                    clear HSC
                    obtain ⟨k, hk, rfl, md, hS⟩ := hrel
                    have HS : Hid (Sc w5.heap.size w5 wr vb w6.heap.size w2.heap.size tb os ss1 M k _ md) := hS
                    clear hS
                    by_cases hlt : k < n2
                    · obtain ⟨b2, off2, ha2, hb2, hc2⟩ := (HA5.out _ HS.out.below).1.cells (by omega)
                      subst ha2
                      obtain ⟨b3, off3, ha3, hb3, hc3⟩ := (HA5.out _ HS.out.below).2.1.cells (by omega)
                      subst ha3
                      have g2 := hc2 k hlt
                      have g3 := hc3 k hlt
                      obtain ⟨x, hxx⟩ : ∃ x, ss3.getD k ByteArray.empty = x := ⟨_, rfl⟩
                      rw [hxx] at g3
                      have hz1 := HZ.out k hlt
                      obtain ⟨sl, hsl⟩ : ∃ sl : Nat, zs.getD k 0 = sl := ⟨(zs.getD k 0).toNat, by omega⟩
                      rw [hsl] at g2 hz1
                      have hs1 : sl < 16384 := by omega
                      clear hc2 hc3 hxx hsl hz1
                      obtain ⟨np, y, e1, e2, e3⟩ := HA3.out _ HS.out.below x
                      have hlk := run_lookup_str (P := Try.prog) ((HA2.out _ HS.out.below).of_block (w' := wr.drew) rfl) 42 9 43 (.pointer none) x Try.underlying42 Try.underlying9 zero43
                      have e1' : (M x).getD (.pointer none) = .pointer np := e1
                      rw [e1'] at hlk
                      have hb2' : b2 < w5.heap.size := by omega
                      have hb3' : b3 < w5.heap.size := by omega
                      have HS0 : wr.drew.cell? ⟨b2, off2 + k, none⟩ = some (.int .i64 sl) ∧ wr.drew.cell? ⟨b3, off3 + k, none⟩ = some (.string x) := ⟨g2, g3⟩
                      have HMW : Hid (w6.heap.size < wr.heap.size) := by obtain ⟨G, hG, _⟩ := HS.out.model; exact hG.lt
                      rcases HS.out.st with ⟨hk0, hf, hv, hm⟩ | ⟨lo, fb, os', ss', hk0, hf, hv, hT, hml, hlo, hl, hm⟩
                      · have hke : ((k : Int) == 0) = true := by simp [hk0]
                        have HK0 : Hid (k = 0) := hk0
                        clear hk0
                        subst hf
                        have HCALL : Hid (Calls Try.prog 20 #[.pointer (some ⟨vb, 0, none⟩), .int .i64 sl, .pointer np] wr.drew fun e w' => e = .returned (.tuple #[]) ∧ ∃ fb lo os' ss', Mid w5.heap.size wr w' vb w6.heap.size w2.heap.size fb lo os' ss' ∧ ss'.length ≤ 16386 ∧ ∀ s, s < 16384 → NK M (ss'.getD (os' s) ByteArray.empty) = NK M (if s = sl then x else md s)) :=
                          sc_first kv hvl HMW.out hv (HA1.out _ HS.out.below).1 (HA1.out _ HS.out.below).2 (Nat.le_trans HA8.out.2.2 HS.out.below.size) u1 HWF2.out.2.1 HWF2.out.2.2.2 HOB.out hs1 e2 e3 hm
                        clear hv hm e2 e3 e1 e1'
                        go_wp2
                        go_region_held3 (fun w' => w'.cell? ⟨b2, off2 + k, none⟩ = some (.int .i64 sl) ∧ w'.cell? ⟨b3, off3 + k, none⟩ = some (.string x)) (first | exact HS0 | exact ⟨g2', g3'⟩)
                          ((go_at_call 20; refine HCALL.out.mono ?_; rintro e w7 ⟨rfl, fb, lo, os', ss', hmid, hl, hval⟩; have g2' : w7.cell? ⟨b2, off2 + k, none⟩ = some (.int .i64 sl) := (hmid.below.cell (p := ⟨b2, off2 + k, none⟩) hb2').trans g2; have g3' : w7.cell? ⟨b3, off3 + k, none⟩ = some (.string x) := (hmid.below.cell (p := ⟨b3, off3 + k, none⟩) hb3').trans g3))
                        have HSN : Hid (Sc w5.heap.size w5 (w7.setCell ⟨w6.heap.size, sl, none⟩ (.string x)).drew vb w6.heap.size w2.heap.size tb os ss1 M (k + 1) (.pointer (some ⟨fb, 0, none⟩)) (fun s => if s = sl then x else md s)) := sc_stored kv hvl HS.out.below HS.out.model hmid (by omega) hval
                        have HVW : Hid (Vw (w7.setCell ⟨w6.heap.size, sl, none⟩ (.string x)).drew vb w2.heap.size fb true) := hmid.view.of_block (Below.heap_setCell _ _ _ _ (show vb ≠ w6.heap.size by omega))
                        obtain ⟨G, hG, -⟩ := HS.out.model
                        have hG7 := hG.of_block hmid.model
                        have c7 := hG7.cell (i := sl) hs1
                        have f7 := hG7.frozen sl
                        clear hmid hl hval hG hG7 hlk HS0
                        go_wp2
                        go_region
                        go_wp2_with (go_at_call 21; refine (viewOwners_any vb w2.heap.size fb true _ HVW.out).mono ?_; rintro e w' ⟨rfl, hw⟩; rw [hw]; clear hw w')
                        go_roundw
                        case rel => exact ⟨k + 1, by omega, by go_num, _, HSN.out⟩
                        case measure => simp [intOf]; omega
                      · have hke : ((k : Int) == 0) = false := by simp; omega
                        subst hf
                        have HCALL : Hid (Calls Try.prog 20 #[.pointer (some ⟨vb, 0, none⟩), .int .i64 sl, .pointer np] wr.drew fun e w' => e = .returned (.tuple #[]) ∧ ∃ os' ss', Mid w5.heap.size wr w' vb w6.heap.size w2.heap.size fb lo os' ss' ∧ ss'.length ≤ 16386 + (k + 1) ∧ ∀ s, s < 16384 → NK M (ss'.getD (os' s) ByteArray.empty) = NK M (if s = sl then x else md s)) :=
                          sc_next kv hvl hv hT hml hlo (by omega) hl hs1 e2 e3 hm
                        clear hv hm e2 e3 e1 e1' hT hml hlo hl hk0
                        go_wp2
                        go_region_held3 (fun w' => w'.cell? ⟨b2, off2 + k, none⟩ = some (.int .i64 sl) ∧ w'.cell? ⟨b3, off3 + k, none⟩ = some (.string x)) (first | exact HS0 | exact ⟨g2', g3'⟩)
                          ((go_at_call 20; refine HCALL.out.mono ?_; rintro e w7 ⟨rfl, os', ss', hmid, hl, hval⟩; have g2' : w7.cell? ⟨b2, off2 + k, none⟩ = some (.int .i64 sl) := (hmid.below.cell (p := ⟨b2, off2 + k, none⟩) hb2').trans g2; have g3' : w7.cell? ⟨b3, off3 + k, none⟩ = some (.string x) := (hmid.below.cell (p := ⟨b3, off3 + k, none⟩) hb3').trans g3))
                        have HSN : Hid (Sc w5.heap.size w5 (w7.setCell ⟨w6.heap.size, sl, none⟩ (.string x)).drew vb w6.heap.size w2.heap.size tb os ss1 M (k + 1) (.pointer (some ⟨fb, 0, none⟩)) (fun s => if s = sl then x else md s)) := sc_stored kv hvl HS.out.below HS.out.model hmid (by omega) hval
                        obtain ⟨G, hG, -⟩ := HS.out.model
                        have hG7 := hG.of_block hmid.model
                        have c7 := hG7.cell (i := sl) hs1
                        have f7 := hG7.frozen sl
                        clear hmid hl hval hG hG7 hlk HS0
                        go_wp2
                        go_region
                        go_wp2
                        go_roundw
                        case rel => exact ⟨k + 1, by omega, by go_num, _, HSN.out⟩
                        case measure => simp [intOf]; omega
                    · have hkn : n2 = k := by omega
                      subst hkn
                      obtain ⟨G, hG, hGs⟩ := HS.out.model
                      have HG : Hid (wr.rowIs w6.heap.size 32 16384 G) := hG
                      have HGS : Hid (∀ s, s < 16384 → G s = .string (md s)) := hGs
                      clear hG hGs
                      have HW : Hid (Below w5.heap.size w5 wr) := HS.out.below
                      obtain ⟨tb', own, os', a', n', c', ss', r1, r2, r3, r4, r5, r6⟩ := sc_done HS.out u2 (by have := HA8.out.1; omega) HA7.out (HA1.out _ HW.out).1 (HA1.out _ HW.out).2 (Nat.le_trans HA8.out.2.2 HW.out.size) u1 HWF2.out.2.1 HWF2.out.2.2.2 HOB.out
                      have R1 : Hid (Vw wr vb w2.heap.size tb' own) := r1
                      have R2 : Hid (Tb wr tb' os' a' n' c') := r2
                      have R3 : Hid (Ss wr.heap.size wr a' n' c' ss') := r3
                      have R4 : Hid (n' ≤ 1048576) := r4
                      have R5 : Hid (∀ s, s < 16384 → os' s < n' ∧ os' s ≤ 65535 ∧ ownerOf M (os' s) ss' = NK M (md s)) := r5
                      have R6 : Hid ((n2 = 0 ∧ tb' = tb ∧ own = false) ∨ (0 < n2 ∧ _ = Value.pointer (some ⟨tb', 0, none⟩) ∧ own = true ∧ tb' ≠ tb)) := r6
                      obtain ⟨wL, hwL⟩ : ∃ wL, wL = wr := ⟨_, rfl⟩
                      have X0 : Ext wL wr := by rw [hwL]; exact Ext.refl _
                      rw [← hwL] at HG HW R1 R2 R3
                      clear r1 r2 r3 r4 r5 r6 HS hwL
                      go_wp2
                      go_loopw [21] (fun i wr => ∃ k : Nat, k ≤ 16384 ∧ i = .int .i64 k ∧ Ext wL wr) (fun i _ => 16384 - (intOf i).toNat)
                      case atStart => exact ⟨0, by omega, rfl, X0⟩
                      case round =>
                        clear X0
                        obtain ⟨k, hk, rfl, hq⟩ := hrel
                        by_cases hlt : k < 16384
                        · have hb : Below w5.heap.size w5 wr := Below.trans HW.out (Below.mono hq HW.out.size)
                          have HBW : Hid (Below w5.heap.size w5 wr) := hb
                          clear hb
                          have c3 := (rowIs_ext HG.out hq).cell (i := k) hlt
                          rw [HGS.out k hlt] at c3
                          obtain ⟨np, y, e1, -, -⟩ := HA3.out _ HBW.out (md k)
                          have HOWN : Hid (∀ q, Calls Try.prog 22 #[.pointer (some ⟨vb, 0, none⟩), .int .i64 k] (wr.drewN q) fun e w' => e = .returned (.pointer np) ∧ ∃ m, w' = (wr.drewN q).drewN m) := fun q => by
                            have hqq := hq.drewN q
                            have := zzOwner_any vb w2.heap.size tb' own os' a' n' c' ss' M k (wr.drewN q) (R1.out.of_block (hqq.block _ R1.out.lt)) (R2.out.of_block (hqq.block _ R2.out.lt)) (R3.out.below hqq (Nat.le_refl _)) ((HA2.out _ HBW.out).of_block rfl) hlt (R5.out k hlt).1 (R5.out k hlt).2.1 R4.out
                            rw [(R5.out k hlt).2.2, e1] at this
                            exact this
                          have hlk := fun q => run_lookup_str (P := Try.prog) ((HA2.out _ HBW.out).of_block (w' := wr.drewN q) rfl) 42 9 43 (.pointer none) (md k) Try.underlying42 Try.underlying9 zero43
                          have e1' : (M (md k)).getD (.pointer none) = .pointer np := e1
                          rw [e1'] at hlk
                          clear e1 e1'
                          obtain ⟨x, hxx⟩ : ∃ x, md k = x := ⟨_, rfl⟩
                          rw [hxx] at hlk c3
                          clear hxx
                          have hnp := run_neq_self Try.underlying43 Try.info47s np
                          go_wp2
                          go_quiet (first | (go_at_call 22; exact Calls.quiet_of (HOWN.out _)))
                          go_wp2
                          clear HOWN hlk hnp c3
                          obtain ⟨wb, hwb⟩ : ∃ wb, wb = wr.drewN nq := ⟨_, rfl⟩
                          have hqb : Ext wL wb := by rw [hwb]; exact hq.drewN _
                          rw [← hwb]
                          have hb : Below w5.heap.size w5 wb := Below.trans HW.out (Below.mono hqb HW.out.size)
                          have HBB : Hid (Below w5.heap.size w5 wb) := hb
                          clear hb hwb
                          have c1 := (HA6.out _ HBB.out).1.cell (i := k) hlt
                          have hp1 := HWF2.out.2.2.2 k hlt
                          have hp2 := HOB.out k hlt
                          obtain ⟨b, off, ha, hb, hc⟩ := (HA5.out _ HBB.out).2.2.cells (by omega)
                          have g := hc (os k) hp1
                          obtain ⟨np2, y2', e1, -, -⟩ := HA3.out _ HBB.out (ss1.getD (os k) ByteArray.empty)
                          have HOWN : Hid (∀ q, Calls Try.prog 22 #[.pointer (some ⟨bb, 0, none⟩), .int .i64 k] (wb.drewN q) fun e w' => e = .returned (.pointer np2) ∧ ∃ m, w' = (wb.drewN q).drewN m) := fun q => by
                            have hbq : Below w5.heap.size w5 (wb.drewN q) := Below.trans HBB.out (Below.mono ((Ext.refl wb).drewN q) HBB.out.size)
                            have := zzOwner_any bb w2.heap.size tb false os ac n1 n1 ss1 M k (wb.drewN q) (HA4.out _ hbq) (HA1.out _ hbq).1 (HA1.out _ hbq).2 (HA2.out _ hbq) hlt hp1 hp2 (by omega)
                            rw [ownerOf_nk HA7.out HWF2.out.2.1, e1] at this
                            exact this
                          have hlk := fun q => run_lookup_str (P := Try.prog) ((HA2.out _ HBB.out).of_block (w' := wb.drewN q) rfl) 42 9 43 (.pointer none) (ss1.getD (os k) ByteArray.empty) Try.underlying42 Try.underlying9 zero43
                          have e1' : (M (ss1.getD (os k) ByteArray.empty)).getD (.pointer none) = .pointer np2 := e1
                          rw [e1'] at hlk
                          clear e1 e1' hc
                          obtain ⟨p, hp⟩ : ∃ p, os k = p := ⟨_, rfl⟩
                          rw [hp] at c1 hp1 hp2 g hlk
                          obtain ⟨x2', hxx⟩ : ∃ x, ss1.getD p ByteArray.empty = x := ⟨_, rfl⟩
                          rw [hxx] at hlk g
                          clear hxx hp
                          subst ha
                          have hnp := run_neq_self Try.underlying43 Try.info47s np2
                          go_quiet (first | (go_at_call 22; exact Calls.quiet_of (HOWN.out _)))
                          go_wp2
                          go_roundw
                          case rel => exact ⟨k + 1, by omega, by go_num, hqb.drewN _⟩
                          case measure => simp [intOf]; omega
                        · have hb : Below w5.heap.size w5 wr := Below.trans HW.out (Below.mono hq HW.out.size)
                          have HBW : Hid (Below w5.heap.size w5 wr) := hb
                          clear hb
                          have HXE : Hid (((List.range 16384).map (fun s => Value.int .u16 (os s : Nat))).toArray = xs) := by
                            apply Array.ext_getElem?
                            intro i
                            by_cases hi : i < 16384
                            · rw [HXV.out i hi, List.getElem?_toArray, List.getElem?_map, List.getElem?_range hi]
                              rfl
                            · rw [Array.getElem?_eq_none (by simp; omega), Array.getElem?_eq_none (by omega)]
                          have hneq := fun c => run_neq_array_self (P := Try.prog) c 29 28 16384 .u16 .u16 xs Try.underlying29 Try.underlying28 Try.sz28 isAgg28 (fun i hi => ⟨_, HXV.out i hi⟩)
                          have HT48 : Hid (∀ c, Ext wr c → Tb c tb os ac n1 n1 ∧ Ss w4.heap.size c ac n1 n1 ss1 ∧ Ss w.heap.size c a1 n1 c1 ss1 ∧ w4.heap.size ≤ c.heap.size ∧ w.heap.size ≤ c.heap.size ∧ Ext w c) := fun c hc => by
                            have hbc : Below w5.heap.size w5 c := Below.trans HBW.out (Below.mono hc HBW.out.size)
                            have hwc : Ext w c := Below.trans HA8.out.2.1 (Below.mono hbc HA8.out.2.1.le)
                            exact ⟨(HA1.out _ hbc).1, (HA1.out _ hbc).2, (HA5.out _ hbc).2.2, Nat.le_trans HA8.out.2.2 hbc.size, hwc.le, hwc⟩
                          have HRQ : ∀ c, Ext wr c → c.rangeAt w.heap.size 0 lx := fun c hc => by rw [hlx]; exact (HA6.out c (Below.trans HBW.out (Below.mono hc HBW.out.size))).2
                          have hsz29 : (Try.prog.info? 29).map (·.size) = some lx.length := by rw [hll]; exact Try.sz29
                          have hu29 := Try.underlying29
                          have S0 : Ext wr wr.drew ∧ wr.drew.rangeAt w.heap.size 0 lx := ⟨(Ext.refl _).drew, HRQ _ ((Ext.refl _).drew)⟩
                          go_wp2
                          go_region_held3 (fun w' => Ext wr w' ∧ w'.rangeAt w.heap.size 0 lx) (first | exact S0 | assumption | exact keepS (by assumption) (by assumption) HRQ)
                            (first
                              | (go_at_call 9; refine (tableOwner_any tb os ac n1 n1 _ (HT48.out _ (And.left (by assumption))).1).mono ?_; rintro e w8 ⟨he, x48⟩; rw [HXE.out] at he; subst he)
                              | (go_at_call 10; refine (tableIDs_any tb os ac n1 n1 _ (HT48.out _ (And.left (by assumption))).1).mono ?_; rintro e w9 ⟨rfl, hw⟩; rw [hw]; clear hw w9)
                              | (go_at_call 16; refine (equalStrings_same ac a1 n1 n1 c1 ss1 _ (HT48.out _ (And.left (by assumption))).2.1 (HT48.out _ (And.left (by assumption))).2.2.1 (HT48.out _ (And.left (by assumption))).2.2.2.1 (HT48.out _ (And.left (by assumption))).2.2.2.2.1 u1).mono ?_; rintro e wz ⟨rfl, x50⟩))
                          rename_i hh
                          have xz : Ext wr wz := hh.1
                          have HFIN : Hid (Ext w wz) := (HT48.out _ xz).2.2.2.2.2
                          have HTZ : Hid (Tb wz tb os ac n1 n1) := (HT48.out _ xz).1
                          have xLz : Ext wL wz := hq.trans xz
                          have HVZ : Hid (Vw wz vb w2.heap.size tb' own) := R1.out.of_block (xLz.block _ R1.out.lt)
                          have HTZ2 : Hid (Tb wz tb' os' a' n' c') := R2.out.of_block (xLz.block _ R2.out.lt)
                          clear hh S0 HRQ hsz29 hu29 hneq
                          rcases R6.out with ⟨q1, q2, q3⟩ | ⟨q1, q2, q3, q4⟩
                          · subst q2
                            subst q3
                            have hn0 : ((n2 : Int) == 0) = true := by simp [q1]
                            have heq := run_eql_self Try.underlying26 Try.info57s (some ⟨tb', 0, none⟩)
                            go_wp2_with (first
                              | (go_at_call 21; refine (viewOwners_any vb w2.heap.size _ _ _ HVZ.out).mono ?_; rintro e w' ⟨rfl, hw⟩; rw [hw]; clear hw w')
                              | (go_at_call 23; refine (viewOwnsTable_any vb w2.heap.size _ _ _ HVZ.out).mono ?_; rintro e w' ⟨rfl, hw⟩; rw [hw]; clear hw w'))
                            go_ret
                            exact ⟨rfl, HFIN.out⟩
                          · subst q2
                            subst q3
                            have hn0 : ((n2 : Int) == 0) = false := by simp; omega
                            have heq := run_eql_self Try.underlying26 Try.info57s (some ⟨tb', 0, none⟩)
                            obtain ⟨F1, hF1, -⟩ := HTZ.out
                            obtain ⟨F2, hF2, -⟩ := HTZ2.out
                            have hne := run_neq_row Try.underlying26 Try.size57 hF2 hF1 q4
                            clear hF1 hF2
                            go_wp2_with (first
                              | (go_at_call 21; refine (viewOwners_any vb w2.heap.size _ _ _ HVZ.out).mono ?_; rintro e w' ⟨rfl, hw⟩; rw [hw]; clear hw w')
                              | (go_at_call 23; refine (viewOwnsTable_any vb w2.heap.size _ _ _ HVZ.out).mono ?_; rintro e w' ⟨rfl, hw⟩; rw [hw]; clear hw w'))
                            go_ret
                            exact ⟨rfl, HFIN.out⟩

end Go.Proofs.Qxb6608555a
