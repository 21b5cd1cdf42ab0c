/-
  toEndorsements: a fresh, deep copy.
-/
import Derived.Test.Qxb6606015aWalksD
import Derived.Test.Qxb6606015aParts2
import Derived.Deep.DeepCutAuto
namespace Go.Proofs.Qxb6606015a
open Go.RowKit

theorem Try.info68 : (Try.prog.info? 68).map (fun i => (i.zero, i.size, i.bytes)) = some (some (.agg #[.slice none 0 0, .slice none 0 0, .nilIface]), 3, 64) := by kernel_rfl
theorem Try.info58 : (Try.prog.info? 58).map (fun i => (i.zero, i.size, i.bytes)) = some (some (.agg #[.slice none 0 0, .pointer none, .pointer none, .slice none 0 0, .slice none 0 0]), 5, 88) := by kernel_rfl
theorem Try.info72 : (Try.prog.info? 72).map (fun i => (i.zero, i.size, i.bytes)) = some (some (.agg #[.slice none 0 0, .slice none 0 0, .string ByteArray.empty]), 3, 64) := by kernel_rfl

theorem cell_far (w : World) (g o : Nat) (v : Value) (p : Addr) (h : p.block ≠ g) : (w.setCell ⟨g, o, none⟩ v).cell? p = w.cell? p := World.cell?_of_block (Below.heap_setCell _ _ _ _ h)

/-- The block of one Endorsements, as far as it is filled. -/
def Box (B : Nat) (w : World) (v0 v1 v2 : Value) : Prop := w.rowIs B 42 3 (fun j => if j = 0 then v0 else if j = 1 then v1 else v2)

set_option maxRecDepth 100000 in
set_option maxHeartbeats 2000000 in
theorem toEnd_any {lo : Nat} (a1 a2 a3 : Option Addr) (n1 c1 n2 c2 n3 c3 : Nat) (ks : List KeyD) (rs : List RvD) (cs : List Unit) (w : World)
    (h1 : Elems KeyC 3 lo w a1 n1 c1 ks) (h2 : Elems RvC 5 lo w a2 n2 c2 rs) (h3 : Elems CertC 3 lo w a3 n3 c3 cs) (b1 : n1 ≤ 1048576) (b2 : n2 ≤ 1048576) (b3 : n3 ≤ 1048576) :
    Calls Try.prog 10 #[.slice a1 n1 c1, .slice a2 n2 c2, .slice a3 n3 c3] w fun e w' =>
      e = .returned (.pointer (some ⟨w.heap.size, 0, none⟩)) ∧ (∃ v0 v1 v2, EndF w.heap.size w' v0 v1 v2 ks rs cs) ∧ Ext w w' := by
  have hnil1 := fun (w : World) => run_neq_slice_nil_any (P := Try.prog) w 22 47 a1 n1 c1 0 0 Try.underlying22
  have hnil2 := fun (w : World) => run_neq_slice_nil_any (P := Try.prog) w 23 54 a2 n2 c2 0 0 Try.underlying23
  have hnil3 := fun (w : World) => run_neq_slice_nil_any (P := Try.prog) w 24 62 a3 n3 c3 0 0 Try.underlying24
  have hmk1 := run_make_multi (P := Try.prog) 39 68 _ 3 64 Try.underlying39 Try.info68 .i64 .i64 n1 (by omega) (by omega)
  have hmk2 := run_make_multi (P := Try.prog) 35 58 _ 5 88 Try.underlying35 Try.info58 .i64 .i64 n2 (by omega) (by omega)
  have hmk3 := run_make_multi (P := Try.prog) 40 72 _ 3 64 Try.underlying40 Try.info72 .i64 .i64 n3 (by omega) (by omega)
  go_enter Try.func10, Try.ntmps10
  go_upto_if 14 with fail
  go_cut [7] from 11 (fun v wr => v = .pointer (some ⟨w.heap.size, 0, none⟩) ∧ Hid (Ext w wr ∧ ∃ v0, Box w.heap.size wr v0 (.slice none 0 0) (.slice none 0 0) ∧ OwnedF AKeyC 68 3 (w.heap.size + 1) wr v0 ks))
  case first =>
    cases a1 with
    | none =>
      obtain ⟨rfl, rfl⟩ := h1.nil rfl
      have e4 : ks = [] := List.eq_nil_of_length_eq_zero h1.len
      subst e4
      go_wp2
      go_meet
      case rel =>
        refine ⟨rfl, (Ext.refl _).alloc _, .slice none 0 0, ?_, OwnedF.empty _ _ _ _ _⟩
        exact World.rowIs_alloc w #[.slice none 0 0, .slice none 0 0, .slice none 0 0] 42 _ (fun i hi => by match i, hi with | 0, _ => rfl | 1, _ => rfl | 2, _ => rfl)
    | some ad =>
      clear hnil2 hnil3 hmk2 hmk3
      go_wp2
      have hs1 : (w.alloc (.cells #[.slice (some ⟨w.heap.size + 1, 0, none⟩) n1 n1, .slice none 0 0, .slice none 0 0] 42)).heap.size = w.heap.size + 1 := by simp
      obtain ⟨F0, hF0⟩ := rowIs_multi (w.alloc (.cells #[.slice (some ⟨w.heap.size + 1, 0, none⟩) n1 n1, .slice none 0 0, .slice none 0 0] 42)) #[.slice none 0 0, .slice none 0 0, .nilIface] (n1 * 3) 68
      have hB0 : Box w.heap.size ((w.alloc (.cells #[.slice (some ⟨w.heap.size + 1, 0, none⟩) n1 n1, .slice none 0 0, .slice none 0 0] 42)).alloc (.cells (madeCells #[.slice none 0 0, .slice none 0 0, .nilIface] (n1 * 3)) 68)) (.slice (some ⟨w.heap.size + 1, 0, none⟩) n1 n1) (.slice none 0 0) (.slice none 0 0) :=
        (World.rowIs_alloc w #[.slice (some ⟨w.heap.size + 1, 0, none⟩) n1 n1, .slice none 0 0, .slice none 0 0] 42 _ (fun i hi => by match i, hi with | 0, _ => rfl | 1, _ => rfl | 2, _ => rfl)).alloc _
      rw [hs1] at hF0
      clear hs1
      go_loopg [8] n1 (fun g i wr => ∃ k : Nat, g = n1 - k ∧ k ≤ n1 ∧ i = .int .i64 k ∧ Ext w wr ∧ Box w.heap.size wr (.slice (some ⟨w.heap.size + 1, 0, none⟩) n1 n1) (.slice none 0 0) (.slice none 0 0) ∧
          ∃ F, wr.rowIs (w.heap.size + 1) 68 (n1 * 3) F ∧ ∀ j d, j < k → ks[j]? = some d → AKeyC (w.heap.size + 2) wr (fun i => F (j * 3 + i)) d)
      case atStart => exact ⟨0, rfl, Nat.zero_le _, rfl, ((Ext.refl _).alloc _).alloc _, hB0, F0, hF0, fun j d hj => absurd hj (by omega)⟩
      case round =>
        obtain ⟨k, hgk, hk, rfl, hx, hB, F, hF, hE⟩ := hrel
        have HG : Hid (gk = n1 - k) := hgk
        clear hgk
        have HF : Hid (wr.rowIs (w.heap.size + 1) 68 (n1 * 3) F ∧ ∀ j d, j < k → ks[j]? = some d → AKeyC (w.heap.size + 2) wr (fun i => F (j * 3 + i)) d) := ⟨hF, hE⟩
        have HB : Hid (Box w.heap.size wr (.slice (some ⟨w.heap.size + 1, 0, none⟩) n1 n1) (.slice none 0 0) (.slice none 0 0)) := hB
        clear hF hE hF0 hB0 hB hmk1 hnil1
        by_cases hlt : k < n1
        · obtain ⟨b, off, f, d, hh, hbl, hd, hEl, hc⟩ := h1.elem k hlt
          cases hh
          have hne : ¬ b = w.heap.size + 1 := by omega
          have g0 := hc 0 (by omega)
          have g1 := hc 1 (by omega)
          have g2 := hc 2 (by omega)
          obtain ⟨⟨a4, n4, c4, e0, s0⟩, ⟨a5, n5, c5, e1, s1⟩, e2⟩ := hEl
          rw [e0] at g0
          rw [e1] at g1
          rw [e2] at g2
          simp only [Nat.add_zero] at g0
          have i1 : (k : Int) < (n1 : Int) := by omega
          have HD : Hid (ks[k]? = some d) := hd
          have HK : Hid (∀ w', Ext wr w' → w'.cell? ⟨w.heap.size, 0, none⟩ = some (.slice (some ⟨w.heap.size + 1, 0, none⟩) n1 n1) ∧ w'.cell? ⟨b, off + k * 3, none⟩ = some (.slice a4 n4 c4) ∧ w'.cell? ⟨b, off + k * 3 + 1, none⟩ = some (.slice a5 n5 c5) ∧ w'.cell? ⟨b, off + k * 3 + 2, none⟩ = some (.int .i64 d.tag)) := by
            intro w' hx'
            have hlt0 := HB.out.lt
            have hxx := hx.trans hx'
            exact ⟨by rw [hx'.cell (by exact hlt0)]; exact HB.out.cell (i := 0) (by omega), by rw [hxx.cell (by exact hbl.2)]; exact g0, by rw [hxx.cell (by exact hbl.2)]; exact g1, by rw [hxx.cell (by exact hbl.2)]; exact g2⟩
          clear hc e0 e1 e2 hd g0 g1 g2
          clear h1 h2 h3
          go_wp2
          go_region_held3 (fun w' => w'.cell? ⟨w.heap.size, 0, none⟩ = some (.slice (some ⟨w.heap.size + 1, 0, none⟩) n1 n1) ∧ w'.cell? ⟨b, off + k * 3, none⟩ = some (.slice a4 n4 c4) ∧ w'.cell? ⟨b, off + k * 3 + 1, none⟩ = some (.slice a5 n5 c5) ∧ w'.cell? ⟨b, off + k * 3 + 2, none⟩ = some (.int .i64 d.tag))
            (first | (refine HK.out _ ?_; first | exact (Ext.refl _).drew | assumption) | (go_split_ands; (refine ⟨?_, ?_, ?_, ?_⟩) <;> (rw [cell_far, cell_far, cell_far] <;> first | assumption | (dsimp only; omega))))
            (first
              | (go_at_call_of 9 (Value.slice a4 n4 c4); refine (cloneBytes_any _ _ _ _ _ (s0.ext hx.drew)).mono ?_; rintro e w1 ⟨a6, c6, rfl, k1, x1⟩; have y1 : Ext wr w1 := (Ext.refl wr).drew.trans x1)
              | (go_at_call_of 9 (Value.slice a5 n5 c5); refine (cloneBytes_any _ _ _ _ _ (s1.ext (hx.trans y1))).mono ?_; rintro e w2 ⟨a7, c7, rfl, k2, x2⟩; have y2 : Ext wr w2 := y1.trans x2)
              | (go_at_call 25; refine (newKey_any (lo := wr.heap.size) _ _ _ _ _ _ _ _ _ _ ((k1.lower (Nat.le_refl _)).ext x2) (k2.lower y1.le)).mono ?_; rintro e w3 ⟨rfl, k3, k4, x3⟩; have y3 : Ext wr w3 := y2.trans x3; have HF1 := rowIs_ext HF.out.1 y3; have r0 := HF1.cell (i := k * 3) (by omega); have r1 := HF1.cell (i := k * 3 + 1) (by omega); have r2 := HF1.cell (i := k * 3 + 2) (by omega); have f0 := HF1.frozen (k * 3); have f1 := HF1.frozen (k * 3 + 1); have f2 := HF1.frozen (k * 3 + 2); clear HF1))
          go_wp2
          have hF1 := rowIs_ext HF.out.1 y3
          have hE1 := HF.out.2
          have hB1 := HB.out
          have hlt1 := HF.out.1.lt
          have hlt0 := hB1.lt
          go_roundg (n1 - (k + 1))
          case measure => have := HG.out; omega
          case rel =>
            refine ⟨k + 1, rfl, by omega, by go_num, (((hx.trans y3).setCell (by simp) _).setCell (by simp) _).setCell (by simp) _, (((rowIs_ext hB1 y3).setOther (by simp) _).setOther (by simp) _).setOther (by simp) _, _, ((hF1.set _ _).set _ _).set _ _, fun j d' hj hd' => ?_⟩
            have hkk : Keeps (w.heap.size + 2) w3 (((w3.setCell ⟨w.heap.size + 1, k * 3, none⟩ (.slice a6 n4 c6)).setCell ⟨w.heap.size + 1, k * 3 + 1, none⟩ (.slice a7 n5 c7)).setCell ⟨w.heap.size + 1, k * 3 + 2, none⟩ (.iface 3 (.int .i64 d.tag))) :=
              (((Keeps.refl _ _).setCell (by simp) _).setCell (by simp) _).setCell (by simp) _
            by_cases hjk : j = k
            · subst hjk
              rw [HD.out] at hd'
              cases hd'
              refine ⟨⟨a6, n4, c6, ?_, (k3.lower (by omega)).keep hkk⟩, ⟨a7, n5, c7, ?_, (k4.lower (by omega)).keep hkk⟩, ?_⟩
              · simp
              · simp
              · simp
            · refine local_akey _ _ _ _ _ (fun i hi => ?_) (grows_akey.keep _ _ _ _ _ (hE1 j d' (by omega) hd') ((y3.keeps _).trans hkk))
              have q0 : ¬ j * 3 + i = k * 3 := by omega
              have q1 : ¬ j * 3 + i = k * 3 + 1 := by omega
              have q2 : ¬ j * 3 + i = k * 3 + 2 := by omega
              simp [q0, q1, q2]
        · have hkn : k = n1 := by omega
          subst hkn
          go_wp2
          go_meet
          case rel =>
            refine ⟨rfl, hx, _, HB.out, OwnedF.of_rowIs local_akey HF.out.1 (Nat.le_refl _) h1.len (by omega) (fun j d hj => ?_)⟩
            have hjl := (List.getElem?_eq_some_iff.1 hj).1
            rw [h1.len] at hjl
            exact grows_akey.lower _ _ _ _ _ (HF.out.2 j d hjl hj) (by omega)
  case rest =>
    obtain ⟨rfl, HR1⟩ := hcut
    obtain ⟨hx0, v0, hB0, hO0⟩ := HR1.out
    clear HR1
    have c0 := hB0.cell (i := 0) (by omega)
    have c1' := hB0.cell (i := 1) (by omega)
    have f1' := hB0.frozen 1
    simp only [if_true, show ¬ (1 : Nat) = 0 by omega, if_false] at c0 c1'
    have hltB := hB0.lt
    have HB0 : Hid (Box w.heap.size wc v0 (.slice none 0 0) (.slice none 0 0)) := hB0
    have HO0 : Hid (OwnedF AKeyC 68 3 (w.heap.size + 1) wc v0 ks) := hO0
    clear hB0 hO0 h1 hnil1 hmk1 b1
    go_upto_if 52 with fail
    go_cut [7] from 11 (fun v wr => v = .pointer (some ⟨w.heap.size, 0, none⟩) ∧ Hid (Ext w wr ∧ ∃ v0 v1, Box w.heap.size wr v0 v1 (.slice none 0 0) ∧ OwnedF AKeyC 68 3 (w.heap.size + 1) wr v0 ks ∧ OwnedF RvC 58 5 (w.heap.size + 1) wr v1 rs))
    case first =>
      cases a2 with
      | none =>
        obtain ⟨rfl, rfl⟩ := h2.nil rfl
        have e4 : rs = [] := List.eq_nil_of_length_eq_zero h2.len
        subst e4
        go_wp2
        go_meet
        case rel =>
          exact ⟨rfl, hx0, v0, .slice none 0 0, HB0.out, HO0.out, OwnedF.empty _ _ _ _ _⟩
      | some ad =>
        clear hnil3 hmk3 h3
        go_wp2
        have hsz0 : (wc.setCell ⟨w.heap.size, 1, none⟩ (.slice (some ⟨wc.heap.size, 0, none⟩) n2 n2)).heap.size = wc.heap.size := by simp [World.setCell]
        obtain ⟨F0, hF0⟩ := rowIs_multi (wc.setCell ⟨w.heap.size, 1, none⟩ (.slice (some ⟨wc.heap.size, 0, none⟩) n2 n2)) #[.slice none 0 0, .pointer none, .pointer none, .slice none 0 0, .slice none 0 0] (n2 * 5) 58
        rw [hsz0] at hF0
        clear hsz0
        have hB1 : Box w.heap.size ((wc.setCell ⟨w.heap.size, 1, none⟩ (.slice (some ⟨wc.heap.size, 0, none⟩) n2 n2)).alloc (.cells (madeCells #[.slice none 0 0, .pointer none, .pointer none, .slice none 0 0, .slice none 0 0] (n2 * 5)) 58)) v0 (.slice (some ⟨wc.heap.size, 0, none⟩) n2 n2) (.slice none 0 0) := ((HB0.out.set 1 (.slice (some ⟨wc.heap.size, 0, none⟩) n2 n2)).congr (fun i hi => by match i, hi with | 0, _ => rfl | 1, _ => rfl | 2, _ => rfl)).alloc _
        have hk1 : Keeps (w.heap.size + 1) wc ((wc.setCell ⟨w.heap.size, 1, none⟩ (.slice (some ⟨wc.heap.size, 0, none⟩) n2 n2)).alloc (.cells (madeCells #[.slice none 0 0, .pointer none, .pointer none, .slice none 0 0, .slice none 0 0] (n2 * 5)) 58)) := ((Keeps.refl _ _).setCell (by simp) _).alloc _
        have hx1 : Ext w ((wc.setCell ⟨w.heap.size, 1, none⟩ (.slice (some ⟨wc.heap.size, 0, none⟩) n2 n2)).alloc (.cells (madeCells #[.slice none 0 0, .pointer none, .pointer none, .slice none 0 0, .slice none 0 0] (n2 * 5)) 58)) := (hx0.setCell (by simp) _).alloc _
        obtain ⟨G, hG⟩ : ∃ G, G = wc.heap.size := ⟨_, rfl⟩
        rw [← hG] at hF0 hB1 hk1 hx1 ⊢
        have hGB : w.heap.size < G := by omega
        have HGB : Hid (G = wc.heap.size) := hG
        clear hG hnil2 hmk2
        go_loopg [9] n2 (fun g i wr => ∃ k : Nat, g = n2 - k ∧ k ≤ n2 ∧ i = .int .i64 k ∧ Ext w wr ∧ Keeps (w.heap.size + 1) wc wr ∧ Box w.heap.size wr v0 (.slice (some ⟨G, 0, none⟩) n2 n2) (.slice none 0 0) ∧
            ∃ F, wr.rowIs G 58 (n2 * 5) F ∧ ∀ j d, j < k → rs[j]? = some d → RvC (G + 1) wr (fun i => F (j * 5 + i)) d)
        case atStart => exact ⟨0, rfl, Nat.zero_le _, rfl, hx1, hk1, hB1, F0, hF0, fun j d hj => absurd hj (by omega)⟩
        case round =>
          obtain ⟨k, hgk, hk, rfl, hx, hkp, hB, F, hF, hE⟩ := hrel
          have HG : Hid (gk = n2 - k) := hgk
          clear hgk
          have HF : Hid (wr.rowIs G 58 (n2 * 5) F ∧ ∀ j d, j < k → rs[j]? = some d → RvC (G + 1) wr (fun i => F (j * 5 + i)) d) := ⟨hF, hE⟩
          have HB : Hid (Box w.heap.size wr v0 (.slice (some ⟨G, 0, none⟩) n2 n2) (.slice none 0 0)) := hB
          clear hF hE hF0 hB hB1 hk1 hx1
          by_cases hlt : k < n2
          · obtain ⟨b, off, f, d, hh, hbl, hd, hEl, hc⟩ := h2.elem k hlt
            cases hh
            obtain ⟨⟨a4, n4, c4, e0, s0⟩, ⟨⟨p, e1, s1⟩, ⟨q, e2, s2⟩, ⟨a5, n5, c5, e3, s3⟩⟩, ⟨a6, n6, c6, e4, s4⟩⟩ := hEl
            have g0 := hc 0 (by omega)
            rw [e0] at g0
            have g1 := hc 1 (by omega)
            rw [e1] at g1
            have g2 := hc 2 (by omega)
            rw [e2] at g2
            have g3 := hc 3 (by omega)
            rw [e3] at g3
            have g4 := hc 4 (by omega)
            rw [e4] at g4
            simp only [Nat.add_zero] at g0
            have i1 : (k : Int) < (n2 : Int) := by omega
            have HD : Hid (rs[k]? = some d) := hd
            have HK : Hid (∀ w', Ext wr w' → w'.cell? ⟨w.heap.size, 1, none⟩ = some (.slice (some ⟨G, 0, none⟩) n2 n2) ∧ w'.cell? ⟨b, off + k * 5, none⟩ = some (.slice a4 n4 c4) ∧ w'.cell? ⟨b, off + k * 5 + 1, none⟩ = some (.pointer p) ∧ w'.cell? ⟨b, off + k * 5 + 2, none⟩ = some (.pointer q) ∧ w'.cell? ⟨b, off + k * 5 + 3, none⟩ = some (.slice a5 n5 c5) ∧ w'.cell? ⟨b, off + k * 5 + 4, none⟩ = some (.slice a6 n6 c6)) := by
              intro w' hx'
              have hlt0 := HB.out.lt
              have hxx := hx.trans hx'
              refine ⟨?_, ?_, ?_, ?_, ?_, ?_⟩
              · rw [hx'.cell (by exact hlt0)]; exact HB.out.cell (i := 1) (by omega)
              · rw [hxx.cell (by exact hbl.2)]; exact g0
              · rw [hxx.cell (by exact hbl.2)]; exact g1
              · rw [hxx.cell (by exact hbl.2)]; exact g2
              · rw [hxx.cell (by exact hbl.2)]; exact g3
              · rw [hxx.cell (by exact hbl.2)]; exact g4
            clear hc e0 e1 e2 e3 e4 hd g0 g1 g2 g3 g4 h2
            go_wp2
            go_region_held3 (fun w' => w'.cell? ⟨w.heap.size, 1, none⟩ = some (.slice (some ⟨G, 0, none⟩) n2 n2) ∧ w'.cell? ⟨b, off + k * 5, none⟩ = some (.slice a4 n4 c4) ∧ w'.cell? ⟨b, off + k * 5 + 1, none⟩ = some (.pointer p) ∧ w'.cell? ⟨b, off + k * 5 + 2, none⟩ = some (.pointer q) ∧ w'.cell? ⟨b, off + k * 5 + 3, none⟩ = some (.slice a5 n5 c5) ∧ w'.cell? ⟨b, off + k * 5 + 4, none⟩ = some (.slice a6 n6 c6))
              (first | (refine HK.out _ ?_; first | exact (Ext.refl _).drew | assumption) | (go_split_ands; (refine ⟨?_, ?_, ?_, ?_, ?_, ?_⟩) <;> (rw [cell_far, cell_far, cell_far, cell_far, cell_far] <;> first | assumption | (dsimp only; omega))))
              (first
                | (go_at_call 21; refine (toRV_any _ _ _ _ _ _ _ _ _ _ _ _ _ _ _ _ _ (s0.ext hx.drew) (s1.ext hx.drew) (s2.ext hx.drew) (s3.ext hx.drew) (s4.ext grows_dig hx.drew)).mono ?_; rintro e w1 ⟨a7, c7, p1, q1, a8, c8, a9, c9, rfl, k0, k1, k2, k3, k4, x1⟩; have y1 : Ext wr w1 := (Ext.refl wr).drew.trans x1; have HF1 := rowIs_ext HF.out.1 y1; have r0 := HF1.cell (i := k * 5) (by omega); have r1 := HF1.cell (i := k * 5 + 1) (by omega); have r2 := HF1.cell (i := k * 5 + 2) (by omega); have r3 := HF1.cell (i := k * 5 + 3) (by omega); have r4 := HF1.cell (i := k * 5 + 4) (by omega); have f0 := HF1.frozen (k * 5); have f1 := HF1.frozen (k * 5 + 1); have f2 := HF1.frozen (k * 5 + 2); have f3 := HF1.frozen (k * 5 + 3); have f4 := HF1.frozen (k * 5 + 4); clear HF1))
            go_wp2
            have hF1 := rowIs_ext HF.out.1 y1
            have hE1 := HF.out.2
            have hB1 := HB.out
            have hlt1 := HF.out.1.lt
            have hlt0 := hB1.lt
            have hGw := HGB.out
            go_roundg (n2 - (k + 1))
            case measure => have := HG.out; omega
            case rel =>
              refine ⟨k + 1, rfl, by omega, by go_num, (((((hx.trans y1).setCell (by simp; omega) _).setCell (by simp; omega) _).setCell (by simp; omega) _).setCell (by simp; omega) _).setCell (by simp; omega) _, (((((hkp.trans (y1.keeps _)).setNew (by simp; omega) _).setNew (by simp; omega) _).setNew (by simp; omega) _).setNew (by simp; omega) _).setNew (by simp; omega) _, (((((rowIs_ext hB1 y1).setOther (by simp; omega) _).setOther (by simp; omega) _).setOther (by simp; omega) _).setOther (by simp; omega) _).setOther (by simp; omega) _, _, (((((hF1).set _ _).set _ _).set _ _).set _ _).set _ _, fun j d' hj hd' => ?_⟩
              have hkk : Keeps (G + 1) w1 (((((w1.setCell ⟨G, k * 5, none⟩ (.slice a7 n4 c7)).setCell ⟨G, k * 5 + 1, none⟩ (.pointer p1)).setCell ⟨G, k * 5 + 2, none⟩ (.pointer q1)).setCell ⟨G, k * 5 + 3, none⟩ (.slice a8 n5 c8)).setCell ⟨G, k * 5 + 4, none⟩ (.slice a9 n6 c9)) :=
                (((((Keeps.refl _ _).setCell (by simp) _).setCell (by simp) _).setCell (by simp) _).setCell (by simp) _).setCell (by simp) _
              by_cases hjk : j = k
              · subst hjk
                rw [HD.out] at hd'
                cases hd'
                refine ⟨⟨a7, n4, c7, ?_, (k0.lower (show G + 1 ≤ _ by dsimp; omega)).keep hkk⟩, ⟨⟨p1, ?_, (k1.lower (show G + 1 ≤ _ by dsimp; omega)).keep hkk⟩, ⟨q1, ?_, (k2.lower (show G + 1 ≤ _ by dsimp; omega)).keep hkk⟩, ⟨a8, n5, c8, ?_, (k3.lower (show G + 1 ≤ _ by dsimp; omega)).keep hkk⟩⟩, ⟨a9, n6, c9, ?_, (k4.lower grows_dig (show G + 1 ≤ _ by dsimp; omega)).keep grows_dig hkk⟩⟩ <;> simp
              · refine local_rv _ _ _ _ _ (fun i hi => ?_) (grows_rv.keep _ _ _ _ _ (hE1 j d' (by omega) hd') ((y1.keeps _).trans hkk))
                have q0 : ¬ j * 5 + i = k * 5 := by omega
                have q1 : ¬ j * 5 + i = k * 5 + 1 := by omega
                have q2 : ¬ j * 5 + i = k * 5 + 2 := by omega
                have q3 : ¬ j * 5 + i = k * 5 + 3 := by omega
                have q4 : ¬ j * 5 + i = k * 5 + 4 := by omega
                simp [q0, q1, q2, q3, q4]
          · have hkn : k = n2 := by omega
            subst hkn
            go_wp2
            go_meet
            case rel =>
              refine ⟨rfl, hx, v0, _, HB.out, HO0.out.keep grows_akey hkp, OwnedF.of_rowIs local_rv HF.out.1 (by omega) h2.len (by omega) (fun j d hj => ?_)⟩
              have hjl := (List.getElem?_eq_some_iff.1 hj).1
              rw [h2.len] at hjl
              exact grows_rv.lower _ _ _ _ _ (HF.out.2 j d hjl hj) (by omega)
    case rest =>
      obtain ⟨rfl, HR1⟩ := hcut
      clear hx0 c0 c1' f1' hltB HB0 HO0
      clear v0
      obtain ⟨hx0, v0, v1, hB0, hO0⟩ := HR1.out
      clear HR1
      have c0 := hB0.cell (i := 0) (by omega)
      have c1' := hB0.cell (i := 1) (by omega)
      have c2' := hB0.cell (i := 2) (by omega)
      have f2' := hB0.frozen 2
      simp only [if_true, show ¬ (1 : Nat) = 0 by omega, show ¬ (2 : Nat) = 0 by omega, show ¬ (2 : Nat) = 1 by omega, if_false] at c0 c1' c2'
      have hltB := hB0.lt
      have HB0 : Hid (Box w.heap.size wc v0 v1 (.slice none 0 0)) := hB0
      have HO0 : Hid (OwnedF AKeyC 68 3 (w.heap.size + 1) wc v0 ks ∧ OwnedF RvC 58 5 (w.heap.size + 1) wc v1 rs) := hO0
      clear hB0 hO0 h2 hnil2 hmk2 b2
      go_upto_if 77 with fail
      go_cut [7] from 11 (fun v wr => v = .pointer (some ⟨w.heap.size, 0, none⟩) ∧ Hid (Ext w wr ∧ ∃ v0 v1 v2, Box w.heap.size wr v0 v1 v2 ∧ OwnedF AKeyC 68 3 (w.heap.size + 1) wr v0 ks ∧ OwnedF RvC 58 5 (w.heap.size + 1) wr v1 rs ∧ OwnedF AnyC 72 3 (w.heap.size + 1) wr v2 cs))
      case first =>
        cases a3 with
        | none =>
          obtain ⟨rfl, rfl⟩ := h3.nil rfl
          have e4 : cs = [] := List.eq_nil_of_length_eq_zero h3.len
          subst e4
          go_wp2
          go_meet
          case rel =>
            exact ⟨rfl, hx0, v0, v1, .slice none 0 0, HB0.out, HO0.out.1, HO0.out.2, OwnedF.empty _ _ _ _ _⟩
        | some ad =>
          go_wp2
          have hsz0 : (wc.setCell ⟨w.heap.size, 2, none⟩ (.slice (some ⟨wc.heap.size, 0, none⟩) n3 n3)).heap.size = wc.heap.size := by simp [World.setCell]
          obtain ⟨F0, hF0⟩ := rowIs_multi (wc.setCell ⟨w.heap.size, 2, none⟩ (.slice (some ⟨wc.heap.size, 0, none⟩) n3 n3)) #[.slice none 0 0, .slice none 0 0, .string ByteArray.empty] (n3 * 3) 72
          rw [hsz0] at hF0
          clear hsz0
          have hB1 : Box w.heap.size ((wc.setCell ⟨w.heap.size, 2, none⟩ (.slice (some ⟨wc.heap.size, 0, none⟩) n3 n3)).alloc (.cells (madeCells #[.slice none 0 0, .slice none 0 0, .string ByteArray.empty] (n3 * 3)) 72)) v0 v1 (.slice (some ⟨wc.heap.size, 0, none⟩) n3 n3) := ((HB0.out.set 2 (.slice (some ⟨wc.heap.size, 0, none⟩) n3 n3)).congr (fun i hi => by match i, hi with | 0, _ => rfl | 1, _ => rfl | 2, _ => rfl)).alloc _
          have hk1 : Keeps (w.heap.size + 1) wc ((wc.setCell ⟨w.heap.size, 2, none⟩ (.slice (some ⟨wc.heap.size, 0, none⟩) n3 n3)).alloc (.cells (madeCells #[.slice none 0 0, .slice none 0 0, .string ByteArray.empty] (n3 * 3)) 72)) := ((Keeps.refl _ _).setCell (by simp) _).alloc _
          have hx1 : Ext w ((wc.setCell ⟨w.heap.size, 2, none⟩ (.slice (some ⟨wc.heap.size, 0, none⟩) n3 n3)).alloc (.cells (madeCells #[.slice none 0 0, .slice none 0 0, .string ByteArray.empty] (n3 * 3)) 72)) := (hx0.setCell (by simp) _).alloc _
          obtain ⟨G, hG⟩ : ∃ G, G = wc.heap.size := ⟨_, rfl⟩
          rw [← hG] at hF0 hB1 hk1 hx1 ⊢
          have hGB : w.heap.size < G := by omega
          have HGB : Hid (G = wc.heap.size) := hG
          clear hG hnil3 hmk3
          go_loopg [10] n3 (fun g i wr => ∃ k : Nat, g = n3 - k ∧ k ≤ n3 ∧ i = .int .i64 k ∧ Ext w wr ∧ Keeps (w.heap.size + 1) wc wr ∧ Box w.heap.size wr v0 v1 (.slice (some ⟨G, 0, none⟩) n3 n3) ∧
              ∃ F, wr.rowIs G 72 (n3 * 3) F ∧ ∀ j d, j < k → cs[j]? = some d → AnyC (G + 1) wr (fun i => F (j * 3 + i)) d)
          case atStart => exact ⟨0, rfl, Nat.zero_le _, rfl, hx1, hk1, hB1, F0, hF0, fun j d hj => absurd hj (by omega)⟩
          case round =>
            obtain ⟨k, hgk, hk, rfl, hx, hkp, hB, F, hF, hE⟩ := hrel
            have HG : Hid (gk = n3 - k) := hgk
            clear hgk
            have HF : Hid (wr.rowIs G 72 (n3 * 3) F ∧ ∀ j d, j < k → cs[j]? = some d → AnyC (G + 1) wr (fun i => F (j * 3 + i)) d) := ⟨hF, hE⟩
            have HB : Hid (Box w.heap.size wr v0 v1 (.slice (some ⟨G, 0, none⟩) n3 n3)) := hB
            clear hF hE hF0 hB hB1 hk1 hx1
            by_cases hlt : k < n3
            · obtain ⟨b, off, f, d, hh, hbl, hd, hEl, hc⟩ := h3.elem k hlt
              cases hh
              obtain ⟨⟨bs, a4, n4, c4, e0, s0⟩, ⟨a5, n5, c5, dd, e1, s1⟩, ⟨s, e2⟩⟩ := hEl
              have g0 := hc 0 (by omega)
              rw [e0] at g0
              have g1 := hc 1 (by omega)
              rw [e1] at g1
              have g2 := hc 2 (by omega)
              rw [e2] at g2
              simp only [Nat.add_zero] at g0
              have i1 : (k : Int) < (n3 : Int) := by omega
              have HD : Hid (cs[k]? = some d) := hd
              have HK : Hid (∀ w', Ext wr w' → w'.cell? ⟨w.heap.size, 2, none⟩ = some (.slice (some ⟨G, 0, none⟩) n3 n3) ∧ w'.cell? ⟨b, off + k * 3, none⟩ = some (.slice a4 n4 c4) ∧ w'.cell? ⟨b, off + k * 3 + 1, none⟩ = some (.slice a5 n5 c5) ∧ w'.cell? ⟨b, off + k * 3 + 2, none⟩ = some (.string s)) := by
                intro w' hx'
                have hlt0 := HB.out.lt
                have hxx := hx.trans hx'
                refine ⟨?_, ?_, ?_, ?_⟩
                · rw [hx'.cell (by exact hlt0)]; exact HB.out.cell (i := 2) (by omega)
                · rw [hxx.cell (by exact hbl.2)]; exact g0
                · rw [hxx.cell (by exact hbl.2)]; exact g1
                · rw [hxx.cell (by exact hbl.2)]; exact g2
              clear hc e0 e1 e2 hd g0 g1 g2 h3
              go_wp2
              go_region_held3 (fun w' => w'.cell? ⟨w.heap.size, 2, none⟩ = some (.slice (some ⟨G, 0, none⟩) n3 n3) ∧ w'.cell? ⟨b, off + k * 3, none⟩ = some (.slice a4 n4 c4) ∧ w'.cell? ⟨b, off + k * 3 + 1, none⟩ = some (.slice a5 n5 c5) ∧ w'.cell? ⟨b, off + k * 3 + 2, none⟩ = some (.string s))
                (first | (refine HK.out _ ?_; first | exact (Ext.refl _).drew | assumption) | (go_split_ands; (refine ⟨?_, ?_, ?_, ?_⟩) <;> (rw [cell_far, cell_far, cell_far] <;> first | assumption | (dsimp only; omega))))
                (first
                  | (go_at_call 26; refine (toCert_any _ _ _ _ _ _ _ _ _ _ (s0.ext hx.drew) (s1.ext grows_comp hx.drew)).mono ?_; rintro e w1 ⟨⟨a7, n7, c7, a8, n8, c8, rfl⟩, x1⟩; have y1 : Ext wr w1 := (Ext.refl wr).drew.trans x1; have HF1 := rowIs_ext HF.out.1 y1; have r0 := HF1.cell (i := k * 3) (by omega); have r1 := HF1.cell (i := k * 3 + 1) (by omega); have r2 := HF1.cell (i := k * 3 + 2) (by omega); have f0 := HF1.frozen (k * 3); have f1 := HF1.frozen (k * 3 + 1); have f2 := HF1.frozen (k * 3 + 2); clear HF1))
              go_wp2
              have hF1 := rowIs_ext HF.out.1 y1
              have hE1 := HF.out.2
              have hB1 := HB.out
              have hlt1 := HF.out.1.lt
              have hlt0 := hB1.lt
              have hGw := HGB.out
              go_roundg (n3 - (k + 1))
              case measure => have := HG.out; omega
              case rel =>
                refine ⟨k + 1, rfl, by omega, by go_num, (((hx.trans y1).setCell (by simp; omega) _).setCell (by simp; omega) _).setCell (by simp; omega) _, (((hkp.trans (y1.keeps _)).setNew (by simp; omega) _).setNew (by simp; omega) _).setNew (by simp; omega) _, (((rowIs_ext hB1 y1).setOther (by simp; omega) _).setOther (by simp; omega) _).setOther (by simp; omega) _, _, (((hF1).set _ _).set _ _).set _ _, fun j d' hj hd' => ?_⟩
                have hkk : Keeps (G + 1) w1 (((w1.setCell ⟨G, k * 3, none⟩ (.slice a7 n7 c7)).setCell ⟨G, k * 3 + 1, none⟩ (.slice a8 n8 c8)).setCell ⟨G, k * 3 + 2, none⟩ (.string s)) :=
                  (((Keeps.refl _ _).setCell (by simp) _).setCell (by simp) _).setCell (by simp) _
                by_cases hjk : j = k
                · subst hjk
                  rw [HD.out] at hd'
                  cases hd'
                  intro i hi; have h012 : i = 0 ∨ i = 1 ∨ i = 2 := by omega
                  rcases h012 with rfl | rfl | rfl <;> simp [Value.oneCell']
                · refine local_any _ _ _ _ _ (fun i hi => ?_) (grows_any.keep _ _ _ _ _ (hE1 j d' (by omega) hd') ((y1.keeps _).trans hkk))
                  have q0 : ¬ j * 3 + i = k * 3 := by omega
                  have q1 : ¬ j * 3 + i = k * 3 + 1 := by omega
                  have q2 : ¬ j * 3 + i = k * 3 + 2 := by omega
                  simp [q0, q1, q2]
            · have hkn : k = n3 := by omega
              subst hkn
              go_wp2
              go_meet
              case rel =>
                refine ⟨rfl, hx, v0, v1, _, HB.out, HO0.out.1.keep grows_akey hkp, HO0.out.2.keep grows_rv hkp, OwnedF.of_rowIs local_any HF.out.1 (by omega) h3.len (by omega) (fun j d hj => ?_)⟩
                have hjl := (List.getElem?_eq_some_iff.1 hj).1
                rw [h3.len] at hjl
                exact grows_any.lower _ _ _ _ _ (HF.out.2 j d hjl hj) (by omega)
      case rest =>
        obtain ⟨rfl, HR1⟩ := hcut
        obtain ⟨hx1, v0', v1', v2', hB1, hO1, hO2, hO3⟩ := HR1.out
        go_wp2
        go_ret
        exact ⟨rfl, ⟨v0', v1', v2', hB1, hO1, hO2, hO3⟩, hx1⟩
end Go.Proofs.Qxb6606015a
