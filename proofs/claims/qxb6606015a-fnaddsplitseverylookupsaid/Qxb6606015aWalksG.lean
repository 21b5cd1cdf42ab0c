/-
  Add.
-/
import Derived.Test.Qxb6606015aWalksE
import Derived.Deep.RegionLaw
import Derived.Deep.DeepCutAuto
namespace Go.Proofs.Qxb6606015a
open Go.RowKit

/-- What 'e.X = append(e.X, more.X...)' leaves, told outside the walk. -/
theorem added {D : Type} {E : Reads D} {t : TypeId} {size : Nat} {B M : Nat} {w x : World} {F G : Nat → Value} {a0 a1 a3 : Option Addr} {c1 c3 : Nat} {ds es : List D} {xs ns : List Value} (gr : Grows E) (i : Nat) (hBM : B < M)
    (hB : w.rowIs B 42 3 F) (hM : w.rowIs M 42 3 G) (hA : AppendOf E t size (B + 1) w a0 ds.length a1 es.length c1 ds es xs ns) (hx : Ext w.drew x) (hb : ds.length + es.length ≤ 5864062014634)
    (ho : x.ownsRow (B + 1) t size (.slice a3 (ds.length + es.length) c3) (ds.length + es.length) (xs ++ ns)) :
    Below B w (x.setCell ⟨B, i, none⟩ (.slice a3 (ds.length + es.length) c3)) ∧ Keeps (B + 1) w (x.setCell ⟨B, i, none⟩ (.slice a3 (ds.length + es.length) c3)) ∧
    (x.setCell ⟨B, i, none⟩ (.slice a3 (ds.length + es.length) c3)).rowIs B 42 3 (fun j => if j = i then .slice a3 (ds.length + es.length) c3 else F j) ∧
    (x.setCell ⟨B, i, none⟩ (.slice a3 (ds.length + es.length) c3)).rowIs M 42 3 G ∧
    Owned E t size (B + 1) (x.setCell ⟨B, i, none⟩ (.slice a3 (ds.length + es.length) c3)) (.slice a3 (ds.length + es.length) c3) (ds ++ es) := by
  have hx' : Ext w x := (Ext.refl w).drew.trans hx
  have hBl := hB.lt
  have hkp : Keeps (B + 1) w (x.setCell ⟨B, i, none⟩ (.slice a3 (ds.length + es.length) c3)) := Keeps.setCell (hx'.keeps _) (by simp) _
  refine ⟨(Below.mono hx' (Nat.le_of_lt hBl)).setCell (Nat.le_refl _) _, hkp, (rowIs_ext hB hx').set i _, hM.of_block (hkp.2 M (by omega) hM.lt), by simpa using hb, xs ++ ns, ?_, fun k d hk => gr.keep _ _ _ _ _ (hA.reads k d hk) hkp⟩
  rw [List.length_append]
  exact ownsRow_keep ho (Keeps.setCell (Keeps.refl _ _) (by simp) _)

set_option maxRecDepth 100000 in
set_option maxHeartbeats 1000000 in
theorem add_any (B M : Nat) (v0 v1 v2 u0 u1 u2 : Value) (ks ks' : List KeyD) (rs rs' : List RvD) (cs cs' : List Unit) (w : World) (hBM : B < M)
    (h : EndF B w v0 v1 v2 ks rs cs) (h' : EndF M w u0 u1 u2 ks' rs' cs') (b1 : ks.length ≤ 1048576) (b2 : rs.length ≤ 1048576) (b3 : cs.length ≤ 1048576) (b1' : ks'.length ≤ 1048576) (b2' : rs'.length ≤ 1048576) (b3' : cs'.length ≤ 1048576) :
    Calls Try.prog 14 #[.pointer (some ⟨B, 0, none⟩), .pointer (some ⟨M, 0, none⟩)] w fun e w' => e = .returned (.tuple #[]) ∧ ∃ v0' v1' v2',
      w'.rowIs B 42 3 (fun j => if j = 0 then v0' else if j = 1 then v1' else v2') ∧ Owned AKeyC 68 3 (B + 1) w' v0' (ks ++ ks') ∧ Owned RvC 58 5 (B + 1) w' v1' (rs ++ rs') ∧ Owned AnyC 72 3 (B + 1) w' v2' (cs ++ cs') ∧
      Below B w w' ∧ Keeps (B + 1) w w' := by
  obtain ⟨hB0, hk, hr, hc⟩ := h
  obtain ⟨hM0, hk', hr', hc'⟩ := h'
  have HR : Hid (OwnedF RvC 58 5 (B + 1) w v1 rs ∧ OwnedF AnyC 72 3 (B + 1) w v2 cs ∧ OwnedF RvC 58 5 (M + 1) w u1 rs' ∧ OwnedF AnyC 72 3 (M + 1) w u2 cs') := ⟨hr, hc, hr', hc'⟩
  clear hr hc hr' hc'
  obtain ⟨i0, hi0, hz00, hz01, hz02⟩ := info_parts Try.info68
  obtain ⟨i1, hi1, hz10, hz11, hz12⟩ := info_parts Try.info58
  obtain ⟨i2, hi2, hz20, hz21, hz22⟩ := info_parts Try.info72
  obtain ⟨a00, a01, c01, xs0, ns0, e0v, e0u, A0⟩ := append_of local_akey one_akey grows_akey (by omega) (by omega) hk hk'.1
  subst e0v
  subst e0u
  have hBl0 := hB0.lt
  have q0 := hB0.cell (i := 0) (by omega)
  have f0 := hB0.frozen 0
  have p0 := hM0.cell (i := 0) (by omega)
  simp only [if_true] at q0 p0
  have HA0 : Hid (AppendOf AKeyC 68 3 (B + 1) w a00 ks.length a01 ks'.length c01 ks ks' xs0 ns0) := A0
  have HB0 : Hid (w.rowIs B 42 3 (fun j => if j = 0 then (.slice a00 ks.length ks.length) else if j = 1 then v1 else v2)) := hB0
  have HM0 : Hid (w.rowIs M 42 3 (fun j => if j = 0 then (.slice a01 ks'.length c01) else if j = 1 then u1 else u2)) := hM0
  clear A0 hB0 hM0
  clear hk hk'
  go_enter Try.func14, Try.ntmps14
  go_upto_region 0 with fail
  go_cut [] from 4 (fun wr => Hid (∃ v0', Below B w wr ∧ Keeps (B + 1) w wr ∧ wr.rowIs B 42 3 (fun j => if j = 0 then v0' else if j = 1 then v1 else v2) ∧ wr.rowIs M 42 3 (fun j => if j = 0 then .slice a01 ks'.length c01 else if j = 1 then u1 else u2) ∧ Owned AKeyC 68 3 (B + 1) wr v0' (ks ++ ks')))
  case first =>
    go_region_law ((refine step_append_full (w := w.drew) rfl (.tmp 8) (.tmp 12) 39 rfl 68 i0 _ 3 64 (B + 1) Try.underlying39 hi0 hz00 hz01 hz02 rfl (by omega) a00 ks.length xs0 (by simp [Act.eval]) HA0.out.own a01 ks'.length c01 ns0 (by simp [Act.eval]) HA0.out.len HA0.out.nilm HA0.out.src HA0.out.one (by unfold maxLen; omega) (by omega) (by simp; omega) ?_; intro a03 c03 x0 hown0 hx0; have q0' := (hx0.cell (p := ⟨B, 0, none⟩) hBl0).trans q0; have f0' := (hx0.frozen (p := ⟨B, 0, none⟩) hBl0).trans f0; have HO0 : Hid (x0.ownsRow (B + 1) 68 3 (.slice a03 (ks.length + ks'.length) c03) (ks.length + ks'.length) (xs0 ++ ns0)) := hown0; clear hown0))
    all_goals
      go_wp2
      go_meet
      case rel =>
        obtain ⟨t1, t2, t3, t4, t5⟩ := added grows_akey 0 hBM HB0.out HM0.out HA0.out hx0 (by omega) HO0.out
        exact ⟨_, t1, t2, t3.congr (fun i hi => by match i, hi with | 0, _ => rfl | 1, _ => rfl | 2, _ => rfl), t4, t5⟩
  case rest =>
    obtain ⟨v0', hbl1, hkp1, hB1, hM1, hK1⟩ := hcut.out
    clear hcut
    obtain ⟨hr0, hc0, hr0', hc0'⟩ := HR.out
    have hr1 := hr0.keep grows_rv hkp1
    have hc1 := hc0.keep grows_any hkp1
    have hr1' := hr0'.keep grows_rv (hkp1.mono (show B + 1 ≤ M + 1 by omega))
    have hc1' := hc0'.keep grows_any (hkp1.mono (show B + 1 ≤ M + 1 by omega))
    have HK1 : Hid (Below B w wc ∧ Keeps (B + 1) w wc ∧ Owned AKeyC 68 3 (B + 1) wc v0' (ks ++ ks')) := ⟨hbl1, hkp1, hK1⟩
    have HR1 : Hid (OwnedF AnyC 72 3 (B + 1) wc v2 cs ∧ OwnedF AnyC 72 3 (M + 1) wc u2 cs') := ⟨hc1, hc1'⟩
    clear HR hr0 hc0 hr0' hc0' HB0 HM0 HA0 q0 f0 p0 hc1 hc1' hbl1 hkp1 hK1
    obtain ⟨W1, hW1⟩ : ∃ W1, W1 = wc := ⟨_, rfl⟩
    rw [← hW1] at hB1 hM1 hr1 hr1' HK1 HR1 ⊢
    clear hW1
    clear wc
    obtain ⟨a10, a11, c11, xs1, ns1, e1v, e1u, A1⟩ := append_of local_rv one_rv grows_rv (by omega) (by omega) hr1 hr1'.1
    subst e1v
    subst e1u
    have hBl1 := hB1.lt
    have q1 := hB1.cell (i := 1) (by omega)
    have f1 := hB1.frozen 1
    have p1 := hM1.cell (i := 1) (by omega)
    simp only [if_true, show ¬ (1 : Nat) = 0 by omega, if_false] at q1 p1
    have HA1 : Hid (AppendOf RvC 58 5 (B + 1) W1 a10 rs.length a11 rs'.length c11 rs rs' xs1 ns1) := A1
    have HB1 : Hid (W1.rowIs B 42 3 (fun j => if j = 0 then v0' else if j = 1 then (.slice a10 rs.length rs.length) else v2)) := hB1
    have HM1 : Hid (W1.rowIs M 42 3 (fun j => if j = 0 then (.slice a01 ks'.length c01) else if j = 1 then (.slice a11 rs'.length c11) else u2)) := hM1
    clear A1 hB1 hM1
    clear hr1 hr1'
    go_upto_region 1 with fail
    go_cut [] from 4 (fun wr => Hid (∃ v1', Below B W1 wr ∧ Keeps (B + 1) W1 wr ∧ wr.rowIs B 42 3 (fun j => if j = 0 then v0' else if j = 1 then v1' else v2) ∧ wr.rowIs M 42 3 (fun j => if j = 0 then .slice a01 ks'.length c01 else if j = 1 then .slice a11 rs'.length c11 else u2) ∧ Owned RvC 58 5 (B + 1) wr v1' (rs ++ rs')))
    case first =>
      go_region_law ((refine step_append_full (w := W1.drew) rfl (.tmp 20) (.tmp 24) 35 rfl 58 i1 _ 5 88 (B + 1) Try.underlying35 hi1 hz10 hz11 hz12 rfl (by omega) a10 rs.length xs1 (by simp [Act.eval]) HA1.out.own a11 rs'.length c11 ns1 (by simp [Act.eval]) HA1.out.len HA1.out.nilm HA1.out.src HA1.out.one (by unfold maxLen; omega) (by omega) (by simp; omega) ?_; intro a13 c13 x1 hown1 hx1; have q1' := (hx1.cell (p := ⟨B, 1, none⟩) hBl1).trans q1; have f1' := (hx1.frozen (p := ⟨B, 1, none⟩) hBl1).trans f1; have HO1 : Hid (x1.ownsRow (B + 1) 58 5 (.slice a13 (rs.length + rs'.length) c13) (rs.length + rs'.length) (xs1 ++ ns1)) := hown1; clear hown1))
      all_goals
        go_wp2
        go_meet
        case rel =>
          obtain ⟨t1, t2, t3, t4, t5⟩ := added grows_rv 1 hBM HB1.out HM1.out HA1.out hx1 (by omega) HO1.out
          exact ⟨_, t1, t2, t3.congr (fun i hi => by match i, hi with | 0, _ => rfl | 1, _ => rfl | 2, _ => rfl), t4, t5⟩
    case rest =>
      obtain ⟨v1', hbl2, hkp2, hB2, hM2, hK2⟩ := hcut.out
      clear hcut
      obtain ⟨hc0, hc0'⟩ := HR1.out
      obtain ⟨hbl1, hkp1, hK1⟩ := HK1.out
      have hc1 := hc0.keep grows_any hkp2
      have hc1' := hc0'.keep grows_any (hkp2.mono (show B + 1 ≤ M + 1 by omega))
      have HK2 : Hid (Below B w wc ∧ Keeps (B + 1) w wc ∧ Owned AKeyC 68 3 (B + 1) wc v0' (ks ++ ks') ∧ Owned RvC 58 5 (B + 1) wc v1' (rs ++ rs')) := ⟨hbl1.trans hbl2, hkp1.trans hkp2, hK1.keep grows_akey hkp2, hK2⟩
      clear HR1 hc0 hc0' HB1 HM1 HA1 q1 f1 p1 hbl1 hkp1 hK1 hbl2 hkp2 hK2 HK1
      obtain ⟨W2, hW2⟩ : ∃ W2, W2 = wc := ⟨_, rfl⟩
      rw [← hW2] at hB2 hM2 hc1 hc1' HK2 ⊢
      clear hW2
      clear wc
      obtain ⟨a20, a21, c21, xs2, ns2, e2v, e2u, A2⟩ := append_of local_any one_any grows_any (by omega) (by omega) hc1 hc1'.1
      subst e2v
      subst e2u
      have hBl2 := hB2.lt
      have q2 := hB2.cell (i := 2) (by omega)
      have f2 := hB2.frozen 2
      have p2 := hM2.cell (i := 2) (by omega)
      simp only [show ¬ (2 : Nat) = 0 by omega, show ¬ (2 : Nat) = 1 by omega, if_false] at q2 p2
      have HA2 : Hid (AppendOf AnyC 72 3 (B + 1) W2 a20 cs.length a21 cs'.length c21 cs cs' xs2 ns2) := A2
      have HB2 : Hid (W2.rowIs B 42 3 (fun j => if j = 0 then v0' else if j = 1 then v1' else (.slice a20 cs.length cs.length))) := hB2
      have HM2 : Hid (W2.rowIs M 42 3 (fun j => if j = 0 then (.slice a01 ks'.length c01) else if j = 1 then (.slice a11 rs'.length c11) else (.slice a21 cs'.length c21))) := hM2
      clear A2 hB2 hM2
      clear hc1 hc1'
      go_wp2
      go_region_law ((refine step_append_full (w := W2.drew) rfl (.tmp 32) (.tmp 36) 40 rfl 72 i2 _ 3 64 (B + 1) Try.underlying40 hi2 hz20 hz21 hz22 rfl (by omega) a20 cs.length xs2 (by simp [Act.eval]) HA2.out.own a21 cs'.length c21 ns2 (by simp [Act.eval]) HA2.out.len HA2.out.nilm HA2.out.src HA2.out.one (by unfold maxLen; omega) (by omega) (by simp; omega) ?_; intro a23 c23 x2 hown2 hx2; have q2' := (hx2.cell (p := ⟨B, 2, none⟩) hBl2).trans q2; have f2' := (hx2.frozen (p := ⟨B, 2, none⟩) hBl2).trans f2; have HO2 : Hid (x2.ownsRow (B + 1) 72 3 (.slice a23 (cs.length + cs'.length) c23) (cs.length + cs'.length) (xs2 ++ ns2)) := hown2; clear hown2))
      all_goals
        go_wp2
        go_end0
        obtain ⟨t1, t2, t3, t4, t5⟩ := added grows_any 2 hBM HB2.out HM2.out HA2.out hx2 (by omega) HO2.out
        obtain ⟨hbl2, hkp2, hK1, hK2⟩ := HK2.out
        exact ⟨rfl, _, _, _, t3.congr (fun i hi => by match i, hi with | 0, _ => rfl | 1, _ => rfl | 2, _ => rfl), hK1.keep grows_akey t2, hK2.keep grows_rv t2, t5, hbl2.trans t1, hkp2.trans t2⟩
end Go.Proofs.Qxb6606015a
