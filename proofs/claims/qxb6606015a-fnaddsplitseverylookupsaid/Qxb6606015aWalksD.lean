/-
  What is copied: toRV.
-/
import Derived.Test.Qxb6606015aWalksC
import Derived.Deep.DrawnRows
namespace Go.Proofs.Qxb6606015a
open Go.RowKit

theorem Try.info25 : (Try.prog.info? 25).map (fun i => (i.zero, i.size, i.bytes)) = some (some (.slice none 0 0), 1, 24) := by kernel_rfl

set_option maxHeartbeats 2000000 in
theorem toRV_any {lo : Nat} (a a3 a4 p q : Option Addr) (n c n3 c3 n4 c4 : Nat) (bs sg : List Int) (os os' : Option ByteArray) (dg : List (List Int)) (w : World)
    (h0 : Bs lo w a n c bs) (h1 : Sp lo w p os) (h2 : Sp lo w q os') (h3 : Bs lo w a3 n3 c3 sg) (h4 : Elems DigC 1 lo w a4 n4 c4 dg) :
    Calls Try.prog 21 #[.agg #[.slice a n c, .pointer p, .pointer q, .slice a3 n3 c3, .slice a4 n4 c4]] w fun e w' =>
      ∃ a' c' p' q' a3' c3' a4' c4', e = .returned (.agg #[.slice a' n c', .pointer p', .pointer q', .slice a3' n3 c3', .slice a4' n4 c4']) ∧
        Bs w.heap.size w' a' n c' bs ∧ Sp w.heap.size w' p' os ∧ Sp w.heap.size w' q' os' ∧ Bs w.heap.size w' a3' n3 c3' sg ∧ Elems DigC 1 w.heap.size w' a4' n4 c4' dg ∧ Ext w w' := by
  have hnil := fun (w : World) => run_neq_slice_nil_any (P := Try.prog) w 52 25 a4 n4 c4 0 0 Try.underlying52
  have hb4 := h4.bound
  cases a4 with
  | none =>
    obtain ⟨rfl, rfl⟩ := h4.nil rfl
    have e4 : dg = [] := List.eq_nil_of_length_eq_zero h4.len
    subst e4
    go_enter Try.func21, Try.ntmps21
    go_wp2
    obtain ⟨W, hW⟩ : ∃ W, W = ((w.alloc (.cells #[.slice a n c, .pointer p, .pointer q, .slice a3 n3 c3, .slice none 0 0] 54)).alloc (.cells #[.slice none 0 0, .pointer none, .pointer none, .slice none 0 0, .slice none 0 0] 58)) := ⟨_, rfl⟩
    rw [← hW]
    have hxW1 : Ext ((w.alloc (.cells #[.slice a n c, .pointer p, .pointer q, .slice a3 n3 c3, .slice none 0 0] 54)).alloc (.cells #[.slice none 0 0, .pointer none, .pointer none, .slice none 0 0, .slice none 0 0] 58)) W := by rw [hW]; exact Ext.refl _
    have hxW : Ext w W := by rw [hW]; exact ((Ext.refl _).alloc _).alloc _
    have hdg : Elems DigC 1 (w.heap.size + 2) W none 0 0 [] := Elems.empty _ _ _ _
    clear hW hnil h4 hb4

    have hsz : w.heap.size + 2 ≤ W.heap.size := by have := hxW1.le; simp at this; omega
    have HK : Hid (∀ w', Ext W w' → w'.cell? ⟨w.heap.size, 0, none⟩ = some (.slice a n c) ∧ w'.cell? ⟨w.heap.size, 1, none⟩ = some (.pointer p) ∧ w'.cell? ⟨w.heap.size, 2, none⟩ = some (.pointer q) ∧ w'.cell? ⟨w.heap.size, 3, none⟩ = some (.slice a3 n3 c3)) := by
      intro w' hx
      refine ⟨?_, ?_, ?_, ?_⟩
      · rw [hx.cell (by simp; omega), hxW1.cell (by simp <;> omega)]; simp
      · rw [hx.cell (by simp; omega), hxW1.cell (by simp <;> omega)]; simp
      · rw [hx.cell (by simp; omega), hxW1.cell (by simp <;> omega)]; simp
      · rw [hx.cell (by simp; omega), hxW1.cell (by simp <;> omega)]; simp
    have HR : Hid (∀ w', Ext W w' → (w'.cell? ⟨w.heap.size + 1, 0, none⟩ = some (.slice none 0 0) ∧ w'.cell? ⟨w.heap.size + 1, 1, none⟩ = some (.pointer none) ∧ w'.cell? ⟨w.heap.size + 1, 2, none⟩ = some (.pointer none) ∧
        w'.cell? ⟨w.heap.size + 1, 3, none⟩ = some (.slice none 0 0) ∧ w'.cell? ⟨w.heap.size + 1, 4, none⟩ = some (.slice none 0 0)) ∧
        (w'.frozen? ⟨w.heap.size + 1, 0, none⟩ = false ∧ w'.frozen? ⟨w.heap.size + 1, 1, none⟩ = false ∧ w'.frozen? ⟨w.heap.size + 1, 2, none⟩ = false ∧ w'.frozen? ⟨w.heap.size + 1, 3, none⟩ = false ∧ w'.frozen? ⟨w.heap.size + 1, 4, none⟩ = false)) := by
      intro w' hx
      refine ⟨⟨?_, ?_, ?_, ?_, ?_⟩, ?_, ?_, ?_, ?_, ?_⟩
      · rw [hx.cell (by simp; omega), hxW1.cell (by simp <;> omega)]; simp
      · rw [hx.cell (by simp; omega), hxW1.cell (by simp <;> omega)]; simp
      · rw [hx.cell (by simp; omega), hxW1.cell (by simp <;> omega)]; simp
      · rw [hx.cell (by simp; omega), hxW1.cell (by simp <;> omega)]; simp
      · rw [hx.cell (by simp; omega), hxW1.cell (by simp <;> omega)]; simp
      · rw [hx.frozen (by simp; omega), hxW1.frozen (by simp <;> omega)]; simp
      · rw [hx.frozen (by simp; omega), hxW1.frozen (by simp <;> omega)]; simp
      · rw [hx.frozen (by simp; omega), hxW1.frozen (by simp <;> omega)]; simp
      · rw [hx.frozen (by simp; omega), hxW1.frozen (by simp <;> omega)]; simp
      · rw [hx.frozen (by simp; omega), hxW1.frozen (by simp <;> omega)]; simp
    clear hxW1
    go_region_held3 (fun w' => w'.cell? ⟨w.heap.size, 0, none⟩ = some (.slice a n c) ∧ w'.cell? ⟨w.heap.size, 1, none⟩ = some (.pointer p) ∧ w'.cell? ⟨w.heap.size, 2, none⟩ = some (.pointer q) ∧ w'.cell? ⟨w.heap.size, 3, none⟩ = some (.slice a3 n3 c3))
      (first | (refine HK.out _ ?_; first | exact (Ext.refl _).drew | assumption) | go_keep)
      (first
        | (go_at_call 9; refine (cloneBytes_any a n c bs _ (h0.ext hxW.drew)).mono ?_; rintro e w1 ⟨a', c', rfl, k1, x1⟩; have y1 : Ext W w1 := (Ext.refl W).drew.trans x1)
        | (go_at_call 33; refine (toComp_any p q a3 n3 c3 os os' sg _ (h1.ext (hxW.trans y1)) (h2.ext (hxW.trans y1)) (h3.ext (hxW.trans y1))).mono ?_; rintro e w2 ⟨p', q', a3', c3', rfl, k2, k3, k4, x2⟩; have y2 : Ext W w2 := y1.trans x2; obtain ⟨⟨r0, r1, r2, r3, r4⟩, f0, f1, f2, f3, f4⟩ := HR.out _ y2))
    go_wp2
    have z1 : Ext w w2 := hxW.trans y2
    have m1 : Bs W.heap.size w2 a' n c' bs := (k1.lower (Nat.le_refl _)).ext x2
    have m2 : Sp W.heap.size w2 p' os := k2.lower y1.le
    have m3 : Sp W.heap.size w2 q' os' := k3.lower y1.le
    have m4 : Bs W.heap.size w2 a3' n3 c3' sg := k4.lower y1.le
    have m5 := hdg.ext grows_dig y2
    have hlo := hsz
    refine bodyPost_ret (v := .agg #[.slice a' n c', .pointer p', .pointer q', .slice a3' n3 c3', .slice none 0 0]) (by simp [results, Try.results21, go_sem, r0, r1, r2, r3, r4]) rfl ⟨a', c', p', q', a3', c3', none, 0, rfl, ?_, ?_, ?_, ?_, ?_, ?_⟩
    · exact (m1.keep ((((((Keeps.refl _ _).setCell (by simp; omega) _).setCell (by simp; omega) _).setCell (by simp; omega) _).setCell (by simp; omega) _).setCell (by simp; omega) _)).lower (by omega)
    · exact (m2.keep ((((((Keeps.refl _ _).setCell (by simp; omega) _).setCell (by simp; omega) _).setCell (by simp; omega) _).setCell (by simp; omega) _).setCell (by simp; omega) _)).lower (by omega)
    · exact (m3.keep ((((((Keeps.refl _ _).setCell (by simp; omega) _).setCell (by simp; omega) _).setCell (by simp; omega) _).setCell (by simp; omega) _).setCell (by simp; omega) _)).lower (by omega)
    · exact (m4.keep ((((((Keeps.refl _ _).setCell (by simp; omega) _).setCell (by simp; omega) _).setCell (by simp; omega) _).setCell (by simp; omega) _).setCell (by simp; omega) _)).lower (by omega)
    · exact (m5.keep grows_dig ((((((Keeps.refl _ _).setCell (by simp) _).setCell (by simp) _).setCell (by simp) _).setCell (by simp) _).setCell (by simp) _)).lower grows_dig (by omega)
    · exact ((((z1.setCell (by simp) _).setCell (by simp) _).setCell (by simp) _).setCell (by simp) _).setCell (by simp) _
  | some ad =>
    have hmk := run_make_row' (P := Try.prog) 52 25 (.slice none 0 0) 24 Try.underlying52 Try.info25 rfl .i64 .i64 n4 (by omega) (by omega)
    have hx0 : Ext w ((w.alloc (.cells #[.slice a n c, .pointer p, .pointer q, .slice a3 n3 c3, .slice (some ad) n4 c4] 54)).alloc (.cells #[.slice none 0 0, .pointer none, .pointer none, .slice none 0 0, .slice none 0 0] 58)) := ((Ext.refl _).alloc _).alloc _
    go_enter Try.func21, Try.ntmps21
    go_wp2
    have hF0 := World.rowIs_made ((w.alloc (.cells #[.slice a n c, .pointer p, .pointer q, .slice a3 n3 c3, .slice (some ad) n4 c4] 54)).alloc (.cells #[.slice none 0 0, .pointer none, .pointer none, .slice none 0 0, .slice none 0 0] 58)) (.slice none 0 0) n4 25
    have es : ((w.alloc (.cells #[.slice a n c, .pointer p, .pointer q, .slice a3 n3 c3, .slice (some ad) n4 c4] 54)).alloc (.cells #[.slice none 0 0, .pointer none, .pointer none, .slice none 0 0, .slice none 0 0] 58)).heap.size = w.heap.size + 2 := by simp
    rw [es] at hF0
    clear es hmk
    obtain ⟨W0, hW0⟩ : ∃ W0, W0 = ((w.alloc (.cells #[.slice a n c, .pointer p, .pointer q, .slice a3 n3 c3, .slice (some ad) n4 c4] 54)).alloc (.cells #[.slice none 0 0, .pointer none, .pointer none, .slice none 0 0, .slice none 0 0] 58)) := ⟨_, rfl⟩
    rw [← hW0] at hF0 hx0 ⊢
    have hs0 : W0.heap.size = w.heap.size + 2 := by rw [hW0]; simp
    have HS0 : Hid (W0.heap.size = w.heap.size + 2) := hs0
    have hcb : W0.cell? ⟨w.heap.size, 4, none⟩ = some (.slice (some ad) n4 c4) := by rw [hW0]; simp
    have HW0 : Hid (W0 = _) := hW0
    clear hW0 hs0
    go_loopw [4] (fun i wr => ∃ k : Nat, k ≤ n4 ∧ i = .int .i64 k ∧ Ext W0 wr ∧ ∃ F, wr.rowIs (w.heap.size + 2) 25 n4 F ∧ ∀ j d, j < k → dg[j]? = some d → BsC (w.heap.size + 3) wr (F j) d) (fun i _ => n4 - (intOf i).toNat)
    case atStart => exact ⟨0, Nat.zero_le _, rfl, (Ext.refl _).alloc _, _, hF0, fun j d hj => absurd hj (by omega)⟩
    case round =>
      obtain ⟨k, hk, rfl, hx, F, hF, hE⟩ := hrel
      have HF : Hid (wr.rowIs (w.heap.size + 2) 25 n4 F ∧ ∀ j d, j < k → dg[j]? = some d → BsC (w.heap.size + 3) wr (F j) d) := ⟨hF, hE⟩
      clear hF hE hF0
      have hs0 := HS0.out
      have hcr : wr.cell? ⟨w.heap.size, 4, none⟩ = some (.slice (some ad) n4 c4) := (hx.cell (p := ⟨w.heap.size, 4, none⟩) (by simp; omega)).trans hcb
      clear hs0 hcb
      by_cases hlt : k < n4
      · obtain ⟨b, off, f, d, hh, hbl, hd, hEl, hc⟩ := (h4.ext grows_dig (hx0.trans hx)).elem k hlt
        cases hh
        have g0 := hc 0 (by omega)
        obtain ⟨a5, n5, c5, e0, s0⟩ := hEl
        rw [e0] at g0
        simp only [Nat.add_zero, Nat.mul_one] at g0
        have HD : Hid (dg[k]? = some d) := hd
        clear hc e0 hd h0 h1 h2 h3 h4
        go_wp2_with (go_at_call 9; refine (cloneBytes_any _ _ _ _ _ s0).mono ?_; rintro e w1 ⟨a', c', rfl, k1, hx1⟩; have HF1 := rowIs_ext HF.out.1 hx1; have r0 := HF1.cell (i := k) (by omega); have f0 := HF1.frozen k; have HF2 : Hid (w1.rowIs (w.heap.size + 2) 25 n4 F) := HF1; clear HF1)
        have hF2 := HF2.out
        have hE2 := HF.out.2
        have hs0 := HS0.out
        have hsz := HF.out.1.lt
        clear HF2 HF
        go_roundw
        case rel =>
          refine ⟨k + 1, by omega, by go_num, (hx.trans hx1).setCell (by simp; omega) _, _, hF2.set _ _, fun j d' hj hd' => ?_⟩
          by_cases hjk : j = k
          · subst hjk
            rw [HD.out] at hd'
            cases hd'
            simp only [if_true]
            exact ⟨a', n5, c', rfl, (k1.lower (by omega)).keep ((Keeps.refl _ _).setCell (by simp) _)⟩
          · simp only [hjk, if_false]
            exact (hE2 j d' (by omega) hd').keep ((hx1.keeps _).setCell (by simp) _)
        case measure => simp [intOf]; omega
      · have hkn : k = n4 := by omega
        subst hkn
        have hF := HF.out.1
        have hE := HF.out.2
        have hdg : Elems DigC 1 (w.heap.size + 2) wr (some ⟨w.heap.size + 2, 0, none⟩) k k dg :=
          Elems.of_rowIs local_dig (by rw [Nat.mul_one]; exact hF) (Nat.le_refl _) h4.len hb4 (fun j d hj => by
            have hjl := (List.getElem?_eq_some_iff.1 hj).1
            rw [h4.len] at hjl
            have := (hE j d hjl hj).lower (show w.heap.size + 2 ≤ w.heap.size + 3 by omega)
            simpa [DigC] using this)
        clear hF hE HF
        go_wp2
        clear hcr
        obtain ⟨W, hW⟩ : ∃ W, W = wr := ⟨_, rfl⟩
        rw [← hW] at hdg hx ⊢
        have hxW1 : Ext ((w.alloc (.cells #[.slice a n c, .pointer p, .pointer q, .slice a3 n3 c3, .slice (some ad) k c4] 54)).alloc (.cells #[.slice none 0 0, .pointer none, .pointer none, .slice none 0 0, .slice none 0 0] 58)) W := by have := HW0.out; rw [← this]; exact hx
        have hxW : Ext w W := hx0.trans hx
        clear hW hx HW0 HS0 hx0 h4 hb4 hnil

        have hsz : w.heap.size + 2 ≤ W.heap.size := by have := hxW1.le; simp at this; omega
        have HK : Hid (∀ w', Ext W w' → w'.cell? ⟨w.heap.size, 0, none⟩ = some (.slice a n c) ∧ w'.cell? ⟨w.heap.size, 1, none⟩ = some (.pointer p) ∧ w'.cell? ⟨w.heap.size, 2, none⟩ = some (.pointer q) ∧ w'.cell? ⟨w.heap.size, 3, none⟩ = some (.slice a3 n3 c3)) := by
          intro w' hx
          refine ⟨?_, ?_, ?_, ?_⟩
          · rw [hx.cell (by simp; omega), hxW1.cell (by simp <;> omega)]; simp
          · rw [hx.cell (by simp; omega), hxW1.cell (by simp <;> omega)]; simp
          · rw [hx.cell (by simp; omega), hxW1.cell (by simp <;> omega)]; simp
          · rw [hx.cell (by simp; omega), hxW1.cell (by simp <;> omega)]; simp
        have HR : Hid (∀ w', Ext W w' → (w'.cell? ⟨w.heap.size + 1, 0, none⟩ = some (.slice none 0 0) ∧ w'.cell? ⟨w.heap.size + 1, 1, none⟩ = some (.pointer none) ∧ w'.cell? ⟨w.heap.size + 1, 2, none⟩ = some (.pointer none) ∧
            w'.cell? ⟨w.heap.size + 1, 3, none⟩ = some (.slice none 0 0) ∧ w'.cell? ⟨w.heap.size + 1, 4, none⟩ = some (.slice none 0 0)) ∧
            (w'.frozen? ⟨w.heap.size + 1, 0, none⟩ = false ∧ w'.frozen? ⟨w.heap.size + 1, 1, none⟩ = false ∧ w'.frozen? ⟨w.heap.size + 1, 2, none⟩ = false ∧ w'.frozen? ⟨w.heap.size + 1, 3, none⟩ = false ∧ w'.frozen? ⟨w.heap.size + 1, 4, none⟩ = false)) := by
          intro w' hx
          refine ⟨⟨?_, ?_, ?_, ?_, ?_⟩, ?_, ?_, ?_, ?_, ?_⟩
          · rw [hx.cell (by simp; omega), hxW1.cell (by simp <;> omega)]; simp
          · rw [hx.cell (by simp; omega), hxW1.cell (by simp <;> omega)]; simp
          · rw [hx.cell (by simp; omega), hxW1.cell (by simp <;> omega)]; simp
          · rw [hx.cell (by simp; omega), hxW1.cell (by simp <;> omega)]; simp
          · rw [hx.cell (by simp; omega), hxW1.cell (by simp <;> omega)]; simp
          · rw [hx.frozen (by simp; omega), hxW1.frozen (by simp <;> omega)]; simp
          · rw [hx.frozen (by simp; omega), hxW1.frozen (by simp <;> omega)]; simp
          · rw [hx.frozen (by simp; omega), hxW1.frozen (by simp <;> omega)]; simp
          · rw [hx.frozen (by simp; omega), hxW1.frozen (by simp <;> omega)]; simp
          · rw [hx.frozen (by simp; omega), hxW1.frozen (by simp <;> omega)]; simp
        clear hxW1
        go_region_held3 (fun w' => w'.cell? ⟨w.heap.size, 0, none⟩ = some (.slice a n c) ∧ w'.cell? ⟨w.heap.size, 1, none⟩ = some (.pointer p) ∧ w'.cell? ⟨w.heap.size, 2, none⟩ = some (.pointer q) ∧ w'.cell? ⟨w.heap.size, 3, none⟩ = some (.slice a3 n3 c3))
          (first | (refine HK.out _ ?_; first | exact (Ext.refl _).drew | assumption) | go_keep)
          (first
            | (go_at_call 9; refine (cloneBytes_any a n c bs _ (h0.ext hxW.drew)).mono ?_; rintro e w1 ⟨a', c', rfl, k1, x1⟩; have y1 : Ext W w1 := (Ext.refl W).drew.trans x1)
            | (go_at_call 33; refine (toComp_any p q a3 n3 c3 os os' sg _ (h1.ext (hxW.trans y1)) (h2.ext (hxW.trans y1)) (h3.ext (hxW.trans y1))).mono ?_; rintro e w2 ⟨p', q', a3', c3', rfl, k2, k3, k4, x2⟩; have y2 : Ext W w2 := y1.trans x2; obtain ⟨⟨r0, r1, r2, r3, r4⟩, f0, f1, f2, f3, f4⟩ := HR.out _ y2))
        go_wp2
        have z1 : Ext w w2 := hxW.trans y2
        have m1 : Bs W.heap.size w2 a' n c' bs := (k1.lower (Nat.le_refl _)).ext x2
        have m2 : Sp W.heap.size w2 p' os := k2.lower y1.le
        have m3 : Sp W.heap.size w2 q' os' := k3.lower y1.le
        have m4 : Bs W.heap.size w2 a3' n3 c3' sg := k4.lower y1.le
        have m5 := hdg.ext grows_dig y2
        have hlo := hsz
        refine bodyPost_ret (v := .agg #[.slice a' n c', .pointer p', .pointer q', .slice a3' n3 c3', .slice (some ⟨w.heap.size + 2, 0, none⟩) k k]) (by simp [results, Try.results21, go_sem, r0, r1, r2, r3, r4]) rfl ⟨a', c', p', q', a3', c3', (some ⟨w.heap.size + 2, 0, none⟩), k, rfl, ?_, ?_, ?_, ?_, ?_, ?_⟩
        · exact (m1.keep ((((((Keeps.refl _ _).setCell (by simp; omega) _).setCell (by simp; omega) _).setCell (by simp; omega) _).setCell (by simp; omega) _).setCell (by simp; omega) _)).lower (by omega)
        · exact (m2.keep ((((((Keeps.refl _ _).setCell (by simp; omega) _).setCell (by simp; omega) _).setCell (by simp; omega) _).setCell (by simp; omega) _).setCell (by simp; omega) _)).lower (by omega)
        · exact (m3.keep ((((((Keeps.refl _ _).setCell (by simp; omega) _).setCell (by simp; omega) _).setCell (by simp; omega) _).setCell (by simp; omega) _).setCell (by simp; omega) _)).lower (by omega)
        · exact (m4.keep ((((((Keeps.refl _ _).setCell (by simp; omega) _).setCell (by simp; omega) _).setCell (by simp; omega) _).setCell (by simp; omega) _).setCell (by simp; omega) _)).lower (by omega)
        · exact (m5.keep grows_dig ((((((Keeps.refl _ _).setCell (by simp) _).setCell (by simp) _).setCell (by simp) _).setCell (by simp) _).setCell (by simp) _)).lower grows_dig (by omega)
        · exact ((((z1.setCell (by simp) _).setCell (by simp) _).setCell (by simp) _).setCell (by simp) _).setCell (by simp) _
end Go.Proofs.Qxb6606015a
