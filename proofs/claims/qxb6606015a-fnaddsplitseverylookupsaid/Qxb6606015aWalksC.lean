/-
  What is copied: toComp, toComps, toCert, ZZnewAttestationKey.
-/
import Derived.Test.Qxb6606015aWalksA
import Derived.Deep.DrawnRows
namespace Go.Proofs.Qxb6606015a
open Go.RowKit

set_option maxHeartbeats 1000000 in
theorem toComp_any {lo : Nat} (p q a : Option Addr) (n c : Nat) (os os' : Option ByteArray) (bs : List Int) (w : World) (h1 : Sp lo w p os) (h2 : Sp lo w q os') (h3 : Bs lo w a n c bs) :
    Calls Try.prog 33 #[.agg #[.pointer p, .pointer q, .slice a n c]] w fun e w' =>
      ∃ p' q' a' c', e = .returned (.agg #[.pointer p', .pointer q', .slice a' n c']) ∧ Sp w.heap.size w' p' os ∧ Sp w.heap.size w' q' os' ∧ Bs w.heap.size w' a' n c' bs ∧ Ext w w' := by
  go_enter Try.func33, Try.ntmps33
  go_wp2
  generalize hW : (w.alloc _).alloc _ = W
  have hxW : Ext w W := by rw [← hW]; exact ((Ext.refl _).alloc _).alloc _
  have hsz : w.heap.size + 2 ≤ W.heap.size := by rw [← hW]; simp
  have HK : Hid (∀ w', Ext W w' → w'.cell? ⟨w.heap.size, 0, none⟩ = some (.pointer p) ∧ w'.cell? ⟨w.heap.size, 1, none⟩ = some (.pointer q) ∧ w'.cell? ⟨w.heap.size, 2, none⟩ = some (.slice a n c)) := by
    intro w' hx
    refine ⟨?_, ?_, ?_⟩
    · rw [hx.cell (by simp; omega), ← hW]; simp
    · rw [hx.cell (by simp; omega), ← hW]; simp
    · rw [hx.cell (by simp; omega), ← hW]; simp
  have HR : Hid (∀ w', Ext W w' → (w'.cell? ⟨w.heap.size + 1, 0, none⟩ = some (.pointer none) ∧ w'.cell? ⟨w.heap.size + 1, 1, none⟩ = some (.pointer none) ∧ w'.cell? ⟨w.heap.size + 1, 2, none⟩ = some (.slice none 0 0)) ∧
      (w'.frozen? ⟨w.heap.size + 1, 0, none⟩ = false ∧ w'.frozen? ⟨w.heap.size + 1, 1, none⟩ = false ∧ w'.frozen? ⟨w.heap.size + 1, 2, none⟩ = false)) := by
    intro w' hx
    refine ⟨⟨?_, ?_, ?_⟩, ?_, ?_, ?_⟩
    · rw [hx.cell (by simp; omega), ← hW]; simp
    · rw [hx.cell (by simp; omega), ← hW]; simp
    · rw [hx.cell (by simp; omega), ← hW]; simp
    · rw [hx.frozen (by simp; omega), ← hW]; simp
    · rw [hx.frozen (by simp; omega), ← hW]; simp
    · rw [hx.frozen (by simp; omega), ← hW]; simp
  clear hW
  go_region_held3 (fun w' => w'.cell? ⟨w.heap.size, 0, none⟩ = some (.pointer p) ∧ w'.cell? ⟨w.heap.size, 1, none⟩ = some (.pointer q) ∧ w'.cell? ⟨w.heap.size, 2, none⟩ = some (.slice a n c))
    (first | (refine HK.out _ ?_; first | exact (Ext.refl _).drew | assumption) | go_keep)
    (first
      | (go_at_call_of 39 p; refine (cloneStr_any p os _ (h1.ext hxW.drew)).mono ?_; rintro e w1 ⟨p', rfl, k1, x1⟩; have y1 : Ext W w1 := (Ext.refl W).drew.trans x1)
      | (go_at_call_of 39 q; refine (cloneStr_any q os' _ (h2.ext (hxW.trans y1))).mono ?_; rintro e w2 ⟨q', rfl, k2, x2⟩; have y2 : Ext W w2 := y1.trans x2)
      | (go_at_call 9; refine (cloneBytes_any a n c bs _ (h3.ext (hxW.trans y2))).mono ?_; rintro e w3 ⟨a', c', rfl, k3, x3⟩; have y3 : Ext W w3 := y2.trans x3; obtain ⟨⟨r0, r1, r2⟩, f0, f1, f2⟩ := HR.out _ y3))
  go_wp2
  have z1 : Ext w w3 := hxW.trans y3
  have m1 : Sp W.heap.size w3 p' os := (k1.lower (Nat.le_refl _)).ext (x2.trans x3)
  have m2 : Sp W.heap.size w3 q' os' := (k2.lower y1.le).ext x3
  have m3 : Bs W.heap.size w3 a' n c' bs := k3.lower y2.le
  refine bodyPost_ret (v := .agg #[.pointer p', .pointer q', .slice a' n c']) (by simp [results, Try.results33, go_sem, r0, r1, r2]) rfl ⟨p', q', a', c', rfl, ?_, ?_, ?_, ?_⟩
  · exact (m1.keep ((((Keeps.refl _ _).setCell (by simp; omega) _).setCell (by simp; omega) _).setCell (by simp; omega) _)).lower (by omega)
  · exact (m2.keep ((((Keeps.refl _ _).setCell (by simp; omega) _).setCell (by simp; omega) _).setCell (by simp; omega) _)).lower (by omega)
  · exact (m3.keep ((((Keeps.refl _ _).setCell (by simp; omega) _).setCell (by simp; omega) _).setCell (by simp; omega) _)).lower (by omega)
  · exact ((z1.setCell (by simp) _).setCell (by simp) _).setCell (by simp) _
theorem Try.info56 : (Try.prog.info? 56).map (fun i => (i.zero, i.size, i.bytes)) = some (some (.agg #[.pointer none, .pointer none, .slice none 0 0]), 3, 40) := by kernel_rfl

set_option maxHeartbeats 1000000 in
theorem toComps_any {lo : Nat} (a : Option Addr) (n c : Nat) (ds : List CompD) (w : World) (h : Elems CompC 3 lo w a n c ds) :
    Calls Try.prog 36 #[.slice a n c] w fun e w' => (∃ a' n' c', e = .returned (.slice a' n' c')) ∧ Ext w w' := by
  have hnil := fun (w : World) => Lib.run_eql_slice_nil (P := Try.prog) w 60 51 a n c 0 0 Try.underlying60
  have hb := h.bound
  cases a with
  | none =>
    go_enter Try.func36, Try.ntmps36
    go_wp2
    go_ret
    exact ⟨⟨_, _, _, rfl⟩, Ext.refl _⟩
  | some ad =>
    have hmk := run_make_multi (P := Try.prog) 70 56 _ 3 40 Try.underlying70 Try.info56 .i64 .i64 n (by omega) (by omega)
    go_enter Try.func36, Try.ntmps36
    go_wp2
    obtain ⟨F0, hF0⟩ := rowIs_multi w #[.pointer none, .pointer none, .slice none 0 0] (n * 3) 56
    go_loopw [4] (fun i wr => ∃ k : Nat, k ≤ n ∧ i = .int .i64 k ∧ Ext w wr ∧ ∃ F, wr.rowIs w.heap.size 56 (n * 3) F) (fun i _ => n - (intOf i).toNat)
    case atStart => exact ⟨0, Nat.zero_le _, rfl, (Ext.refl _).alloc _, F0, hF0⟩
    case round =>
      obtain ⟨k, hk, rfl, hx, F, hF⟩ := hrel
      by_cases hlt : k < n
      · obtain ⟨b, off, f, d, hh, hbl, hd, hE, hc⟩ := (h.ext grows_comp hx).elem k hlt
        cases hh
        have g0 := hc 0 (by omega)
        have g1 := hc 1 (by omega)
        have g2 := hc 2 (by omega)
        obtain ⟨⟨p, e0, s0⟩, ⟨q, e1, s1⟩, ⟨a3, n3, c3, e2, s2⟩⟩ := hE
        rw [e0] at g0
        rw [e1] at g1
        rw [e2] at g2
        simp only [Nat.add_zero] at g0
        clear hc e0 e1 e2 hd
        have HF : Hid (wr.rowIs w.heap.size 56 (n * 3) F) := hF
        clear hF
        go_wp2_with (go_at_call 33; refine (toComp_any _ _ _ _ _ _ _ _ _ s0 s1 s2).mono ?_; rintro e w1 ⟨p', q', a', c', rfl, k1, k2, k3, hx1⟩; have HF1 := rowIs_ext HF.out hx1; have r0 := HF1.cell (i := k * 3) (by omega); have r1 := HF1.cell (i := k * 3 + 1) (by omega); have r2 := HF1.cell (i := k * 3 + 2) (by omega); have f0 := HF1.frozen (k * 3); have f1 := HF1.frozen (k * 3 + 1); have f2 := HF1.frozen (k * 3 + 2); have HF2 : Hid (w1.rowIs w.heap.size 56 (n * 3) F) := HF1; clear HF1)
        have HF2' := HF2.out
        clear HF2
        go_roundw
        case rel => exact ⟨k + 1, by omega, by go_num, (((hx.trans hx1).setCell (by simp) _).setCell (by simp) _).setCell (by simp) _, _, ((HF2'.set _ _).set _ _).set _ _⟩
        case measure => simp [intOf]; omega
      · go_wp2
        go_ret
        exact ⟨⟨_, _, _, rfl⟩, hx⟩
set_option maxHeartbeats 1000000 in
theorem toCert_any {lo : Nat} (a a1 : Option Addr) (n c n1 c1 : Nat) (s : ByteArray) (bs : List Int) (ds : List CompD) (w : World) (h1 : Bs lo w a n c bs) (h2 : Elems CompC 3 lo w a1 n1 c1 ds) :
    Calls Try.prog 26 #[.agg #[.slice a n c, .slice a1 n1 c1, .string s]] w fun e w' =>
      (∃ a' n' c' a'' n'' c'', e = .returned (.agg #[.slice a' n' c', .slice a'' n'' c'', .string s])) ∧ Ext w w' := by
  go_enter Try.func26, Try.ntmps26
  go_wp2
  generalize hW : (w.alloc _).alloc _ = W
  have hxW : Ext w W := by rw [← hW]; exact ((Ext.refl _).alloc _).alloc _
  have hsz : w.heap.size + 2 ≤ W.heap.size := by rw [← hW]; simp
  have HK : Hid (∀ w', Ext W w' → w'.cell? ⟨w.heap.size, 0, none⟩ = some (.slice a n c) ∧ w'.cell? ⟨w.heap.size, 1, none⟩ = some (.slice a1 n1 c1) ∧ w'.cell? ⟨w.heap.size, 2, none⟩ = some (.string s)) := by
    intro w' hx
    refine ⟨?_, ?_, ?_⟩
    · rw [hx.cell (by simp; omega), ← hW]; simp
    · rw [hx.cell (by simp; omega), ← hW]; simp
    · rw [hx.cell (by simp; omega), ← hW]; simp
  have HR : Hid (∀ w', Ext W w' → (w'.cell? ⟨w.heap.size + 1, 0, none⟩ = some (.slice none 0 0) ∧ w'.cell? ⟨w.heap.size + 1, 1, none⟩ = some (.slice none 0 0) ∧ w'.cell? ⟨w.heap.size + 1, 2, none⟩ = some (.string ByteArray.empty)) ∧
      (w'.frozen? ⟨w.heap.size + 1, 0, none⟩ = false ∧ w'.frozen? ⟨w.heap.size + 1, 1, none⟩ = false ∧ w'.frozen? ⟨w.heap.size + 1, 2, none⟩ = false)) := by
    intro w' hx
    refine ⟨⟨?_, ?_, ?_⟩, ?_, ?_, ?_⟩
    · rw [hx.cell (by simp; omega), ← hW]; simp
    · rw [hx.cell (by simp; omega), ← hW]; simp
    · rw [hx.cell (by simp; omega), ← hW]; simp; rfl
    · rw [hx.frozen (by simp; omega), ← hW]; simp
    · rw [hx.frozen (by simp; omega), ← hW]; simp
    · rw [hx.frozen (by simp; omega), ← hW]; simp
  clear hW
  go_region_held3 (fun w' => w'.cell? ⟨w.heap.size, 0, none⟩ = some (.slice a n c) ∧ w'.cell? ⟨w.heap.size, 1, none⟩ = some (.slice a1 n1 c1) ∧ w'.cell? ⟨w.heap.size, 2, none⟩ = some (.string s))
    (first | (refine HK.out _ ?_; first | exact (Ext.refl _).drew | assumption) | go_keep)
    (first
      | (go_at_call 9; refine (cloneBytes_any a n c bs _ (h1.ext hxW.drew)).mono ?_; rintro e w1 ⟨a', c', rfl, k1, x1⟩; have y1 : Ext W w1 := (Ext.refl W).drew.trans x1)
      | (go_at_call 36; refine (toComps_any a1 n1 c1 ds _ (h2.ext grows_comp (hxW.trans y1))).mono ?_; rintro e w2 ⟨⟨a2, n2, c2, rfl⟩, x2⟩; have y2 : Ext W w2 := y1.trans x2; obtain ⟨⟨r0, r1, r2⟩, f0, f1, f2⟩ := HR.out _ y2))
  go_wp2
  have z1 : Ext w w2 := hxW.trans y2
  refine bodyPost_ret (v := .agg #[.slice a' n c', .slice a2 n2 c2, .string s]) (by simp [results, Try.results26, go_sem, r0, r1, r2]) rfl ⟨⟨_, _, _, _, _, _, rfl⟩, ?_⟩
  exact ((z1.setCell (by simp) _).setCell (by simp) _).setCell (by simp) _

set_option maxHeartbeats 400000 in
theorem newKey_any {lo : Nat} (a b : Option Addr) (n c m d : Nat) (t : Int) (bs cs : List Int) (w : World) (h1 : Bs lo w a n c bs) (h2 : Bs lo w b m d cs) :
    Calls Try.prog 25 #[.slice a n c, .slice b m d, .int .i64 t] w fun e w' =>
      e = .returned (.agg #[.slice a n c, .slice b m d, .iface 3 (.int .i64 t)]) ∧ Bs lo w' a n c bs ∧ Bs lo w' b m d cs ∧ Ext w w' := by
  go_enter Try.func25, Try.ntmps25
  go_wp2
  have hx : Ext w (w.alloc (.cells #[.slice a n c, .slice b m d, .iface 3 (.int .i64 t)] 68)) := (Ext.refl _).alloc _
  refine bodyPost_ret (v := .agg #[.slice a n c, .slice b m d, .iface 3 (.int .i64 t)]) (by simp [results, Try.results25, go_sem]) rfl ⟨rfl, h1.ext hx, h2.ext hx, hx⟩
end Go.Proofs.Qxb6606015a
