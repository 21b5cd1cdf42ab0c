/-
  The lookups: KeysFor, zzTags, ZZkeysForTags, ReferenceValuesFor, Knows and what they call.
-/
import Derived.Test.Qxb6606015aWalksA
import Derived.Test.Qxb6606015aParts2
namespace Go.Proofs.Qxb6606015a
open Go.RowKit

theorem Try.info66 : (Try.prog.info? 66).map (fun i => (i.zero, i.size, i.bytes)) = some (some .nilIface, 1, 16) := by kernel_rfl

set_option maxRecDepth 100000 in
set_option maxHeartbeats 1000000 in
theorem keysFor_any {lo lo1 lo2 : Nat} (B : Nat) (a a1 a2 : Option Addr) (n c n1 c1 n2 c2 : Nat) (v1 v2 : Value) (ks : List KeyD) (impl inst : List Int) (w : World)
    (hB : w.rowIs B 42 3 (fun j => if j = 0 then .slice a n c else if j = 1 then v1 else v2)) (h : Elems AKeyC 3 lo w a n c ks) (h1 : Bs lo1 w a1 n1 c1 impl) (h2 : Bs lo2 w a2 n2 c2 inst) (hn : n ≤ 2097152) :
    Calls Try.prog 28 #[.pointer (some ⟨B, 0, none⟩), .slice a1 n1 c1, .slice a2 n2 c2] w fun e w' =>
      ∃ v, e = .returned v ∧ w'.ownsRow w.heap.size 66 1 v (tagsOf ks impl inst).length ((tagsOf ks impl inst).map fun t => Value.iface 3 (.int .i64 t)) ∧ (tagsOf ks impl inst = [] → v = .slice none 0 0) ∧ Ext w w' := by
  obtain ⟨i0, hi, hz0, hz1, hz2⟩ := info_parts Try.info66
  have q0 := hB.cell (i := 0) (by omega)
  simp only [if_true] at q0
  have hlen := h.len
  have HL : Hid (ks.length = n) := hlen
  clear hlen hB
  go_enter Try.func28, Try.ntmps28
  go_wp2
  go_loopw [7, 15] (fun v i wr => ∃ k : Nat, k ≤ n ∧ i = .int .i64 k ∧ wr.ownsRow w.heap.size 66 1 v (tagsOf (ks.take k) impl inst).length ((tagsOf (ks.take k) impl inst).map fun t => Value.iface 3 (.int .i64 t)) ∧ (tagsOf (ks.take k) impl inst = [] → v = .slice none 0 0) ∧ Ext w wr) (fun _ i _ => n - (intOf i).toNat)
  case atStart => exact ⟨0, Nat.zero_le _, rfl, World.ownsRow_nil _ _ _ _, fun _ => rfl, Ext.refl _⟩
  case round =>
    obtain ⟨k, hk, rfl, hown, hnil, hx⟩ := hrel
    have HO : Hid (wr.ownsRow w.heap.size 66 1 u7 (tagsOf (ks.take k) impl inst).length ((tagsOf (ks.take k) impl inst).map fun t => Value.iface 3 (.int .i64 t)) ∧ (tagsOf (ks.take k) impl inst = [] → u7 = .slice none 0 0)) := ⟨hown, hnil⟩
    clear hown hnil
    by_cases hlt : k < n
    · obtain ⟨b, off, f, d, rfl, hbl, hd, hE, hc⟩ := (h.ext grows_akey hx).elem k hlt
      have g0 := hc 0 (by omega)
      have g1 := hc 1 (by omega)
      have g2 := hc 2 (by omega)
      obtain ⟨⟨a3, n3, c3, e0, s0⟩, ⟨a4, n4, c4, e1, s1⟩, e2⟩ := hE
      rw [e0] at g0
      rw [e1] at g1
      rw [e2] at g2
      simp only [Nat.add_zero] at g0
      have HT : Hid (tagsOf (ks.take (k + 1)) impl inst = tagsOf (ks.take k) impl inst ++ (if (d.impl == impl && d.inst == inst) = true then [d.tag] else [])) := tagsOf_snoc ks impl inst k d hd
      have hle := tagsOf_le ks impl inst k
      have k1 := h1.ext hx
      have k2 := h2.ext hx
      have hsz := hx.le
      clear hc e0 e1 e2 hd h h1 h2
      by_cases hm1 : (d.impl == impl) = true
      · by_cases hm2 : (d.inst == inst) = true
        · go_wp2_with (first
            | (go_at_call_of 29 (Value.slice a3 n3 c3); refine (bytesEqual_any _ _ _ _ _ _ _ _ _ (s0.ext ((Ext.refl _).alloc _)) (k1.ext ((Ext.refl _).alloc _))).mono ?_; rintro e w' ⟨rfl, hw⟩; rw [hw, hm1]; clear hw w')
            | (go_at_call_of 29 (Value.slice a4 n4 c4); refine (bytesEqual_any _ _ _ _ _ _ _ _ _ (s1.ext ((Ext.refl _).alloc _)) (k2.ext ((Ext.refl _).alloc _))).mono ?_; rintro e w' ⟨rfl, hw⟩; rw [hw, hm2]; clear hw w')
            | (at_builtin; refine wpList_append_own _ rfl _ _ 75 rfl w.heap.size 66 i0 .nilIface 1 16 Try.underlying75 hi hz0 hz1 hz2 rfl (by decide) _ _ _ rfl ((HO.out.1.alloc _).alloc _) ⟨wr.heap.size + 1, 0, none⟩ 1 1 [.iface 3 (.int .i64 d.tag)] rfl rfl ?c1 ?c2 ?c3 ?c4 ?c5 ?_))
          case c1 =>
            intro j u hj
            match j, hj with
            | 0, hj => simp at hj; subst hj; simp [Addr.add]
          case c2 => intro u hu; simp at hu; subst hu; rfl
          case c3 => unfold maxLen; omega
          case c4 => omega
          case c5 => simp; omega
          · intro v' w1 hown' hgrow hne
            have HO1 : Hid (w1.ownsRow w.heap.size 66 1 v' ((tagsOf (List.take k ks) impl inst).length + 1) (List.map (fun t => Value.iface 3 (Value.int IntKind.i64 t)) (tagsOf (List.take k ks) impl inst) ++ [Value.iface 3 (Value.int IntKind.i64 d.tag)])) := hown'
            have hx1 : Ext w w1 := Below.grown ((hx.alloc _).alloc _) hgrow (by simp; omega) (fun r hr => (HO.out.1.lt r hr).1)
            clear hown' hgrow hne g0 g1 g2 s0 s1 k1 k2
            go_wp2
            go_roundw
            case rel =>
              have hT := HT.out
              rw [hm1, hm2] at hT
              simp only [Bool.and_self, if_true] at hT
              refine ⟨k + 1, by omega, by go_num, ?_, ?_, hx1⟩
              · rw [hT]
                simpa using HO1.out
              · intro h0
                rw [hT] at h0
                simp at h0
            case measure => simp [intOf]; omega
        · have hm2' : (d.inst == inst) = false := by simpa using hm2
          clear hm2
          go_wp2_with (first
            | (go_at_call_of 29 (Value.slice a3 n3 c3); refine (bytesEqual_any _ _ _ _ _ _ _ _ _ (s0.ext ((Ext.refl _).alloc _)) (k1.ext ((Ext.refl _).alloc _))).mono ?_; rintro e w' ⟨rfl, hw⟩; rw [hw, hm1]; clear hw w')
            | (go_at_call_of 29 (Value.slice a4 n4 c4); refine (bytesEqual_any _ _ _ _ _ _ _ _ _ (s1.ext ((Ext.refl _).alloc _)) (k2.ext ((Ext.refl _).alloc _))).mono ?_; rintro e w' ⟨rfl, hw⟩; rw [hw, hm2']; clear hw w'))
          go_roundw
          case rel =>
            have hT := HT.out
            rw [hm1, hm2'] at hT
            simp only [Bool.and_false, Bool.false_eq_true, if_false, List.append_nil] at hT
            refine ⟨k + 1, by omega, by go_num, ?_, ?_, hx.alloc _⟩
            · rw [hT]
              exact HO.out.1.alloc _
            · intro h0
              rw [hT] at h0
              exact HO.out.2 h0
          case measure => simp [intOf]; omega
      · have hm1' : (d.impl == impl) = false := by simpa using hm1
        clear hm1
        go_wp2_with (first
          | (go_at_call_of 29 (Value.slice a3 n3 c3); refine (bytesEqual_any _ _ _ _ _ _ _ _ _ (s0.ext ((Ext.refl _).alloc _)) (k1.ext ((Ext.refl _).alloc _))).mono ?_; rintro e w' ⟨rfl, hw⟩; rw [hw, hm1']; clear hw w'))
        go_roundw
        case rel =>
          have hT := HT.out
          rw [hm1'] at hT
          simp only [Bool.false_and, Bool.false_eq_true, if_false, List.append_nil] at hT
          refine ⟨k + 1, by omega, by go_num, ?_, ?_, hx.alloc _⟩
          · rw [hT]
            exact HO.out.1.alloc _
          · intro h0
            rw [hT] at h0
            exact HO.out.2 h0
        case measure => simp [intOf]; omega
    · go_wp2
      go_ret
      have hkn : k = n := by omega
      subst hkn
      have e : ks.take k = ks := List.take_of_length_le (by rw [HL.out]; exact Nat.le_refl _)
      have := HO.out
      rw [e] at this
      exact ⟨_, rfl, this.1, this.2, hx⟩
theorem Try.info3 : (Try.prog.info? 3).map (fun i => (i.zero, i.size, i.bytes)) = some (some (.int .i64 0), 1, 8) := by kernel_rfl

theorem assert_int (d : Int) (w : World) : (Instr.typeAssert (.iface 3 (.int .i64 d)) 66 3 true).run Try.prog w = .ok (.tuple #[.int .i64 d, .bool true]) w := by kernel_rfl

set_option maxRecDepth 100000 in
set_option maxHeartbeats 1000000 in
theorem zzTags_any {lo : Nat} (a : Option Addr) (n c : Nat) (ts : List Int) (w : World) (h : Elems TagC 1 lo w a n c ts) :
    Calls Try.prog 27 #[.slice a n c] w fun e w' =>
      ∃ a' c', e = .returned (.tuple #[.slice a' n c', .bool true]) ∧ Elems IntC 1 w.heap.size w' a' n c' ts ∧ (a' = none ↔ a = none) ∧ Ext w w' := by
  have hnil := fun (w : World) => Lib.run_eql_slice_nil (P := Try.prog) w 75 66 a n c 0 0 Try.underlying75
  have hb := h.bound
  cases a with
  | none =>
    obtain ⟨rfl, rfl⟩ := h.nil rfl
    have e4 : ts = [] := List.eq_nil_of_length_eq_zero h.len
    subst e4
    go_enter Try.func27, Try.ntmps27
    go_wp2
    go_ret2
    exact ⟨none, 0, rfl, Elems.empty _ _ _ _, by simp, Ext.refl _⟩
  | some ad =>
    have hmk := run_make_row' (P := Try.prog) 32 3 (.int .i64 0) 8 Try.underlying32 Try.info3 rfl .i64 .i64 n (by omega) (by omega)
    go_enter Try.func27, Try.ntmps27
    go_wp2
    have hF0 := World.rowIs_made w (.int .i64 0) n 3
    go_loopw [5, 6, 7] (fun i _ _ wr => ∃ k : Nat, k ≤ n ∧ i = .int .i64 k ∧ Ext w wr ∧ ∃ F, wr.rowIs w.heap.size 3 n F ∧ ∀ j d, j < k → ts[j]? = some d → F j = .int .i64 d) (fun i _ _ _ => n - (intOf i).toNat)
    case atStart => exact ⟨0, Nat.zero_le _, rfl, (Ext.refl _).alloc _, _, hF0, fun j d hj => absurd hj (by omega)⟩
    case round =>
      obtain ⟨k, hk, rfl, hx, F, hF, hE⟩ := hrel
      have HF : Hid (wr.rowIs w.heap.size 3 n F ∧ ∀ j d, j < k → ts[j]? = some d → F j = .int .i64 d) := ⟨hF, hE⟩
      clear hF hE hF0
      by_cases hlt : k < n
      · obtain ⟨b, off, f, d, hh, hbl, hd, hEl, hc⟩ := (h.ext grows_tag hx).elem k hlt
        cases hh
        have g0 := hc 0 (by omega)
        have e0 : f 0 = .iface 3 (.int .i64 d) := hEl
        rw [e0] at g0
        simp only [Nat.add_zero, Nat.mul_one] at g0
        have r0 := HF.out.1.cell (i := k) (by omega)
        have f0 := HF.out.1.frozen k
        have HD : Hid (ts[k]? = some d) := hd
        have hta := assert_int d
        clear hc e0 hEl hd h
        go_wp2
        have hF1 := HF.out.1
        have hE1 := HF.out.2
        go_roundw
        case rel =>
          refine ⟨k + 1, by omega, by go_num, hx.setCell (by simp) _, _, hF1.set _ _, fun j d' hj hd' => ?_⟩
          by_cases hjk : j = k
          · subst hjk
            rw [HD.out] at hd'
            cases hd'
            simp
          · simp only [hjk, if_false]
            exact hE1 j d' (by omega) hd'
        case measure => simp [intOf]; omega
      · have hkn : k = n := by omega
        subst hkn
        go_wp2
        go_ret2
        refine ⟨some ⟨w.heap.size, 0, none⟩, k, rfl, Elems.of_rowIs local_int (by rw [Nat.mul_one]; exact HF.out.1) (Nat.le_refl _) h.len hb (fun j d hj => ?_), by simp, hx⟩
        have hjl := (List.getElem?_eq_some_iff.1 hj).1
        rw [h.len] at hjl
        have := HF.out.2 j d hjl hj
        simpa [IntC] using this

set_option maxHeartbeats 400000 in
theorem keysForTags_any {lo lo1 lo2 : Nat} (B : Nat) (v0 v1 v2 : Value) (a1 a2 : Option Addr) (n1 c1 n2 c2 : Nat) (ks : List KeyD) (impl inst : List Int) (w : World)
    (hB : w.rowIs B 42 3 (fun j => if j = 0 then v0 else if j = 1 then v1 else v2)) (h : Owned AKeyC 68 3 lo w v0 ks) (h1 : Bs lo1 w a1 n1 c1 impl) (h2 : Bs lo2 w a2 n2 c2 inst) (hn : ks.length ≤ 2097152) :
    Calls Try.prog 11 #[.pointer (some ⟨B, 0, none⟩), .slice a1 n1 c1, .slice a2 n2 c2] w fun e w' =>
      ∃ a' c', e = .returned (.tuple #[.slice a' (tagsOf ks impl inst).length c', .bool true]) ∧ Elems IntC 1 w.heap.size w' a' (tagsOf ks impl inst).length c' (tagsOf ks impl inst) ∧ (a' = none ↔ tagsOf ks impl inst = []) ∧ Ext w w' := by
  obtain ⟨a, c, rfl, _, hE⟩ := h.elems
  have hk := keysFor_any B a a1 a2 ks.length c n1 c1 n2 c2 v1 v2 ks impl inst w hB hE h1 h2 hn
  have hlt : (tagsOf ks impl inst).length ≤ 5864062014634 := by
    have := tagsOf_le ks impl inst ks.length
    rw [List.take_length] at this
    omega
  have HT : Hid (∀ (w' : World) (v : Value), w'.ownsRow w.heap.size 66 1 v (tagsOf ks impl inst).length ((tagsOf ks impl inst).map fun t => Value.iface 3 (.int .i64 t)) → (tagsOf ks impl inst = [] → v = .slice none 0 0) →
      ∃ a' c', v = .slice a' (tagsOf ks impl inst).length c' ∧ Elems TagC 1 w.heap.size w' a' (tagsOf ks impl inst).length c' (tagsOf ks impl inst) ∧ (a' = none ↔ tagsOf ks impl inst = [])) := by
    intro w' v ho hn0
    obtain ⟨a', c', e1, e2, e3⟩ := (owned_map (E := TagC) (fun t => Value.iface 3 (.int .i64 t)) hlt (fun g d hg => hg) ho).elems
    refine ⟨a', c', e1, e3, fun ha => ?_, fun ht => e2.2 (hn0 ht)⟩
    exact List.eq_nil_of_length_eq_zero (e3.nil ha).1
  clear hE hB h1 h2 h hlt hn
  generalize tagsOf ks impl inst = ts at *
  go_enter Try.func11, Try.ntmps11
  go_wp2_with (first
    | (go_at_call 28; refine hk.mono ?_; rintro e w1 ⟨v, rfl, ho, hn0, hx1⟩; obtain ⟨a', c', rfl, hE1, hiff⟩ := HT.out w1 v ho hn0; clear ho hn0)
    | (go_at_call 27; refine (zzTags_any _ _ _ _ _ hE1).mono ?_; rintro e w2 ⟨a3, c3, rfl, hE2, hiff2, hx2⟩))
  go_ret2
  refine ⟨a3, c3, rfl, hE2.lower grows_int hx1.le, ?_, hx1.trans hx2⟩
  rw [hiff2, hiff]
theorem Try.info58' : (Try.prog.info? 58).map (fun i => (i.zero, i.size, i.bytes)) = some (some (.agg #[.slice none 0 0, .pointer none, .pointer none, .slice none 0 0, .slice none 0 0]), 5, 88) := by kernel_rfl

/-- What has been gathered so far; each element reads in the world in which the call began. -/
def Gathered (lo : Nat) (w0 w : World) (v : Value) (ds : List RvD) : Prop :=
  ∃ xs, w.ownsRow w0.heap.size 58 5 v ds.length xs ∧ (∀ k d, ds[k]? = some d → RvC lo w0 (cellsAt xs (k * 5)) d) ∧ (ds = [] → v = .slice none 0 0)

theorem Gathered.ext {lo : Nat} {w0 w w' : World} {v : Value} {ds : List RvD} (h : Gathered lo w0 w v ds) (e : Ext w w') : Gathered lo w0 w' v ds := by
  obtain ⟨xs, h1, h2, h3⟩ := h
  exact ⟨xs, ownsRow_keep h1 (e.keeps _), h2, h3⟩

theorem Gathered.owned {lo : Nat} {w0 w : World} {v : Value} {ds : List RvD} (h : Gathered lo w0 w v ds) (hx : Ext w0 w) (hl : lo ≤ w0.heap.size) (hb : ds.length ≤ 5864062014634) : Owned RvC 58 5 lo w v ds := by
  obtain ⟨xs, h1, h2, h3⟩ := h
  exact ⟨hb, xs, ownsRow_lower h1 hl, fun k d hk => grows_rv.keep _ _ _ _ _ (h2 k d hk) (hx.keeps _)⟩

theorem gathered_snoc {lo : Nat} {w0 w : World} {v : Value} {ds : List RvD} {d : RvD} {xs : List Value} {f : Nat → Value} (hx : xs.length = ds.length * 5) (h1 : ∀ k d, ds[k]? = some d → RvC lo w0 (cellsAt xs (k * 5)) d) (hE : RvC lo w0 f d)
    (ho : w.ownsRow w0.heap.size 58 5 v (ds.length + 1) (xs ++ [f 0, f 1, f 2, f 3, f 4])) : Gathered lo w0 w v (ds ++ [d]) := by
  refine ⟨xs ++ [f 0, f 1, f 2, f 3, f 4], by simpa using ho, elems_append local_rv hx h1 (fun k d' hk => ?_), fun h => by simp at h⟩
  have hk0 : k = 0 := by
    have := (List.getElem?_eq_some_iff.1 hk).1
    simp at this; exact this
  subst hk0
  simp at hk
  subst hk
  refine local_rv _ _ _ _ _ (fun j hj => ?_) hE
  have h5 : j = 0 ∨ j = 1 ∨ j = 2 ∨ j = 3 ∨ j = 4 := by omega
  rcases h5 with rfl | rfl | rfl | rfl | rfl <;> simp [cellsAt]

set_option maxRecDepth 100000 in
set_option maxHeartbeats 1000000 in
theorem rvsFor_walk {lo lo1 : Nat} (B : Nat) (a a1 : Option Addr) (n c n1 c1 : Nat) (v0 v2 : Value) (rs : List RvD) (impl : List Int) (w : World)
    (hB : w.rowIs B 42 3 (fun j => if j = 0 then v0 else if j = 1 then .slice a n c else v2)) (h : Elems RvC 5 lo w a n c rs) (h1 : Bs lo1 w a1 n1 c1 impl) (hn : n ≤ 2097152) :
    Calls Try.prog 12 #[.pointer (some ⟨B, 0, none⟩), .slice a1 n1 c1] w fun e w' =>
      ∃ v, e = .returned v ∧ Gathered lo w w' v (rvsOf rs impl) ∧ Ext w w' := by
  obtain ⟨i0, hi, hz0, hz1, hz2⟩ := info_parts Try.info58'
  have q0 := hB.cell (i := 1) (by omega)
  simp only [if_true, show ¬ (1 : Nat) = 0 by omega, if_false] at q0
  have hlen := h.len
  have HL : Hid (rs.length = n) := hlen
  clear hlen hB
  go_enter Try.func12, Try.ntmps12
  go_wp2
  go_loopw [5, 13] (fun v i wr => ∃ k : Nat, k ≤ n ∧ i = .int .i64 k ∧ Gathered lo w wr v (rvsOf (rs.take k) impl) ∧ Ext w wr) (fun _ i _ => n - (intOf i).toNat)
  case atStart => exact ⟨0, Nat.zero_le _, rfl, ⟨[], World.ownsRow_nil _ _ _ _, fun k d hk => by simp [rvsOf] at hk, fun _ => rfl⟩, Ext.refl _⟩
  case round =>
    obtain ⟨k, hk, rfl, hown, hx⟩ := hrel
    have HO : Hid (Gathered lo w wr u5 (rvsOf (rs.take k) impl)) := hown
    clear hown
    by_cases hlt : k < n
    · obtain ⟨b, off, f, d, rfl, hbl, hd, hE, hc⟩ := h.elem k hlt
      have g0 := (hx.cell (by exact hbl.2)).trans (hc 0 (by omega))
      have g1 := (hx.cell (by exact hbl.2)).trans (hc 1 (by omega))
      have g2 := (hx.cell (by exact hbl.2)).trans (hc 2 (by omega))
      have g3 := (hx.cell (by exact hbl.2)).trans (hc 3 (by omega))
      have g4 := (hx.cell (by exact hbl.2)).trans (hc 4 (by omega))
      have HE : Hid (RvC lo w f d) := hE
      obtain ⟨⟨a3, n3, c3, e0, s0⟩, ⟨⟨p, e1, s1⟩, ⟨q, e2, s2⟩, ⟨a4, n4, c4, e3, s3⟩⟩, ⟨a5, n5, c5, e4, s4⟩⟩ := hE
      rw [e0] at g0
      rw [e1] at g1
      rw [e2] at g2
      rw [e3] at g3
      rw [e4] at g4
      have HV : Hid (f 0 = .slice a3 n3 c3 ∧ f 1 = .pointer p ∧ f 2 = .pointer q ∧ f 3 = .slice a4 n4 c4 ∧ f 4 = .slice a5 n5 c5) := ⟨e0, e1, e2, e3, e4⟩
      simp only [Nat.add_zero] at g0
      have HT : Hid (rvsOf (rs.take (k + 1)) impl = rvsOf (rs.take k) impl ++ (if (d.impl == impl) = true then [d] else [])) := rvsOf_snoc rs impl k d hd
      have hle := rvsOf_le rs impl k
      have k1 := h1.ext hx
      have hsz := hx.le
      clear hc e0 e1 e2 e3 e4 hd h h1 s1 s2 s3 s4
      by_cases hm1 : (d.impl == impl) = true
      · obtain ⟨xs, hown, hEl, hnil⟩ := HO.out
        have HO1 : Hid (wr.ownsRow w.heap.size 58 5 u5 (rvsOf (rs.take k) impl).length xs) := hown
        have HEl : Hid (∀ k_1 d, (rvsOf (rs.take k) impl)[k_1]? = some d → RvC lo w (cellsAt xs (k_1 * 5)) d) := hEl
        clear hown hEl hnil HO
        go_wp2_with (first
          | (go_at_call 29; refine (bytesEqual_any _ _ _ _ _ _ _ _ _ (s0.ext (hx.alloc _)) (k1.ext ((Ext.refl _).alloc _))).mono ?_; rintro e w' ⟨rfl, hw⟩; rw [hw, hm1]; clear hw w')
          | (at_builtin; refine wpList_append_own _ rfl _ _ 35 rfl w.heap.size 58 i0 (.agg #[.slice none 0 0, .pointer none, .pointer none, .slice none 0 0, .slice none 0 0]) 5 88 Try.underlying35 hi hz0 hz1 hz2 rfl (by decide) _ _ _ rfl ((HO1.out.alloc _).alloc _) ⟨wr.heap.size + 1, 0, none⟩ 1 1 [.slice a3 n3 c3, .pointer p, .pointer q, .slice a4 n4 c4, .slice a5 n5 c5] rfl rfl ?c1 ?c2 ?c3 ?c4 ?c5 ?_))
        case c1 =>
          intro j u hj
          match j, hj with
          | 0, hj => simp at hj; subst hj; simp [Addr.add]
          | 1, hj => simp at hj; subst hj; simp [Addr.add]
          | 2, hj => simp at hj; subst hj; simp [Addr.add]
          | 3, hj => simp at hj; subst hj; simp [Addr.add]
          | 4, hj => simp at hj; subst hj; simp [Addr.add]
        case c2 => intro u hu; simp at hu; rcases hu with rfl | rfl | rfl | rfl | rfl <;> rfl
        case c3 => unfold maxLen; omega
        case c4 => omega
        case c5 => simp; omega
        · intro v' w1 hown' hgrow hne
          have HO2 : Hid (w1.ownsRow w.heap.size 58 5 v' ((rvsOf (List.take k rs) impl).length + 1) (xs ++ [.slice a3 n3 c3, .pointer p, .pointer q, .slice a4 n4 c4, .slice a5 n5 c5])) := hown'
          have hx1 : Ext w w1 := Below.grown ((hx.alloc _).alloc _) hgrow (by simp; omega) (fun r hr => (HO1.out.lt r hr).1)
          have HX : Hid (xs.length = (rvsOf (List.take k rs) impl).length * 5) := HO1.out.1
          clear hown' hgrow hne g0 g1 g2 g3 g4 s0 k1
          go_wp2
          go_roundw
          case rel =>
            have hT := HT.out
            rw [hm1] at hT
            simp only [if_true] at hT
            refine ⟨k + 1, by omega, by go_num, ?_, hx1⟩
            rw [hT]
            obtain ⟨e0, e1, e2, e3, e4⟩ := HV.out
            refine gathered_snoc HX.out HEl.out HE.out ?_
            rw [e0, e1, e2, e3, e4]
            exact HO2.out
          case measure => simp [intOf]; omega
      · have hm1' : (d.impl == impl) = false := by simpa using hm1
        clear hm1
        go_wp2_with (go_at_call 29; refine (bytesEqual_any _ _ _ _ _ _ _ _ _ (s0.ext (hx.alloc _)) (k1.ext ((Ext.refl _).alloc _))).mono ?_; rintro e w' ⟨rfl, hw⟩; rw [hw, hm1']; clear hw w')
        go_roundw
        case rel =>
          have hT := HT.out
          rw [hm1'] at hT
          simp only [Bool.false_eq_true, if_false, List.append_nil] at hT
          refine ⟨k + 1, by omega, by go_num, ?_, hx.alloc _⟩
          rw [hT]
          exact HO.out.ext ((Ext.refl _).alloc _)
        case measure => simp [intOf]; omega
    · go_wp2
      go_ret
      have hkn : k = n := by omega
      subst hkn
      have e : rs.take k = rs := List.take_of_length_le (by rw [HL.out]; exact Nat.le_refl _)
      have := HO.out
      rw [e] at this
      exact ⟨_, rfl, this, hx⟩
set_option maxHeartbeats 400000 in
theorem knowsOne_any {lo lo1 : Nat} (C : Nat) (a a1 a2 : Option Addr) (n c n1 c1 n2 c2 : Nat) (x : Value) (bs impl : List Int) (w : World)
    (h : Bs lo w a n c bs) (h1 : Bs lo1 w a1 n1 c1 impl) (hC : w.cell? ⟨C, 0, none⟩ = some (.slice a1 n1 c1)) (hlt : C < w.heap.size) :
    Calls Try.prog 31 #[.agg #[.slice a n c, .slice a2 n2 c2, x], .pointer (some ⟨C, 0, none⟩)] w fun e w' => e = .returned (.bool (bs == impl)) ∧ Ext w w' := by
  have hC' : ∀ o, (w.alloc o).cell? ⟨C, 0, none⟩ = some (.slice a1 n1 c1) := fun o => (((Ext.refl w).alloc o).cell (p := ⟨C, 0, none⟩) hlt).trans hC
  go_enter Try.func31, Try.ntmps31
  go_wp2_with (go_at_call 29; refine (bytesEqual_any _ _ _ _ _ _ _ _ _ (h.ext ((Ext.refl _).alloc _)) (h1.ext ((Ext.refl _).alloc _))).mono ?_; rintro e w' ⟨rfl, hw⟩; rw [hw]; clear hw w')
  go_ret
  exact ⟨rfl, (Ext.refl _).alloc _⟩

set_option maxRecDepth 100000 in
set_option maxHeartbeats 1000000 in
theorem indexFunc_any {lo lo1 : Nat} (C : Nat) (a a1 : Option Addr) (n c n1 c1 : Nat) (ks : List KeyD) (impl : List Int) (w : World)
    (h : Elems AKeyC 3 lo w a n c ks) (h1 : Bs lo1 w a1 n1 c1 impl) (hC : w.cell? ⟨C, 0, none⟩ = some (.slice a1 n1 c1)) (hlt : C < w.heap.size) :
    Calls Try.prog 37 #[.slice a n c, .func (.func 31) #[] #[.pointer (some ⟨C, 0, none⟩)]] w fun e w' => (∃ r : Int, e = .returned (.int .i64 r) ∧ decide (0 ≤ r) = ks.any (fun k => k.impl == impl)) ∧ Ext w w' := by
  have hb := h.bound
  have hlen := h.len
  have HL : Hid (ks.length = n) := hlen
  clear hlen
  go_enter Try.func37, Try.ntmps37
  go_wp2
  go_loopw [5, 8] (fun _ i wr => ∃ k : Nat, k ≤ n ∧ i = .int .i64 k ∧ Hid ((ks.take k).any (fun k => k.impl == impl) = false) ∧ Ext w wr) (fun _ i _ => n - (intOf i).toNat)
  case atStart => exact ⟨0, Nat.zero_le _, rfl, rfl, Ext.refl _⟩
  case round =>
    obtain ⟨k, hk, rfl, HA, hx⟩ := hrel
    by_cases hlt2 : k < n
    · obtain ⟨b, off, f, d, rfl, hbl, hd, hE, hc⟩ := (h.ext grows_akey hx).elem k hlt2
      have g0 := hc 0 (by omega)
      have g1 := hc 1 (by omega)
      have g2 := hc 2 (by omega)
      obtain ⟨⟨a3, n3, c3, e0, s0⟩, ⟨a4, n4, c4, e1, s1⟩, e2⟩ := hE
      rw [e0] at g0
      rw [e1] at g1
      rw [e2] at g2
      simp only [Nat.add_zero] at g0
      have HD : Hid (ks[k]? = some d) := hd
      have k1 := h1.ext hx
      have hC1 := (hx.cell (p := ⟨C, 0, none⟩) hlt).trans hC
      have hlt1 := Nat.lt_of_lt_of_le hlt hx.le
      have hcall := knowsOne_any C a3 a1 a4 n3 c3 n1 c1 n4 c4 (.iface 3 (.int .i64 d.tag)) d.impl impl wr s0 k1 hC1 hlt1
      clear hc e0 e1 e2 hd h h1 hC
      go_wp2_with (go_at_call 31; refine hcall.mono ?_; rintro e w1 ⟨rfl, hx1⟩)
      · have hm : (d.impl == impl) = true := by assumption
        go_ret
        refine ⟨⟨k, rfl, ?_⟩, hx.trans hx1⟩
        have hmem := List.mem_of_getElem? HD.out
        rw [List.any_eq_true.2 ⟨d, hmem, hm⟩]
        simp
      · have hm : (d.impl == impl) = false := by assumption
        go_roundw
        case rel =>
          refine ⟨k + 1, by omega, by go_num, ?_, hx.trans hx1⟩
          obtain ⟨hkk, hdd⟩ := List.getElem?_eq_some_iff.1 HD.out
          show (ks.take (k + 1)).any (fun k => k.impl == impl) = false
          rw [List.take_succ_eq_append_getElem hkk, List.any_append, HA.out, hdd]
          simp [hm]
        case measure => simp [intOf]; omega
    · go_wp2
      go_ret
      have hkn : k = n := by omega
      subst hkn
      have e : ks.take k = ks := List.take_of_length_le (by rw [HL.out]; exact Nat.le_refl _)
      have := HA.out
      rw [e] at this
      exact ⟨⟨-1, rfl, by rw [this]; rfl⟩, hx⟩
set_option maxHeartbeats 400000 in
theorem containsFunc_any {lo lo1 : Nat} (C : Nat) (a a1 : Option Addr) (n c n1 c1 : Nat) (ks : List KeyD) (impl : List Int) (w : World)
    (h : Elems AKeyC 3 lo w a n c ks) (h1 : Bs lo1 w a1 n1 c1 impl) (hC : w.cell? ⟨C, 0, none⟩ = some (.slice a1 n1 c1)) (hlt : C < w.heap.size) :
    Calls Try.prog 30 #[.slice a n c, .func (.func 31) #[] #[.pointer (some ⟨C, 0, none⟩)]] w fun e w' => e = .returned (.bool (ks.any (fun k => k.impl == impl))) ∧ Ext w w' := by
  have hcall := indexFunc_any C a a1 n c n1 c1 ks impl w h h1 hC hlt
  clear h h1
  go_enter Try.func30, Try.ntmps30
  go_wp2_with (go_at_call 37; refine hcall.mono ?_; rintro e w1 ⟨⟨r, rfl, hr⟩, hx1⟩; have HR : Hid (decide (0 ≤ r) = ks.any fun k => k.impl == impl) := hr; clear hr)
  go_ret
  exact ⟨congrArg (fun x => Ending.returned (Value.bool x)) HR.out, hx1⟩
theorem rvsFor_any {lo lo1 : Nat} (B : Nat) (v0 v1 v2 : Value) (a1 : Option Addr) (n1 c1 : Nat) (rs : List RvD) (impl : List Int) (w : World)
    (hB : w.rowIs B 42 3 (fun j => if j = 0 then v0 else if j = 1 then v1 else v2)) (h : Owned RvC 58 5 lo w v1 rs) (h1 : Bs lo1 w a1 n1 c1 impl) (hn : rs.length ≤ 2097152) (hlo : lo ≤ w.heap.size) :
    Calls Try.prog 12 #[.pointer (some ⟨B, 0, none⟩), .slice a1 n1 c1] w fun e w' =>
      ∃ a' c', e = .returned (.slice a' (rvsOf rs impl).length c') ∧ Elems RvC 5 lo w' a' (rvsOf rs impl).length c' (rvsOf rs impl) ∧ (a' = none ↔ rvsOf rs impl = []) ∧ Ext w w' := by
  obtain ⟨a, c, rfl, _, hE⟩ := h.elems
  refine (rvsFor_walk B a a1 rs.length c n1 c1 v0 v2 rs impl w hB hE h1 hn).mono ?_
  rintro e w' ⟨v, rfl, hG, hx⟩
  have hlt : (rvsOf rs impl).length ≤ 5864062014634 := by
    have := rvsOf_le rs impl rs.length
    rw [List.take_length] at this
    omega
  obtain ⟨a', c', e1, e2, e3⟩ := (hG.owned hx hlo hlt).elems
  obtain ⟨xs, _, _, hnil⟩ := hG
  refine ⟨a', c', by rw [e1], e3, ⟨fun ha => List.eq_nil_of_length_eq_zero (e3.nil ha).1, fun ht => e2.2 (hnil ht)⟩, hx⟩

/-- Is the implementation known? -/
def knowsB (ks : List KeyD) (rs : List RvD) (impl : List Int) : Bool := ks.any (fun k => k.impl == impl) || rs.any (fun r => r.impl == impl)

theorem rvsOf_pos (rs : List RvD) (impl : List Int) : decide (0 < (rvsOf rs impl).length) = rs.any (fun r => r.impl == impl) := by
  unfold rvsOf
  rw [Bool.eq_iff_iff]
  simp only [decide_eq_true_eq, List.any_eq_true]
  constructor
  · intro h
    have : 0 < (List.filter (fun r => r.impl == impl) rs).length := by omega
    obtain ⟨x, hx⟩ := List.exists_mem_of_length_pos this
    rw [List.mem_filter] at hx
    exact ⟨x, hx⟩
  · rintro ⟨x, h1, h2⟩
    have := List.length_pos_of_mem (List.mem_filter (p := fun r : RvD => r.impl == impl) |>.2 ⟨h1, h2⟩)
    omega

set_option maxRecDepth 100000 in
set_option maxHeartbeats 1000000 in
theorem knows_any {lo lo1 : Nat} (B : Nat) (v0 v1 v2 : Value) (a1 : Option Addr) (n1 c1 : Nat) (ks : List KeyD) (rs : List RvD) (impl : List Int) (w : World)
    (hB : w.rowIs B 42 3 (fun j => if j = 0 then v0 else if j = 1 then v1 else v2)) (h0 : Owned AKeyC 68 3 lo w v0 ks) (h : Owned RvC 58 5 lo w v1 rs) (h1 : Bs lo1 w a1 n1 c1 impl) (hn : rs.length ≤ 2097152) (hlo : lo ≤ w.heap.size) :
    Calls Try.prog 13 #[.pointer (some ⟨B, 0, none⟩), .slice a1 n1 c1] w fun e w' => e = .returned (.bool (knowsB ks rs impl)) ∧ Ext w w' := by
  obtain ⟨a, c, rfl, _, hE⟩ := h0.elems
  have hxb : Ext w (w.alloc (.cells #[.slice a1 n1 c1] 25)) := (Ext.refl _).alloc _
  have hBlt := hB.lt
  have q0 := (rowIs_ext hB hxb).cell (i := 0) (by omega)
  simp only [if_true] at q0
  have hcall := containsFunc_any w.heap.size a a1 ks.length c n1 c1 ks impl _ (hE.ext grows_akey hxb) (h1.ext hxb) (by simp) (by simp)
  have HC2 : Hid (∀ w1, Ext (w.alloc (.cells #[.slice a1 n1 c1] 25)) w1 → w1.cell? ⟨w.heap.size, 0, none⟩ = some (.slice a1 n1 c1) ∧ Calls Try.prog 12 #[.pointer (some ⟨B, 0, none⟩), .slice a1 n1 c1] w1 fun e w' =>
      ∃ a' c', e = .returned (.slice a' (rvsOf rs impl).length c') ∧ Elems RvC 5 lo w' a' (rvsOf rs impl).length c' (rvsOf rs impl) ∧ (a' = none ↔ rvsOf rs impl = []) ∧ Ext w1 w') := by
    intro w1 hx1
    refine ⟨by rw [hx1.cell (by simp)]; simp, rvsFor_any B (.slice a ks.length c) v1 v2 a1 n1 c1 rs impl w1 (rowIs_ext hB (hxb.trans hx1)) (h.keep grows_rv ((hxb.trans hx1).keeps _)) (h1.ext (hxb.trans hx1)) hn (Nat.le_trans hlo (hxb.trans hx1).le)⟩
  have HP : Hid (decide (0 < (rvsOf rs impl).length) = rs.any (fun r => r.impl == impl)) := rvsOf_pos rs impl
  clear hE h h0 h1 hB hxb
  cases hm : ks.any (fun k => k.impl == impl) with
  | true =>
    rw [hm] at hcall
    have HM : Hid (knowsB ks rs impl = true) := by show knowsB ks rs impl = true; simp only [knowsB, hm, Bool.true_or]
    clear hm
    go_enter Try.func13, Try.ntmps13
    go_wp2_with (go_at_call 30; refine hcall.mono ?_; rintro e w1 ⟨rfl, hx1⟩)
    go_ret
    exact ⟨congrArg (fun x => Ending.returned (Value.bool x)) HM.out.symm, ((Ext.refl w).alloc _).trans hx1⟩
  | false =>
    rw [hm] at hcall
    have HM : Hid (knowsB ks rs impl = rs.any (fun r => r.impl == impl)) := by show knowsB ks rs impl = _; simp only [knowsB, hm, Bool.false_or]
    clear hm
    go_enter Try.func13, Try.ntmps13
    go_wp2_with (first
      | (go_at_call 30; refine hcall.mono ?_; rintro e w1 ⟨rfl, hx1⟩; obtain ⟨q1, hcall2⟩ := HC2.out w1 hx1)
      | (go_at_call 12; refine hcall2.mono ?_; rintro e w2 ⟨a', c', rfl, _, _, hx2⟩))
    go_ret
    refine ⟨congrArg (fun x => Ending.returned (Value.bool x)) ?_, (((Ext.refl w).alloc _).trans hx1).trans hx2⟩
    rw [HM.out]
    exact HP.out
end Go.Proofs.Qxb6606015a
