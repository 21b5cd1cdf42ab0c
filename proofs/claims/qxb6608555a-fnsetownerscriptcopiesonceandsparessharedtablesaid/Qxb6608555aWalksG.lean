/-
  The copy of a table.
-/
import Derived.Test.Qxb6608555aWalksF
import Derived.Deep.RegionLaw
namespace Go.Proofs.Qxb6608555a
open Go.RowKit
set_option maxRecDepth 100000

/-- What an append to a table's IDs makes. -/
theorem TabO.grow {w : World} {lo b : Nat} {os : Nat → Nat} {ss : List ByteArray} (h : TabO w lo b os ss) (hlo : lo ≤ w.heap.size) (hn : ss.length ≤ 60000) (x : ByteArray) :
    ∃ g cap g' cap' w2, w.cell? ⟨b, 16384, none⟩ = some (.slice (some ⟨g, 0, none⟩) ss.length cap) ∧
      (Builtin.append_ #[23, 23] 23 #[.slice (some ⟨g, 0, none⟩) ss.length cap, .slice (some ⟨w.heap.size, 0, none⟩) 1 1]).run Try.prog (w.alloc (.cells #[.string x] 9)) = .ok (.slice (some ⟨g', 0, none⟩) (ss.length + 1) cap') w2 ∧
      (∃ u, w2.cell? ⟨b, 16384, none⟩ = some u) ∧ w2.frozen? ⟨b, 16384, none⟩ = false ∧
      TabO (w2.setCell ⟨b, 16384, none⟩ (.slice (some ⟨g', 0, none⟩) (ss.length + 1) cap')) lo b os (ss ++ [x]) ∧ Below lo w w2 ∧
      ∀ k t m f, t ≠ 9 → w.rowIs k t m f → w2.rowIs k t m f := by
  obtain ⟨F, v, hF, hFs, hFv, hown⟩ := h.row
  obtain ⟨g, cap, rfl, hg, hgl, hss, cur, hcur⟩ := own_ss hown h.pos
  have c1 := hF.cell (i := 16384) (by omega)
  rw [hFv] at c1
  have hne : b ≠ g := row_ne hF hcur
  have hbl := hF.lt
  have hlow := h.low
  obtain ⟨i, hi, hiz, his, hib⟩ := Try.info9'
  obtain ⟨v', w2, hr, hown2, hgrow, -⟩ := run_append_own (P := Try.prog) (w.alloc (.cells #[.string x] 9)) lo 23 23 9 i (.string ByteArray.empty) 1 16 Try.underlying23 hi hiz his hib rfl (by omega)
    (.slice (some ⟨g, 0, none⟩) ss.length cap) ss.length (ss.map Value.string) (hown.alloc _) ⟨w.heap.size, 0, none⟩ 1 1 [.string x] rfl (fun j u hj => by
      obtain ⟨hj1, rfl⟩ := List.getElem?_eq_some_iff.1 hj
      simp at hj1
      subst hj1
      simp [Addr.add]) (fun u hu => by simp at hu; subst hu; rfl) (by simp [maxLen]; omega) (by omega) (by simp; omega)
  have hkeep : ∀ k t m f, t ≠ 9 → w.rowIs k t m f → w2.rowIs k t m f := fun k t m f ht hk => by
    refine (hk.alloc _).of_block (hgrow.block k ?_ ?_)
    · have := hk.lt
      simp
      omega
    · intro e
      simp [Value.ownBlock] at e
      subst e
      obtain ⟨c, h1, _⟩ := hk
      rw [hcur] at h1
      simp at h1
      exact ht h1.2.symm
  have hF2 : w2.rowIs b 57 16386 F := hkeep _ _ _ _ (by decide) hF
  have hlen2 : (ss ++ [x]).length = ss.length + 1 := by simp
  have hown3 : w2.ownsRow lo 9 1 v' (ss ++ [x]).length ((ss ++ [x]).map Value.string) := by rw [hlen2]; simpa using hown2
  obtain ⟨g', cap', rfl, hg', hgl', -, cur', hcur'⟩ := own_ss hown3 (by simp)
  rw [hlen2] at hr hown3
  have hne' : b ≠ g' := row_ne hF2 hcur'
  refine ⟨g, cap, g', cap', w2, c1, hr, ⟨_, hF2.cell (i := 16384) (by omega)⟩, hF2.frozen 16384, ?_, ?_, hkeep⟩
  · refine ⟨hlow, ⟨_, _, hF2.set 16384 (.slice (some ⟨g', 0, none⟩) (ss.length + 1) cap'), fun s hs => ?_, rfl, ?_⟩, by simp, ?_, fun s hs => ?_⟩
    · rw [if_neg (by omega)]
      exact hFs s hs
    · rw [if_pos rfl, hlen2]
      exact own_set hown3 b (by intro e; cases e; exact hne' rfl) 16384 _
    · have h1 := h.first
      have h2 := h.pos
      rw [← h1]
      simp [h2]
    · have := h.fits s hs
      simp
      omega
  · have h1 : Ext w (w.alloc (.cells #[.string x] 9)) := (Ext.refl _).alloc _
    refine ⟨hgrow.os.trans h1.os, hgrow.tape.trans h1.tape, hgrow.output.trans h1.output, Nat.le_trans h1.size hgrow.size, fun k hk => ?_⟩
    rw [hgrow.block k (by simp; omega) (by simp [Value.ownBlock]; omega)]
    exact h1.block k (by omega)

theorem step_append_run {P : Program} {w : World} {ops : Array Oper} {o : Oper} {a : Act} {K : Act → World → Prop} {Q : Exit → Act → World → Prop} {E' : Prop} (hgd : o.guard = none) (s x : Operand) (t : TypeId)
    (ho : o.op = .call { callee := .builtin .append, args := #[s, x], argTypes := #[t, t] }) (vs vx : Value) (hs : a.eval s = vs) (hx : a.eval x = vx) (v' : Value) (w' : World)
    (hr : (Builtin.append_ #[t, t] o.type #[vs, vx]).run P w = .ok v' w') (h : K (a.put o.dst v') w') :
    if Region.wanted o (yielded ops a.tmps) = true then Oper.wp P o a w K Q else E' := by
  have hw : Region.wanted o (yielded ops a.tmps) = true := by simp [Region.wanted, hgd]
  rw [if_pos hw]
  unfold Oper.wp execOp
  simp only [ho, resolve, invoke, builtin, Sem.run_bind, Sem.run_pure, Result.andThen_ok, List.map_toArray, List.map_cons, List.map_nil, hs, hx, hr]
  exact h

theorem own_ext {w w' : World} {lo e size n : Nat} {v : Value} {xs : List Value} (h : w.ownsRow lo e size v n xs) (x : Ext w w') : w'.ownsRow lo e size v n xs :=
  h.kept (row := none) ⟨x.os, x.tape, x.output, x.size, fun k hk _ => x.block k hk⟩ (by cases v.ownBlock <;> simp)
theorem TabO.ext {w w' : World} {lo b : Nat} {os : Nat → Nat} {ss : List ByteArray} (h : TabO w lo b os ss) (x : Ext w w') : TabO w' lo b os ss := by
  obtain ⟨F, v, hF, hFs, hFv, hown⟩ := h.row
  exact ⟨h.low, ⟨F, v, rowIs_ext hF x, hFs, hFv, own_ext hown x⟩, h.pos, h.first, h.fits⟩
theorem TabO.drew {w : World} {lo b : Nat} {os : Nat → Nat} {ss : List ByteArray} (h : TabO w lo b os ss) : TabO w.drew lo b os ss := ⟨h.low, h.row, h.pos, h.first, h.fits⟩
theorem Try.info28 : (Try.prog.info? 28).map (fun i => (i.zero, i.size, i.bytes)) = some (some (.int .u16 0), 1, 2) := by kernel_rfl

theorem TabO.lt {w : World} {lo b : Nat} {os : Nat → Nat} {ss : List ByteArray} (h : TabO w lo b os ss) : b < w.heap.size := by
  obtain ⟨F, v, hF, _⟩ := h.row
  exact hF.lt

/-- What the copy holds when the slots below k are done. -/
structure CopyAt (w wr : World) (cb pb n k : Nat) (os : Nat → Nat) (ss : List ByteArray) (os' : Nat → Nat) (cs : List ByteArray) (pl : Nat → Nat) : Prop where
  tab : TabO wr w.heap.size cb os' cs
  places : ∃ G, wr.rowIs pb 28 n G ∧ ∀ p, p < n → G p = .int .u16 (pl p : Nat)
  done : ∀ s, s < k → cs.getD (os' s) ByteArray.empty = ss.getD (os s) ByteArray.empty
  rest : ∀ s, k ≤ s → s < 16384 → os' s = 0
  named : ∀ p, p < n → pl p = 0 ∨ (pl p < cs.length ∧ cs.getD (pl p) ByteArray.empty = ss.getD p ByteArray.empty)
  ext : Ext w wr

theorem index29 (xs : List Value) (k : Nat) (p : Nat) (w : World) (hk : k < 16384) (h : xs[k]? = some (.int .u16 (p : Nat))) : (Instr.index 29 (.agg xs.toArray) (.int .i64 k)).run Try.prog w = .ok (.int .u16 (p : Nat)) w := by
  have hs : (sizeOf 28).run Try.prog w = .ok 1 w := by
    have h1 := Try.info28
    cases hq : Try.prog.info? 28 with
    | none => simp [hq] at h1
    | some i =>
      rw [hq] at h1
      simp only [Option.map_some, Option.some.injEq, Prod.mk.injEq] at h1
      simp [sizeOf, typeInfo, hq, h1.2.1]
  simp only [Instr.index, asIntOf, Sem.run_bind, Sem.run_pure, Result.andThen_ok, run_underlying Try.underlying29]
  rw [if_pos ⟨by omega, by omega⟩]
  simp [hs, part, h]

theorem CopyAt.skip {w wr : World} {cb pb n k : Nat} {os : Nat → Nat} {ss : List ByteArray} {os' : Nat → Nat} {cs : List ByteArray} {pl : Nat → Nat} (h : CopyAt w wr cb pb n k os ss os' cs pl) (hk : k < 16384) (h0 : ss.getD 0 ByteArray.empty = ByteArray.empty) (ho : os k = 0) :
    CopyAt w wr cb pb n (k + 1) os ss os' cs pl := by
  refine ⟨h.tab, h.places, fun s hs => ?_, fun s h1 h2 => h.rest s (by omega) h2, h.named, h.ext⟩
  by_cases hsk : s < k
  · exact h.done s hsk
  · have : s = k := by omega
    subst this
    rw [h.rest s (Nat.le_refl _) hk, ho, h0, h.tab.first]

/-- The slot is laid: the place was there. -/
theorem CopyAt.put {w wr : World} {cb pb n k : Nat} {os : Nat → Nat} {ss : List ByteArray} {os' : Nat → Nat} {cs : List ByteArray} {pl : Nat → Nat} (h : CopyAt w wr cb pb n k os ss os' cs pl) (hk : k < 16384) (hlo : w.heap.size ≤ cb) (hne : pb ≠ cb) (q : Nat) (hq : q < cs.length) (hqs : cs.getD q ByteArray.empty = ss.getD (os k) ByteArray.empty) :
    CopyAt w (wr.setCell ⟨cb, k, none⟩ (.int .u16 (q : Nat))) cb pb n (k + 1) os ss (fun s => if s = k then q else os' s) cs pl := by
  obtain ⟨G, hG, hGp⟩ := h.places
  refine ⟨h.tab.put hk hq, ⟨G, hG.setOther hne _, hGp⟩, fun s hs => ?_, fun s h1 h2 => ?_, h.named, h.ext.setCell hlo _⟩
  · by_cases hsk : s = k
    · subst hsk
      simp only [if_true]
      exact hqs
    · simp only [if_neg hsk]
      exact h.done s (by omega)
  · simp only [if_neg (show ¬ s = k by omega)]
    exact h.rest s (by omega) h2

theorem TabO.other {w : World} {lo b : Nat} {os : Nat → Nat} {ss : List ByteArray} (h : TabO w lo b os ss) {pb t m : Nat} {G : Nat → Value} (hG : w.rowIs pb t m G) (ht : t ≠ 9) (hne : b ≠ pb) (o : Nat) (u : Value) : TabO (w.setCell ⟨pb, o, none⟩ u) lo b os ss := by
  obtain ⟨F, v, hF, hFs, hFv, hown⟩ := h.row
  obtain ⟨g, cap, rfl, hg, hgl, hss, cur, hcur⟩ := own_ss hown h.pos
  have hgp : g ≠ pb := by
    rintro rfl
    obtain ⟨c, h1, _⟩ := hG
    rw [hcur] at h1
    simp at h1
    exact ht h1.2.symm
  exact ⟨h.low, ⟨F, _, hF.setOther hne _, hFs, hFv, own_set hown pb (by intro e; cases e; exact hgp rfl) o u⟩, h.pos, h.first, h.fits⟩

/-- A place is named: its ID is laid at the list's end. -/
theorem CopyAt.add {w wr W3 : World} {cb pb n k p : Nat} {os : Nat → Nat} {ss : List ByteArray} {os' : Nat → Nat} {cs : List ByteArray} {pl : Nat → Nat} {x : ByteArray} (h : CopyAt w wr cb pb n k os ss os' cs pl) (hk : k ≤ 16384) (ht : TabO W3 w.heap.size cb os' (cs ++ [x])) (hb : Below w.heap.size wr W3)
    (hpl : ∃ G, W3.rowIs pb 28 n G ∧ ∀ p, p < n → G p = .int .u16 (pl p : Nat)) (hp : p < n) (hx : ss.getD p ByteArray.empty = x) (hne : cb ≠ pb) (hlo : w.heap.size ≤ pb) :
    CopyAt w (W3.setCell ⟨pb, p, none⟩ (.int .u16 (cs.length : Nat))) cb pb n k os ss os' (cs ++ [x]) (fun j => if j = p then cs.length else pl j) := by
  obtain ⟨G, hG, hGp⟩ := hpl
  refine ⟨ht.other hG (by decide) hne _ _, ⟨_, hG.set p _, fun j hj => ?_⟩, fun s hs => ?_, h.rest, fun j hj => ?_, (Below.trans h.ext hb).setCell hlo _⟩
  · by_cases hjp : j = p
    · simp only [hjp, if_true]
    · simp only [if_neg hjp]
      exact hGp j hj
  · rw [← h.done s hs, List.getD_eq_getElem?_getD, List.getD_eq_getElem?_getD, List.getElem?_append_left (h.tab.fits s (by omega))]
  · by_cases hjp : j = p
    · subst hjp
      simp only [if_true]
      refine .inr ⟨by simp, ?_⟩
      rw [hx]
      simp
    · simp only [if_neg hjp]
      rcases h.named j hj with h1 | ⟨h1, h2⟩
      · exact .inl h1
      · refine .inr ⟨by simp; omega, ?_⟩
        rw [← h2, List.getD_eq_getElem?_getD, List.getD_eq_getElem?_getD, List.getElem?_append_left h1]

theorem CopyAt.drew {w wr : World} {cb pb n k : Nat} {os : Nat → Nat} {ss : List ByteArray} {os' : Nat → Nat} {cs : List ByteArray} {pl : Nat → Nat} (h : CopyAt w wr cb pb n k os ss os' cs pl) : CopyAt w wr.drew cb pb n k os ss os' cs pl :=
  ⟨h.tab.drew, h.places, h.done, h.rest, h.named, h.ext.drew⟩

set_option maxHeartbeats 4000000 in
theorem copy_any {B : Nat} (tb : Nat) (os : Nat → Nat) (a : Option Addr) (n c : Nat) (ss : List ByteArray) (w : World) (ht : Tb w tb os a n c) (h : Ss B w a n c ss) (hB : B ≤ w.heap.size) (hn : n ≤ 65536)
    (h0 : ss.getD 0 ByteArray.empty = ByteArray.empty) (hos : ∀ s, s < 16384 → os s < n) (hob : ∀ s, s < 16384 → os s ≤ 65535) :
    Calls Try.prog 26 #[.pointer (some ⟨tb, 0, none⟩)] w fun e w' => ∃ cb os' cs, e = .returned (.pointer (some ⟨cb, 0, none⟩)) ∧ TabO w' w.heap.size cb os' cs ∧ (∀ s, s < 16384 → cs.getD (os' s) ByteArray.empty = ss.getD (os s) ByteArray.empty) ∧ cs.length ≤ 16385 ∧ Ext w w' := by
  obtain ⟨F, hF, hFs, hFv⟩ := ht
  obtain ⟨xs, hxs⟩ : ∃ xs, xs = (List.range 16384).map (fun s => Value.int .u16 (os s : Nat)) := ⟨_, rfl⟩
  have hlen : xs.length = 16384 := by rw [hxs, List.length_map, List.length_range]
  have hxv : ∀ s, s < 16384 → xs[s]? = some (.int .u16 (os s : Nat)) := fun s hs => by rw [hxs, List.getElem?_map, List.getElem?_range hs]; rfl
  have HF : Hid (w.rowIs tb 57 16386 F) := hF
  have HFs : Hid (∀ s, s < 16384 → F s = .int .u16 (os s : Nat)) := hFs
  have HFv : Hid (F 16384 = .slice a n c) := hFv
  have HXV : Hid (∀ s, s < 16384 → xs[s]? = some (.int .u16 (os s : Nat))) := hxv
  have HS : Hid (Ss B w a n c ss) := h
  have hmk := run_make_row' (P := Try.prog) 66 28 (.int .u16 0) 2 Try.underlying66 Try.info28 rfl .i64 .i64 n (by omega) (by omega)
  have hrange : Hid (∀ w', Ext w w' → w'.rangeAt tb 0 xs ∧ w'.cell? ⟨tb, 16384, none⟩ = some (.slice a n c)) := by
    intro w' hx
    have hF' := rowIs_ext HF.out hx
    refine ⟨fun j v hv => ?_, by rw [hF'.cell (i := 16384) (by omega), HFv.out]⟩
    have hj : j < 16384 := by rw [← hlen]; exact (List.getElem?_eq_some_iff.1 hv).1
    rw [HXV.out j hj] at hv
    rw [Nat.zero_add, hF'.cell (i := j) (by omega), HFs.out j hj]
    exact hv
  clear hF hFs hFv hxv hxs h
  go_enter Try.func26, Try.ntmps26
  go_wp2_with (first
    | (go_at_call 24; refine (newTable_any _).mono ?_; rintro e w1 ⟨rfl, k1, x1⟩; obtain ⟨hr1, hc1⟩ := hrange.out _ x1; have hr2 := (hrange.out _ (x1.alloc (.cells (madeCells #[.int .u16 0] n) 28))).1)
    | (refine wpList_load_mid rfl 29 _ rfl _ _ rfl _ _ hr2 Try.underlying29 rfl (by rw [Try.sz29, hlen]) ?_))
  have xa : Ext w (w1.alloc (.cells (madeCells #[.int .u16 0] n) 28)) := x1.alloc _
  have hst : Hid (CopyAt w (w1.alloc (.cells (madeCells #[.int .u16 0] n) 28)) (w.heap.size + 1) w1.heap.size n 0 os ss (fun _ => 0) [ByteArray.empty] (fun _ => 0)) :=
    ⟨k1.ext ((Ext.refl _).alloc _), ⟨_, World.rowIs_made w1 _ n 28, fun p hp => rfl⟩, fun s hs => absurd hs (by omega), fun s _ _ => rfl, fun p hp => .inl rfl, xa⟩
  have hpb : w.heap.size + 1 < w1.heap.size := k1.lt
  clear hr1 hr2 hc1 k1 xa
  go_loopw [18] (fun i wr => ∃ k : Nat, k ≤ 16384 ∧ i = .int .i64 k ∧ ∃ os' cs pl, cs.length ≤ k + 1 ∧ CopyAt w wr (w.heap.size + 1) w1.heap.size n k os ss os' cs pl) (fun i _ => 16384 - (intOf i).toNat)
  case atStart => exact ⟨0, by omega, rfl, _, _, _, by simp, hst.out⟩
  case round =>
    clear hst
    obtain ⟨k, hk, rfl, os', cs, pl, hL, hC⟩ := hrel
    have HL : Hid (cs.length ≤ k + 1) := hL
    clear hL
    have HC : Hid (CopyAt w wr (w.heap.size + 1) w1.heap.size n k os ss os' cs pl) := hC
    clear hC
    by_cases hlt : k < 16384
    · have hix0 := HXV.out k hlt
      have hok := hos k hlt
      have hobk := hob k hlt
      obtain ⟨p, hp⟩ : ∃ p, os k = p := ⟨_, rfl⟩
      rw [hp] at hix0 hok hobk
      have hix := index29 xs k p wr hlt hix0
      clear hix0
      have HP : Hid (os k = p) := hp
      clear hp
      by_cases hp0 : p = 0
      · subst hp0
        go_wp2
        go_roundw
        case rel => exact ⟨k + 1, by omega, by go_num, _, _, _, by have := HL.out; omega, HC.out.skip hlt h0 HP.out⟩
        case measure => simp [intOf]; omega
      · obtain ⟨G, hG, hGp⟩ := HC.out.places
        have c3 := hG.cell (i := p) hok
        rw [hGp p hok] at c3
        obtain ⟨q, hq⟩ : ∃ q, pl p = q := ⟨_, rfl⟩
        rw [hq] at c3
        have HQ : Hid (pl p = q) := hq
        clear hG hGp hq
        by_cases hq0 : q = 0
        · subst hq0
          obtain ⟨b, off, ha, hb, hc⟩ := (HS.out.below HC.out.ext hB).cells (by omega)
          subst ha
          have c5 := hc p hok
          obtain ⟨x, hx⟩ : ∃ x, ss.getD p ByteArray.empty = x := ⟨_, rfl⟩
          rw [hx] at c5
          have HX : Hid (ss.getD p ByteArray.empty = x) := hx
          clear hc hx
          have c6 := (hrange.out _ HC.out.ext).2
          have hwl : w.heap.size ≤ wr.heap.size := HC.out.ext.le
          obtain ⟨g, cap, g', cap', w2, c7, hr, ⟨u, hu⟩, hf, htab, hbel, hkeep⟩ := HC.out.tab.drew.grow (by simpa using hwl) (by have := HL.out; omega) x
          have HR : Hid ((Builtin.append_ #[23, 23] 23 #[.slice (some ⟨g, 0, none⟩) cs.length cap, .slice (some ⟨wr.drew.heap.size, 0, none⟩) 1 1]).run Try.prog (wr.drew.alloc (.cells #[.string x] 9)) = .ok (.slice (some ⟨g', 0, none⟩) (cs.length + 1) cap') w2) := hr
          have HT : Hid (TabO (w2.setCell ⟨w.heap.size + 1, 16384, none⟩ (.slice (some ⟨g', 0, none⟩) (cs.length + 1) cap')) w.heap.size (w.heap.size + 1) os' (cs ++ [x])) := htab
          have HBL : Hid (Below w.heap.size wr.drew w2) := hbel
          have HKP : Hid (∀ k t m f, t ≠ 9 → wr.drew.rowIs k t m f → w2.rowIs k t m f) := hkeep
          clear hr htab hbel hkeep
          simp only [World.cell?_drew] at c7
          have hcb : w.heap.size + 1 < wr.heap.size := HC.out.tab.lt
          have c7' : (wr.alloc (.cells #[.string x] 9)).cell? ⟨w.heap.size + 1, 16384, none⟩ = some (.slice (some ⟨g, 0, none⟩) cs.length cap) := by rw [((Ext.refl wr).alloc _).cell hcb]; exact c7
          obtain ⟨F9, v9, hF9, -⟩ := HC.out.tab.row
          have hF9' := HKP.out _ _ _ _ (by decide) hF9.drew
          have c9 := hF9'.cell (i := k) (by omega)
          have f9 := hF9'.frozen k
          obtain ⟨G8, hG8, hGp8⟩ := HC.out.places
          have hG8' := HKP.out _ _ _ _ (by decide) hG8.drew
          have c8 := hG8'.cell (i := p) hok
          have f8 := hG8'.frozen p
          have HPL : Hid (∃ G, (w2.setCell ⟨w.heap.size + 1, 16384, none⟩ (.slice (some ⟨g', 0, none⟩) (cs.length + 1) cap')).rowIs w1.heap.size 28 n G ∧ ∀ p, p < n → G p = .int .u16 (pl p : Nat)) := ⟨G8, hG8'.setOther (by simp; omega) _, hGp8⟩
          have HBL2 : Hid (Below w.heap.size wr (w2.setCell ⟨w.heap.size + 1, 16384, none⟩ (.slice (some ⟨g', 0, none⟩) (cs.length + 1) cap'))) := (Below.trans ((Below.refl _ _).drew) HBL.out).setCell (by simp) _
          have hnep : ¬ w1.heap.size = w.heap.size + 1 := by omega
          have hnep' : ¬ w.heap.size + 1 = w1.heap.size := by omega
          have hk16 : ¬ k = 16384 := by omega
          have hlc : cs.length ≤ 16385 := by have := HL.out; omega
          clear hF9 hF9' hG8 hG8' hGp8
          go_wp2
          go_region_law ((refine step_append_run (w := wr.drew.alloc _) rfl _ _ 23 rfl _ _ (by simp [Act.eval]) (by simp [Act.eval]) _ w2 HR.out ?_))
          all_goals
            go_wp2
            go_region
            go_wp2
            go_roundw
            case rel =>
              refine ⟨k + 1, by omega, by go_num, _, _, _, ?_, ((HC.out.add (by omega) HT.out (HBL2.out) HPL.out hok HX.out (by omega) (by omega)).put hlt (by omega) (by omega) cs.length (by simp) ?_).drew⟩
              · have := HL.out
                simp
                omega
              · rw [HP.out, HX.out]
                simp
            case measure => simp [intOf]; omega
        · obtain ⟨F3, v3, hF3, -⟩ := HC.out.tab.row
          have c4 := hF3.cell (i := k) (by omega)
          have f4 := hF3.frozen k
          clear hF3
          have hqb : q < cs.length ∧ cs.getD q ByteArray.empty = ss.getD p ByteArray.empty := by
            have := HC.out.named p hok
            rw [HQ.out] at this
            rcases this with h | h
            · exact absurd h hq0
            · exact h
          have HQB : Hid (q < cs.length ∧ cs.getD q ByteArray.empty = ss.getD p ByteArray.empty) := hqb
          clear hqb
          go_wp2
          go_region
          go_wp2
          go_roundw
          case rel => exact ⟨k + 1, by omega, by go_num, _, _, _, by have := HL.out; omega, (HC.out.put hlt (by omega) (by omega) q HQB.out.1 (by rw [HP.out]; exact HQB.out.2)).drew⟩
          case measure => simp [intOf]; omega
    · go_wp2
      go_ret
      have hk' : k = 16384 := by omega
      subst hk'
      exact ⟨_, _, _, rfl, HC.out.tab, HC.out.done, by have := HL.out; omega, HC.out.ext⟩

end Go.Proofs.Qxb6608555a
