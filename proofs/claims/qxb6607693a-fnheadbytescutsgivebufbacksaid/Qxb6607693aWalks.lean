/-
  The walks of this seat: cloneBytes, cloneInts, ZZnewHead, ZZheadBytes, bytes, the measure, and the law itself.
-/
import Derived.Test.Qxb6607693aProg
import Derived.WalkKit
import Derived.WalkSpells
import Derived.WalkLawsBesides
import Derived.Laws.CopyOwn
import Derived.Deep.AppendLies
import Derived.Deep.OwnRows
import Derived.Deep.QuietTactic
import Derived.Deep.DeepCutAuto
import Derived.BigQuiet
namespace Go.Proofs.Qxb6607693a
open Go.RowKit
set_option maxRecDepth 100000

/-- w' is w with more blocks; nothing old has turned. -/
def Ext (w w' : World) : Prop := Below w.heap.size w w'
theorem Ext.refl (w : World) : Ext w w := Below.refl _ _
theorem Ext.trans {a b c : World} (h : Ext a b) (k : Ext b c) : Ext a c := Below.trans h (Below.mono k h.size)
theorem Ext.alloc {a w : World} (h : Ext a w) (o : Obj) : Ext a (w.alloc o) := Below.alloc h h.size o
theorem Ext.drew {a w : World} (h : Ext a w) : Ext a w.drew := Below.drew h
theorem Ext.drewN {a w : World} (h : Ext a w) : ∀ n, Ext a (w.drewN n)
  | 0 => h
  | n + 1 => by
    have := Ext.drewN h n
    exact ⟨h.os, h.tape, h.output, h.size, h.block⟩
theorem Ext.cell {w w' : World} (h : Ext w w') {p : Addr} (hp : p.block < w.heap.size) : w'.cell? p = w.cell? p := Below.cell h hp
theorem Ext.le {w w' : World} (h : Ext w w') : w.heap.size ≤ w'.heap.size := h.size

/-- A slice of n integers of kind k, the list zs. -/
structure Bs (k : IntKind) (w : World) (a : Option Addr) (n c : Nat) (zs : List Int) : Prop where
  len : zs.length = n
  cap : n ≤ c
  nil : a = none → n = 0 ∧ c = 0
  bound : c ≤ 9223372036854775807
  cells : 0 < n → ∃ b off, a = some ⟨b, off, none⟩ ∧ b < w.heap.size ∧ ∀ i, i < n → w.cell? ⟨b, off + i, none⟩ = some (.int k (zs.getD i 0))

theorem Bs.ext {k : IntKind} {w w' : World} {a : Option Addr} {n c : Nat} {zs : List Int} (h : Bs k w a n c zs) (e : Ext w w') : Bs k w' a n c zs :=
  ⟨h.len, h.cap, h.nil, h.bound, fun hn => by
    obtain ⟨b, off, ha, hb, hc⟩ := h.cells hn
    exact ⟨b, off, ha, Nat.lt_of_lt_of_le hb e.le, fun i hi => by rw [e.cell (p := ⟨b, off + i, none⟩) hb]; exact hc i hi⟩⟩

/-- What lies between two places of a slice that fills its array. -/
theorem Bs.cut {k : IntKind} {w : World} {a : Option Addr} {n f t : Nat} {zs : List Int} (h : Bs k w a n n zs) (hft : f ≤ t) (htn : t ≤ n) :
    Bs k w (if n = f then a else a.map (fun x => x.add f)) (t - f) (n - f) ((zs.drop f).take (t - f)) := by
  have hl := h.len
  have hbd := h.bound
  refine ⟨by simp; omega, by omega, fun e => ?_, by omega, fun h0 => ?_⟩
  · by_cases he : n = f
    · omega
    · rw [if_neg he] at e
      simp at e
      have := (h.nil e).1
      omega
  · rw [if_neg (by omega)]
    obtain ⟨b, off, ha, hb, hc⟩ := h.cells (by omega)
    subst ha
    refine ⟨b, off + f, by simp [Addr.add], hb, fun i hi => ?_⟩
    rw [Nat.add_assoc, hc (f + i) (by omega)]
    simp [hi]

theorem alloc_old (w : World) (o : Obj) {k : Nat} (h : k < w.heap.size) : (w.alloc o).heap[k]? = w.heap[k]? := by
  show (w.heap.push o)[k]? = w.heap[k]?
  rw [Array.getElem?_push, if_neg (Nat.ne_of_lt h)]
theorem alloc_new (w : World) (o : Obj) : (w.alloc o).heap[w.heap.size]? = some o := by
  show (w.heap.push o)[w.heap.size]? = some o
  simp
theorem setRow_alloc (w : World) (cs cs' : Array Value) (e : TypeId) (fr : Nat × Nat) : (w.alloc (.cells cs e fr)).setRow w.heap.size cs' = w.alloc (.cells cs' e fr) := by
  show ({ w with heap := (w.heap.push (.cells cs e fr)).modify w.heap.size _ } : World) = { w with heap := w.heap.push (.cells cs' e fr) }
  congr 1
  apply Array.ext (by simp)
  intro i h1 h2
  simp only [Array.getElem_modify, Array.getElem_push]
  simp at h1
  by_cases hi : i < w.heap.size
  · have : w.heap.size ≠ i := by omega
    simp [hi, this]
  · have : w.heap.size = i := by omega
    simp [this]
theorem copy_fresh {P : Program} (w : World) (dT sT ty elem : TypeId) (hu : P.underlying dT = some (.slice elem)) (hs : (P.info? elem).map (·.size) = some 1)
    (ad : Addr) (n c : Nat) (cs : List Value) (z : Value) (hn : cs.length = n) (hlt : 0 < n → ad.block < w.heap.size)
    (hsrc : ∀ j v, cs[j]? = some v → w.cell? (ad.add j) = some v) (h1 : ∀ v ∈ cs, v.oneCell' = true) :
    (Builtin.copy_ #[dT, sT] ty #[.slice (some ⟨w.heap.size, 0, none⟩) n n, .slice (some ad) n c]).run P (w.alloc (.cells (madeCells #[z] n) elem)) =
      .ok (goInt n) (w.alloc (.cells cs.toArray elem)) := by
  by_cases h0 : n = 0
  · subst h0
    have e1 : cs = [] := List.eq_nil_of_length_eq_zero hn
    subst e1
    have e2 : madeCells #[z] 0 = #[] := by simp [madeCells]
    rw [e2]
    exact run_copy_none (P := P) _ dT sT ty elem _ _ 0 0 0 c hu hs rfl
  · have hb := hlt (by omega)
    have hrun := run_copy_row (P := P) (w.alloc (.cells (madeCells #[z] n) elem)) dT sT ty elem w.heap.size 0 n n ad n c (madeCells #[z] n) elem cs hu hs (alloc_new _ _) (by simp [hn])
      (fun j v hj => by
        have := hsrc j v hj
        rw [← this]
        exact World.cell?_of_block (by
          have eb : (ad.add j).block = ad.block := by unfold Addr.add; split <;> rfl
          rw [eb]; exact alloc_old _ _ hb)) (by simp [size_madeCells, hn]) h1
    rw [hrun]
    have e3 : (List.take 0 (madeCells #[z] n).toList ++ cs ++ List.drop (0 + cs.length) (madeCells #[z] n).toList) = cs := by
      simp [size_madeCells, hn]
    rw [e3, hn, setRow_alloc]

theorem getD_map_int (k : IntKind) (bs : List Int) (j : Nat) (v : Value) (h : (bs.map (Value.int k))[j]? = some v) : j < bs.length ∧ v = .int k (bs.getD j 0) := by
  obtain ⟨hj, hv⟩ := List.getElem?_eq_some_iff.1 h
  simp at hj hv
  exact ⟨hj, by simp [← hv, hj]⟩


theorem Try.info5 : (Try.prog.info? 5).map (fun i => (i.zero, i.size, i.bytes)) = some (some (.int .u8 0), 1, 1) := by kernel_rfl
theorem Try.size5 : (Try.prog.info? 5).map (·.size) = some 1 := by kernel_rfl
theorem Try.info3 : (Try.prog.info? 3).map (fun i => (i.zero, i.size, i.bytes)) = some (some (.int .i64 0), 1, 8) := by kernel_rfl
theorem Try.size3 : (Try.prog.info? 3).map (·.size) = some 1 := by kernel_rfl

set_option maxHeartbeats 400000 in
theorem cloneBytes_any (a : Option Addr) (n c : Nat) (zs : List Int) (w : World) (h : Bs .u8 w a n c zs) (hn : n ≤ 1048576) :
    Calls Try.prog 5 #[.slice a n c] w fun e w' => ∃ a', e = .returned (.slice a' n n) ∧ Bs .u8 w' a' n n zs ∧ Ext w w' := by
  have hnil := fun (w : World) => Lib.run_eql_slice_nil (P := Try.prog) w 22 5 a n c 0 0 Try.underlying22
  cases a with
  | none =>
    obtain ⟨rfl, rfl⟩ := h.nil rfl
    go_enter Try.func5, Try.ntmps5
    go_wp2
    go_ret
    exact ⟨none, rfl, h, Ext.refl _⟩
  | some ad =>
    have hl := h.len
    have hmk := run_make_row' (P := Try.prog) 22 5 (.int .u8 0) 1 Try.underlying22 Try.info5 rfl .i64 .i64 n (by omega) (by omega)
    have hcp := fun ty => copy_fresh (P := Try.prog) w 22 22 ty 5 Try.underlying22 Try.size5 ad n c (zs.map (Value.int .u8)) (.int .u8 0) (by simp [h.len]) (fun h0 => by
      obtain ⟨b, off, ha, hb, hc⟩ := h.cells h0; cases ha; exact hb) (fun j v hj => by
      obtain ⟨hj1, rfl⟩ := getD_map_int _ _ _ _ hj
      obtain ⟨b, off, ha, hb, hc⟩ := h.cells (by omega)
      cases ha
      rw [Addr.add_lit]
      exact hc j (by omega)) (ints_oneCell _ _)
    clear hl
    go_enter Try.func5, Try.ntmps5
    go_wp2
    go_ret
    refine ⟨some ⟨w.heap.size, 0, none⟩, rfl, ⟨h.len, Nat.le_refl _, fun e => (by cases e), by omega, fun _ => ⟨_, 0, rfl, by simp, fun i hi => ?_⟩⟩, (Ext.refl _).alloc _⟩
    have hl := h.len
    have hi' : i < zs.length := by omega
    simp [hi']

set_option maxHeartbeats 400000 in
theorem cloneInts_any (a : Option Addr) (n c : Nat) (zs : List Int) (w : World) (h : Bs .i64 w a n c zs) (hn : n ≤ 1048576) :
    Calls Try.prog 6 #[.slice a n c] w fun e w' => ∃ a', e = .returned (.slice a' n n) ∧ Bs .i64 w' a' n n zs ∧ Ext w w' := by
  have hnil := fun (w : World) => Lib.run_eql_slice_nil (P := Try.prog) w 23 3 a n c 0 0 Try.underlying23
  cases a with
  | none =>
    obtain ⟨rfl, rfl⟩ := h.nil rfl
    go_enter Try.func6, Try.ntmps6
    go_wp2
    go_ret
    exact ⟨none, rfl, h, Ext.refl _⟩
  | some ad =>
    have hl := h.len
    have hmk := run_make_row' (P := Try.prog) 23 3 (.int .i64 0) 8 Try.underlying23 Try.info3 rfl .i64 .i64 n (by omega) (by omega)
    have hcp := fun ty => copy_fresh (P := Try.prog) w 23 23 ty 3 Try.underlying23 Try.size3 ad n c (zs.map (Value.int .i64)) (.int .i64 0) (by simp [h.len]) (fun h0 => by
      obtain ⟨b, off, ha, hb, hc⟩ := h.cells h0; cases ha; exact hb) (fun j v hj => by
      obtain ⟨hj1, rfl⟩ := getD_map_int _ _ _ _ hj
      obtain ⟨b, off, ha, hb, hc⟩ := h.cells (by omega)
      cases ha
      rw [Addr.add_lit]
      exact hc j (by omega)) (ints_oneCell _ _)
    clear hl
    go_enter Try.func6, Try.ntmps6
    go_wp2
    go_ret
    refine ⟨some ⟨w.heap.size, 0, none⟩, rfl, ⟨h.len, Nat.le_refl _, fun e => (by cases e), by omega, fun _ => ⟨_, 0, rfl, by simp, fun i hi => ?_⟩⟩, (Ext.refl _).alloc _⟩
    have hl := h.len
    have hi' : i < zs.length := by omega
    simp [hi']

set_option maxHeartbeats 400000 in
theorem zz_any (a b : Option Addr) (n c m d : Nat) (w : World) (hn : n ≤ 9223372036854775807) (hm : m ≤ 9223372036854775807) :
    Calls Try.prog 4 #[.slice a n c, .slice b m d] w fun e w' => (e = .returned (.bool false) ∨ (e = .returned (.bool true) ∧ n ≤ 1048576 ∧ m ≤ 1048576)) ∧ w' = w := by
  go_enter Try.func4, Try.ntmps4
  by_cases h1 : (1048576 : Int) < n
  · go_wp2
    go_ret
    exact ⟨.inl rfl, rfl⟩
  · by_cases h2 : (1048576 : Int) < m
    · go_wp2
      go_ret
      exact ⟨.inl rfl, rfl⟩
    · by_cases h3 : (1048576 : Int) < (n : Int) + m
      · go_wp2
        go_ret
        exact ⟨.inl rfl, rfl⟩
      · go_wp2
        go_ret
        exact ⟨.inr ⟨rfl, by omega, by omega⟩, rfl⟩

set_option maxHeartbeats 400000 in
theorem newHead_any (a : Option Addr) (n c : Nat) (w : World) :
    Calls Try.prog 7 #[.slice a n c] w fun e w' => ∃ b, e = .returned (.pointer (some ⟨b, 0, none⟩)) ∧ (b < w'.heap.size ∧ w'.cell? ⟨b, 0, none⟩ = some (.slice a n c)) ∧ Ext w w' := by
  go_enter Try.func7, Try.ntmps7
  go_wp2
  go_ret
  exact ⟨_, rfl, by simp, (Ext.refl _).alloc _⟩

set_option maxHeartbeats 400000 in
theorem bytes_any (hb : Nat) (a : Option Addr) (n f t : Nat) (zs : List Int) (w : World) (h : Bs .u8 w a n n zs) (h1 : hb < w.heap.size) (h2 : w.cell? ⟨hb, 0, none⟩ = some (.slice a n n)) (hft : f ≤ t) (htn : t ≤ n) (hn : n ≤ 1048576) :
    Calls Try.prog 9 #[.pointer (some ⟨hb, 0, none⟩), .agg #[.int .i64 f, .int .i64 t]] w fun e w' => ∃ a', e = .returned (.slice a' (t - f) (n - f)) ∧ Bs .u8 w' a' (t - f) (n - f) ((zs.drop f).take (t - f)) ∧ Ext w w' := by
  go_enter Try.func9, Try.ntmps9
  go_wp2
  have g2 : (w.alloc (.cells #[.int .i64 f, .int .i64 t] 31)).cell? ⟨hb, 0, none⟩ = some (.slice a n n) := by rw [((Ext.refl w).alloc _).cell h1]; exact h2
  have hcut := h.cut hft htn
  by_cases he : n = f
  · rw [if_pos he] at hcut
    go_quiet (fail)
    go_wp2
    go_ret
    exact ⟨_, by rw [he, Nat.sub_self]; rfl, hcut.ext (((Ext.refl _).alloc _).drewN _), ((Ext.refl _).alloc _).drewN _⟩
  · rw [if_neg he] at hcut
    go_quiet (fail)
    go_wp2
    go_ret
    exact ⟨_, rfl, hcut.ext (((Ext.refl _).alloc _).drewN _), ((Ext.refl _).alloc _).drewN _⟩

set_option maxHeartbeats 400000 in
theorem headBytes_any (hb : Nat) (a : Option Addr) (n f t : Nat) (zs : List Int) (w : World) (h : Bs .u8 w a n n zs) (h1 : hb < w.heap.size) (h2 : w.cell? ⟨hb, 0, none⟩ = some (.slice a n n)) (hft : f ≤ t) (htn : t ≤ n) (hn : n ≤ 1048576) :
    Calls Try.prog 8 #[.pointer (some ⟨hb, 0, none⟩), .int .i64 f, .int .i64 t] w fun e w' => ∃ a', e = .returned (.slice a' (t - f) (n - f)) ∧ Bs .u8 w' a' (t - f) (n - f) ((zs.drop f).take (t - f)) ∧ Ext w w' := by
  go_enter Try.func8, Try.ntmps8
  go_wp2_with (go_at_call 9; refine (bytes_any hb a n f t zs _ h h1 h2 hft htn hn).mono ?_; rintro e w' ⟨a', rfl, k, x⟩)
  go_ret
  exact ⟨_, rfl, k, x⟩

/-- The cut ahead of place k (0 ahead of the first). -/
def prevOf (zs : List Int) : Nat → Int
  | 0 => 0
  | k + 1 => zs.getD k 0
/-- The cuts, each within the buffer and none before the one ahead of it. -/
def CutsOk (zs : List Int) (n0 : Nat) (k : Nat) : Prop := ∀ j, j < k → prevOf zs j ≤ zs.getD j 0 ∧ zs.getD j 0 ≤ n0
theorem CutsOk.low {zs : List Int} {n0 k : Nat} (h : CutsOk zs n0 k) : ∀ j, j ≤ k → 0 ≤ prevOf zs j ∧ prevOf zs j ≤ n0
  | 0, _ => ⟨Int.le_refl _, Int.natCast_nonneg _⟩
  | j + 1, hj => by
    have h1 := h.low j (by omega)
    have h2 := h j (by omega)
    exact ⟨Int.le_trans h1.1 h2.1, h2.2⟩
/-- Where piece k begins: the cuts, and behind them the end. -/
def cutAt (zs : List Int) (n0 n1 k : Nat) : Nat := if k ≤ n1 then (prevOf zs k).toNat else n0
theorem cutAt_le {zs : List Int} {n0 n1 : Nat} (h : CutsOk zs n0 n1) (k : Nat) : cutAt zs n0 n1 k ≤ n0 := by
  unfold cutAt
  split
  · have := h.low k (by omega)
    omega
  · omega
theorem cutAt_mono {zs : List Int} {n0 n1 : Nat} (h : CutsOk zs n0 n1) (k : Nat) (hk : k ≤ n1) : cutAt zs n0 n1 k ≤ cutAt zs n0 n1 (k + 1) := by
  unfold cutAt
  rw [if_pos hk]
  split
  · have h1 := h k (by omega)
    have h2 := h.low k hk
    show (prevOf zs k).toNat ≤ (zs.getD k 0).toNat
    omega
  · have h2 := h.low k hk
    omega
theorem cutAt_mid {zs : List Int} {n0 n1 : Nat} (h : CutsOk zs n0 n1) (k : Nat) (hk : k < n1) : zs.getD k 0 = (cutAt zs n0 n1 (k + 1) : Nat) := by
  unfold cutAt
  rw [if_pos (by omega)]
  have h2 := h.low (k + 1) (by omega)
  simp only [prevOf] at h2 ⊢
  omega
theorem cutAt_end (zs : List Int) (n0 n1 : Nat) : cutAt zs n0 n1 (n1 + 1) = n0 := by
  unfold cutAt
  rw [if_neg (by omega)]

set_option maxHeartbeats 2000000 in
theorem law_walk (a0 a1 : Option Addr) (n0 c0 n1 c1 : Nat) (z0 z1 : List Int) (w : World) (h0 : Bs .u8 w a0 n0 c0 z0) (h1 : Bs .i64 w a1 n1 c1 z1) :
    Calls Try.prog 3 #[.slice a0 n0 c0, .slice a1 n1 c1] w fun e w' => e = .returned (.bool true) ∧ Ext w w' := by
  have b0 := h0.bound
  have b1 := h1.bound
  have p0 := h0.cap
  have p1 := h1.cap
  by_cases t1 : (65536 : Int) < n1
  · go_enter Try.func3, Try.ntmps3
    go_wp2_with (go_at_call 4; refine (zz_any _ _ _ _ _ _ _ (by omega) (by omega)).mono ?_; rintro e w' ⟨hzz, hw⟩; rw [hw]; clear hw w'; rcases hzz with rfl | ⟨rfl, s0, s1⟩)
    all_goals (go_ret; exact ⟨rfl, Ext.refl _⟩)
  by_cases t2 : (1048576 : Int) < (n0 : Int) + 8 * n1
  · go_enter Try.func3, Try.ntmps3
    go_wp2_with (go_at_call 4; refine (zz_any _ _ _ _ _ _ _ (by omega) (by omega)).mono ?_; rintro e w' ⟨hzz, hw⟩; rw [hw]; clear hw w'; rcases hzz with rfl | ⟨rfl, s0, s1⟩)
    all_goals (go_ret; exact ⟨rfl, Ext.refl _⟩)
  go_enter Try.func3, Try.ntmps3
  go_wp2_with (go_at_call 4; refine (zz_any _ _ _ _ _ _ _ (by omega) (by omega)).mono ?_; rintro e w' ⟨hzz, hw⟩; rw [hw]; clear hw w'; rcases hzz with rfl | ⟨rfl, s0, s1⟩)
  · go_ret
    exact ⟨rfl, Ext.refl _⟩
  clear b0 b1 p0 p1 t1
  clear t2
  go_loop [5, 6] (fun p i => ∃ (k : Nat) (q : Int), k ≤ n1 ∧ i = .int .i64 k ∧ p = .int .i64 q ∧ prevOf z1 k = q ∧ CutsOk z1 n0 k) (fun _ i => n1 - (intOf i).toNat)
  case atStart => exact ⟨0, 0, Nat.zero_le _, rfl, rfl, rfl, fun j hj => absurd hj (by omega)⟩
  case round =>
    obtain ⟨k, q, hk, rfl, rfl, hq, hok⟩ := hrel
    have HOK : Hid (CutsOk z1 n0 k) := hok
    have HQ : Hid (prevOf z1 k = q) := hq
    clear hok hq
    by_cases hlt : k < n1
    · obtain ⟨b, off, rfl, hb, hc⟩ := h1.cells (by omega)
      have g := hc k hlt
      obtain ⟨z, hz⟩ : ∃ z, z1.getD k 0 = z := ⟨_, rfl⟩
      rw [hz] at g
      have HZ : Hid (z1.getD k 0 = z) := hz
      clear hc hz
      by_cases u1 : z < q
      · go_wp2
        go_ret
        exact ⟨rfl, Ext.refl _⟩
      · by_cases u2 : (n0 : Int) < z
        · go_wp2
          go_ret
          exact ⟨rfl, Ext.refl _⟩
        · have hok2 : Hid (CutsOk z1 n0 (k + 1)) := fun j hj => by
            by_cases hjk : j < k
            · exact HOK.out j hjk
            · have : j = k := by omega
              subst this
              rw [HQ.out, HZ.out]
              exact ⟨by omega, by omega⟩
          go_wp2
          go_round
          case rel => exact ⟨k + 1, z, by omega, by go_num, rfl, HZ.out, hok2.out⟩
          case measure => simp [intOf]; omega
    · have hk' : n1 = k := by omega
      subst hk'
      clear hk hlt HQ
      go_wp2_with (first
        | (go_at_call 5; refine (cloneBytes_any a0 n0 c0 z0 _ h0 s0).mono ?_; rintro e w1 ⟨a2, rfl, k0, x1⟩)
        | (go_at_call 6; refine (cloneInts_any a1 n1 c1 z1 _ (h1.ext x1) s1).mono ?_; rintro e w2 ⟨a3, rfl, k1, x2⟩)
        | (go_at_call 7; refine (newHead_any _ _ _ _).mono ?_; rintro e w3 ⟨hb, rfl, ⟨hb1, hb2⟩, x3⟩))
      have m0 : Hid (Bs .u8 w3 a2 n0 n0 z0) := k0.ext (x2.trans x3)
      have m1 : Hid (Bs .i64 w3 a3 n1 n1 z1) := k1.ext x3
      have x : Hid (Ext w w3) := (x1.trans x2).trans x3
      have HB : Hid (w3.cell? ⟨hb, 0, none⟩ = some (.slice a2 n0 n0)) := hb2
      clear k0 k1 x1 x2 x3 h0 h1 hb2
      go_loopg [8, 9, 10] (n1 + 1) (fun g p f i wr => ∃ k : Nat, g = n1 + 1 - k ∧ k ≤ n1 + 1 ∧ p = .int .i64 (cutAt z1 n0 n1 k : Nat) ∧ f = .int .i64 (cutAt z1 n0 n1 k : Nat) ∧ i = .int .i64 k ∧ Ext w3 wr)
      case atStart => exact ⟨0, rfl, Nat.zero_le _, rfl, rfl, rfl, Ext.refl _⟩
      case round =>
        obtain ⟨k, hg, hk, rfl, rfl, rfl, hx⟩ := hrel
        have HG : Hid (gk = n1 + 1 - k) := hg
        clear hg
        have y0 : Hid (Bs .u8 wr a2 n0 n0 z0) := m0.out.ext hx
        have y1 : Hid (Bs .i64 wr a3 n1 n1 z1) := m1.out.ext hx
        have yb : Hid (wr.cell? ⟨hb, 0, none⟩ = some (.slice a2 n0 n0)) := by rw [hx.cell (p := ⟨hb, 0, none⟩) hb1]; exact HB.out
        have yb1 : hb < wr.heap.size := Nat.lt_of_lt_of_le hb1 hx.le
        by_cases hkn : k = n1 + 1
        · subst hkn
          rw [cutAt_end]
          go_wp2
          go_ret
          exact ⟨by simp, x.out.trans hx⟩
        · have e1 := cutAt_mono HOK.out k (by omega)
          have e2 := cutAt_le HOK.out (k + 1)
          obtain ⟨f, hf⟩ : ∃ f, cutAt z1 n0 n1 k = f := ⟨_, rfl⟩
          obtain ⟨t, ht⟩ : ∃ t, cutAt z1 n0 n1 (k + 1) = t := ⟨_, rfl⟩
          rw [hf, ht] at e1
          rw [ht] at e2
          rw [hf]
          have HT : Hid (cutAt z1 n0 n1 (k + 1) = t) := ht
          clear hf ht
          have hpart : (k < n1 ∧ ∃ b off, a3 = some ⟨b, off, none⟩ ∧ wr.cell? ⟨b, off + k, none⟩ = some (.int .i64 (t : Nat))) ∨ (k = n1 ∧ t = n0) := by
            by_cases hkl : k < n1
            · obtain ⟨b, off, h1, h2, h3⟩ := y1.out.cells (by omega)
              have h4 := h3 k hkl
              rw [cutAt_mid HOK.out k hkl, HT.out] at h4
              exact .inl ⟨hkl, b, off, h1, h4⟩
            · have : k = n1 := by omega
              subst this
              exact .inr ⟨rfl, by rw [← HT.out, cutAt_end]⟩
          have hpart2 : Hid ((k < n1 ∧ ∃ b off, a3 = some ⟨b, off, none⟩ ∧ wr.cell? ⟨b, off + k, none⟩ = some (.int .i64 (t : Nat))) ∨ (k = n1 ∧ t = n0)) := hpart
          clear hpart
          go_upto_if 75 with fail
          go_cut [11] (fun z w' => z = .int .i64 (t : Nat) ∧ wr = w')
          case first =>
            rcases hpart2.out with ⟨hkl, b, off, rfl, hc⟩ | ⟨rfl, rfl⟩
            · go_wp2
              go_meet
              case rel => exact ⟨rfl, rfl⟩
            · go_wp2
              go_meet
              case rel => exact ⟨rfl, rfl⟩
          case rest =>
            obtain ⟨rfl, rfl⟩ := hcut
            clear hpart2
            go_wp2_with (go_at_call 8; refine (headBytes_any hb a2 n0 f t z0 _ y0.out yb1 yb.out e1 e2 s0).mono ?_; rintro e w4 ⟨a4, rfl, k4, x4⟩)
            all_goals try (exfalso; omega)
            have y4 : Hid (Bs .u8 w4 a2 n0 n0 z0) := y0.out.ext x4
            have K4 : Hid (Bs .u8 w4 a4 (t - f) (n0 - f) (List.take (t - f) (List.drop f z0))) := k4
            clear k4 y0 y1 yb
            go_loopg [8, 13] (t - f) (fun g p j wq => ∃ i s : Nat, g = t - f - i ∧ s = f + i ∧ i ≤ t - f ∧ p = .int .i64 s ∧ j = .int .i64 i ∧ Ext w4 wq)
            case atStart => exact ⟨0, f, rfl, rfl, Nat.zero_le _, rfl, rfl, Ext.refl _⟩
            case round =>
              obtain ⟨i, s, hgi, hs, hi, rfl, rfl, hxi⟩ := hrel
              have HGi : Hid (gk = t - f - i) := hgi
              clear hgi
              by_cases hlt : i < t - f
              · obtain ⟨b1, off1, rfl, -, hc1⟩ := (K4.out.ext hxi).cells (by omega)
                obtain ⟨b2, off2, rfl, -, hc2⟩ := (y4.out.ext hxi).cells (by omega)
                have g1 := hc1 i hlt
                have g2 := hc2 s (by omega)
                have e5 : (List.take (t - f) (List.drop f z0)).getD i 0 = z0.getD s 0 := by simp [hlt, hs]
                rw [e5] at g1
                obtain ⟨z, hz⟩ : ∃ z, z0.getD s 0 = z := ⟨_, rfl⟩
                rw [hz] at g1 g2
                clear hc1 hc2 e5 hz
                have hd2 : (s : Int) < n0 := by omega
                have HS : Hid (s = f + i) := hs
                clear hs
                go_wp2
                have hd : decide (n0 ≤ s) = false := by simp; omega
                go_quiet (fail)
                go_wp2
                go_roundg (t - f - (i + 1))
                case measure => have := HGi.out; omega
                case rel => exact ⟨i + 1, s + 1, rfl, by have := HS.out; omega, by omega, by go_num, by go_num, hxi.drewN _⟩
              · have e6 : s = t := by omega
                subst e6
                clear hs
                go_wp2
                go_roundg (n1 + 1 - (k + 1))
                case measure => have := HG.out; omega
                case rel => exact ⟨k + 1, rfl, by omega, by rw [HT.out], by rw [HT.out], by go_num, (hx.trans x4).trans hxi⟩
end Go.Proofs.Qxb6607693a
