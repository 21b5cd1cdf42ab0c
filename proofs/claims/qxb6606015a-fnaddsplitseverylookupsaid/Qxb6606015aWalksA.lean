/-
  The leaves: addSat, sizeStr, sizeComp, cloneBytes, cloneStr, strPtrEq, bytesEq, bytes.Equal.
-/
import Derived.Test.Qxb6606015aProg
import Derived.Test.Qxb6606015aParts
import Derived.Deep.RegionHeld3
import Derived.Deep.QuietTactic
import Derived.BigQuiet
namespace Go.Proofs.Qxb6606015a
open Go.RowKit

theorem Try.info5 : (Try.prog.info? 5).map (fun i => (i.zero, i.size, i.bytes)) = some (some (.int .u8 0), 1, 1) := by kernel_rfl
theorem Try.size5 : (Try.prog.info? 5).map (·.size) = some 1 := by kernel_rfl

set_option maxHeartbeats 400000 in
theorem addSat_any (n m : Int) (w : World) :
    Calls Try.prog 7 #[.int .i64 n, .int .i64 m] w fun e w' => e = .returned (.int .i64 (satOf n m)) ∧ w' = w := by
  by_cases h1 : 1048576 < n
  · have e : satOf n m = 1048577 := by simp [satOf, h1]
    rw [e]
    clear e
    go_enter Try.func7, Try.ntmps7
    go_wp2
    go_ret
    exact ⟨rfl, rfl⟩
  · by_cases h2 : 1048576 < m
    · have e : satOf n m = 1048577 := by simp [satOf, h2]
      rw [e]
      clear e
      go_enter Try.func7, Try.ntmps7
      go_wp2
      go_ret
      exact ⟨rfl, rfl⟩
    · have e : satOf n m = wrap64 (n + m) := by simp [satOf, h1, h2]
      rw [e]
      clear e
      go_enter Try.func7, Try.ntmps7
      go_wp2
      go_ret
      exact ⟨rfl, rfl⟩

set_option maxHeartbeats 400000 in
theorem sizeStr_any {lo : Nat} (p : Option Addr) (os : Option ByteArray) (w : World) (h : Sp lo w p os) :
    Calls Try.prog 40 #[.pointer p] w fun e w' => e = .returned (.int .i64 (lenOfStr os)) ∧ w' = w := by
  rcases h with ⟨rfl, rfl⟩ | ⟨b, off, s, rfl, rfl, h3, h4⟩
  · go_enter Try.func40, Try.ntmps40
    go_wp2
    go_ret
    exact ⟨rfl, rfl⟩
  · go_enter Try.func40, Try.ntmps40
    go_wp2
    go_ret
    exact ⟨rfl, rfl⟩

set_option maxHeartbeats 400000 in
theorem sizeComp_any {lo : Nat} (p q a : Option Addr) (n c : Nat) (os os' : Option ByteArray) (w : World) (h1 : Sp lo w p os) (h2 : Sp lo w q os') :
    Calls Try.prog 34 #[.agg #[.pointer p, .pointer q, .slice a n c]] w fun e w' => (∃ r, e = .returned (.int .i64 r)) ∧ Ext w w' := by
  go_enter Try.func34, Try.ntmps34
  go_wp2
  go_quiet ((first
    | (go_at_call_of 40 p; refine Calls.quiet_of_same (sizeStr_any (lo := lo) p os _ ?_); exact h1.ext (((Ext.refl _).alloc _).drewN _))
    | (go_at_call_of 40 q; refine Calls.quiet_of_same (sizeStr_any (lo := lo) q os' _ ?_); exact h2.ext (((Ext.refl _).alloc _).drewN _))
    | (go_at_call 7; refine Calls.quiet_of_same (addSat_any _ _ _))))
  go_wp2
  go_ret
  exact ⟨⟨_, rfl⟩, ((Ext.refl _).alloc _).drewN _⟩
set_option maxHeartbeats 400000 in
theorem cloneBytes_any {lo : Nat} (a : Option Addr) (n c : Nat) (bs : List Int) (w : World) (h : Bs lo w a n c bs) :
    Calls Try.prog 9 #[.slice a n c] w fun e w' => ∃ a' c', e = .returned (.slice a' n c') ∧ Bs w.heap.size w' a' n c' bs ∧ Ext w w' := by
  have hnil := fun (w : World) => Lib.run_eql_slice_nil (P := Try.prog) w 25 5 a n c 0 0 Try.underlying25
  cases a with
  | none =>
    obtain ⟨rfl, rfl⟩ := h.nil rfl
    go_enter Try.func9, Try.ntmps9
    go_wp2
    go_ret
    exact ⟨none, 0, rfl, ⟨h.len, h.cap, h.bound, h.wf, h.nil, fun hn => absurd hn (by omega)⟩, Ext.refl _⟩
  | some ad =>
    have hb := h.bound
    have hl := h.len
    have hmk := run_make_row' (P := Try.prog) 25 5 (.int .u8 0) 1 Try.underlying25 Try.info5 rfl .i64 .i64 n (by omega) (by omega)
    have hcp := fun ty => copy_fresh (P := Try.prog) w 25 25 ty 5 Try.underlying25 Try.size5 ad n c (bs.map (Value.int .u8)) (.int .u8 0) (by simp [h.len]) (fun h0 => by
      obtain ⟨b, off, ha, hb, hc⟩ := h.cells h0; cases ha; exact hb.2) (fun j v hj => by
      obtain ⟨hj1, rfl⟩ := getD_map_int _ _ _ _ hj
      obtain ⟨b, off, ha, hb, hc⟩ := h.cells (by omega)
      cases ha
      rw [Addr.add_lit]
      exact hc j (by omega)) (ints_oneCell _ _)
    clear hl
    go_enter Try.func9, Try.ntmps9
    go_wp2
    go_ret
    refine ⟨some ⟨w.heap.size, 0, none⟩, n, rfl, ⟨h.len, Nat.le_refl _, h.bound, h.wf, fun e => (by cases e), fun _ => ⟨_, 0, rfl, by simp, fun i hi => ?_⟩⟩, (Ext.refl _).alloc _⟩
    have hl := h.len
    have hi' : i < bs.length := by omega
    simp [hi']
set_option maxHeartbeats 400000 in
theorem cloneStr_any {lo : Nat} (p : Option Addr) (os : Option ByteArray) (w : World) (h : Sp lo w p os) :
    Calls Try.prog 39 #[.pointer p] w fun e w' => ∃ p', e = .returned (.pointer p') ∧ Sp w.heap.size w' p' os ∧ Ext w w' := by
  rcases h with ⟨rfl, rfl⟩ | ⟨b, off, s, rfl, rfl, h3, h4⟩
  · go_enter Try.func39, Try.ntmps39
    go_wp2
    go_ret
    exact ⟨none, rfl, .inl ⟨rfl, rfl⟩, Ext.refl _⟩
  · go_enter Try.func39, Try.ntmps39
    go_wp2
    go_ret
    refine ⟨_, rfl, .inr ⟨_, _, s, rfl, rfl, by simp, by simp⟩, (Ext.refl _).alloc _⟩

set_option maxHeartbeats 400000 in
theorem strPtrEq_same {lo lo' : Nat} (p q : Option Addr) (os : Option ByteArray) (w : World) (h : Sp lo w p os) (k : Sp lo' w q os) :
    Calls Try.prog 38 #[.pointer p, .pointer q] w fun e w' => e = .returned (.bool true) ∧ Ext w w' := by
  rcases h with ⟨rfl, rfl⟩ | ⟨b, off, s, rfl, rfl, h3, h4⟩
  · rcases k with ⟨rfl, -⟩ | ⟨b', off', s', rfl, e, h3', h4'⟩
    · go_enter Try.func38, Try.ntmps38
      go_wp2
      go_ret
      exact ⟨rfl, Ext.refl _⟩
    · cases e
  · rcases k with ⟨rfl, e⟩ | ⟨b', off', s', rfl, e, h3', h4'⟩
    · cases e
    · cases e
      go_enter Try.func38, Try.ntmps38
      go_wp2
      go_quiet (fail)
      go_wp2
      go_ret
      refine ⟨by simp, (Ext.refl _).drewN _⟩
set_option maxHeartbeats 400000 in
theorem bytesEq_same {lo lo' : Nat} (a b : Option Addr) (n c d : Nat) (bs : List Int) (w : World) (h : Bs lo w a n c bs) (k : Bs lo' w b n d bs) :
    Calls Try.prog 18 #[.slice a n c, .slice b n d] w fun e w' => e = .returned (.bool true) ∧ Ext w w' := by
  have hb := h.bound
  have e0 : ((n : Int) != (n : Int)) = false := by simp
  go_enter Try.func18, Try.ntmps18
  go_wp2
  go_loopw [5] (fun i wr => ∃ j : Nat, j ≤ n ∧ i = .int .i64 j ∧ Ext w wr) (fun i _ => n - (intOf i).toNat)
  case atStart => exact ⟨0, Nat.zero_le _, rfl, Ext.refl _⟩
  case round =>
    obtain ⟨j, hj, rfl, hx⟩ := hrel
    by_cases hlt : j < n
    · obtain ⟨b1, o1, rfl, _, hc⟩ := (h.ext hx).cells (by omega)
      obtain ⟨b2, o2, rfl, _, hd⟩ := (k.ext hx).cells (by omega)
      have g1 := hc j hlt
      have g2 := hd j hlt
      have i1 : (j : Int) < (n : Int) := by omega
      clear hc hd h k
      go_wp2
      go_quiet (fail)
      go_wp2
      go_roundw
      case rel => exact ⟨j + 1, by omega, by go_num, hx.drewN _⟩
      case measure => simp [intOf]; omega
    · go_wp2
      go_ret
      exact ⟨rfl, hx⟩

theorem bs_string {lo : Nat} {w : World} {a : Option Addr} {n c : Nat} {bs : List Int} (h : Bs lo w a n c bs) :
    (convert 25 9 (.slice a n c)).run Try.prog w = .ok (.string (strOfNums bs)) w := by
  cases a with
  | none =>
    obtain ⟨rfl, rfl⟩ := h.nil rfl
    have e : bs = [] := List.eq_nil_of_length_eq_zero h.len
    subst e
    exact run_convert_bytes_nil w 25 5 Try.underlying25 Try.underlying5 0 0 9 Try.underlying9
  | some ad =>
    by_cases h0 : 0 < n
    · obtain ⟨b, off, ha, _, hc⟩ := h.cells h0
      cases ha
      exact run_convert_bytes_arg w 25 5 Try.underlying25 Try.underlying5 b off n c bs h.len hc 9 Try.underlying9
    · have hn : n = 0 := by omega
      subst hn
      have e : bs = [] := List.eq_nil_of_length_eq_zero h.len
      subst e
      rw [run_convert_bytes_string w 25 9 5 _ 0 c Try.underlying25 Try.underlying5 Try.underlying9, run_bytesToString w _ 0 c [] (by simp [loadCells, loadCellsFrom])]
      rfl

theorem ofNat_inj {a b : Int} (ha : 0 ≤ a ∧ a ≤ 255) (hb : 0 ≤ b ∧ b ≤ 255) (h : UInt8.ofNat a.toNat = UInt8.ofNat b.toNat) : a = b := by
  have := congrArg UInt8.toNat h
  simp at this
  omega

theorem map_inj_on : ∀ {xs ys : List Int}, (∀ z ∈ xs, 0 ≤ z ∧ z ≤ 255) → (∀ z ∈ ys, 0 ≤ z ∧ z ≤ 255) →
    (xs.map fun n => UInt8.ofNat n.toNat) = (ys.map fun n => UInt8.ofNat n.toNat) → xs = ys
  | [], [], _, _, _ => rfl
  | [], _ :: _, _, _, h => by simp at h
  | _ :: _, [], _, _, h => by simp at h
  | x :: xs, y :: ys, hx, hy, h => by
    simp only [List.map_cons, List.cons.injEq] at h
    rw [ofNat_inj (hx x (by simp)) (hy y (by simp)) h.1, map_inj_on (fun z hz => hx z (by simp [hz])) (fun z hz => hy z (by simp [hz])) h.2]

theorem strOfNums_beq {xs ys : List Int} (hx : ∀ z ∈ xs, 0 ≤ z ∧ z ≤ 255) (hy : ∀ z ∈ ys, 0 ≤ z ∧ z ≤ 255) : ((strOfNums xs).toList == (strOfNums ys).toList) = (xs == ys) := by
  rw [ByteArray.toList_eq, ByteArray.toList_eq, strOfNums_data, strOfNums_data, Bool.eq_iff_iff]
  simp only [beq_iff_eq]
  exact ⟨fun h => map_inj_on hx hy h, fun h => by rw [h]⟩

set_option maxHeartbeats 400000 in
theorem bytesEqual_any {lo lo' : Nat} (a b : Option Addr) (n m c d : Nat) (xs ys : List Int) (w : World) (h : Bs lo w a n c xs) (k : Bs lo' w b m d ys) :
    Calls Try.prog 29 #[.slice a n c, .slice b m d] w fun e w' => e = .returned (.bool (xs == ys)) ∧ w' = w := by
  have h1 := bs_string h
  have h2 := bs_string k
  have H := strOfNums_beq h.wf k.wf
  have H' : Hid _ := H
  clear H
  go_enter Try.func29, Try.ntmps29
  go_wp2
  go_ret
  exact ⟨congrArg (fun x => Ending.returned (Value.bool x)) H'.out, rfl⟩
end Go.Proofs.Qxb6606015a
