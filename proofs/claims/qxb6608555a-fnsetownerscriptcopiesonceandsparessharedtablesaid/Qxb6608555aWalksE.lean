/-
  A view's owner of a slot.
-/
import Derived.Test.Qxb6608555aWalksC
import Derived.Deep.WholeRow
namespace Go.Proofs.Qxb6608555a
open Go.RowKit
set_option maxRecDepth 100000

theorem zero43 : ∀ w, (zeroValue 43).run Try.prog w = .ok (.pointer none) w := (zero_of_info (P := Try.prog) (t := 43) (v := .pointer none) (n := 1) (by kernel_rfl)).1

/-- What a view says of a slot. -/
def ownerOf (M : ByteArray → Option Value) (p : Nat) (ss : List ByteArray) : Value := if p = 0 then .pointer none else (M (ss.getD p ByteArray.empty)).getD (.pointer none)

set_option maxHeartbeats 1000000 in
theorem owner_any {B : Nat} (vb mb tb : Nat) (own : Bool) (os : Nat → Nat) (a : Option Addr) (n c : Nat) (ss : List ByteArray) (M : ByteArray → Option Value) (sl : Nat) (w : World)
    (hv : Vw w vb mb tb own) (ht : Tb w tb os a n c) (h : Ss B w a n c ss) (hM : SMap w mb M) (hsl : sl < 16384) (hos : os sl < n) (hob : os sl ≤ 65535) (hn : n ≤ 1048576) :
    Calls Try.prog 28 #[.pointer (some ⟨vb, 0, none⟩), .int .i64 sl] w fun e w' => e = .returned (ownerOf M (os sl) ss) ∧ ∃ q, w' = w.drewN q := by
  obtain ⟨F, v0, v1, v2, v3⟩ := hv
  obtain ⟨G, t0, t1, t2⟩ := ht
  have c1 := v0.cell (i := 1) (by omega)
  have c2 := v0.cell (i := 2) (by omega)
  have c3 := t0.cell (i := sl) (by omega)
  have c4 := t0.cell (i := 16384) (by omega)
  rw [v1] at c1
  rw [v2] at c2
  rw [t1 sl hsl] at c3
  rw [t2] at c4
  obtain ⟨p, hp⟩ : ∃ p, os sl = p := ⟨_, rfl⟩
  rw [hp] at c3 hos hob
  rw [hp]
  clear v0 v1 v2 v3 t0 t1 t2 hp
  obtain ⟨b, off, rfl, hb, hc⟩ := h.cells (by omega)
  have c5 := hc p hos
  obtain ⟨s, hs⟩ : ∃ s, ss.getD p ByteArray.empty = s := ⟨_, rfl⟩
  rw [hs] at c5
  by_cases hp0 : p = 0
  · subst hp0
    have e0 : ownerOf M 0 ss = .pointer none := by simp [ownerOf]
    rw [e0]
    clear hc hs hM h
    go_enter Try.func28, Try.ntmps28
    go_wp2
    go_ret
    exact ⟨rfl, 0, rfl⟩
  · have e0 : ownerOf M p ss = (M s).getD (.pointer none) := by simp only [ownerOf, if_neg hp0, hs]
    rw [e0]
    have hlk := fun q => run_lookup_str (P := Try.prog) (hM.of_block (w' := w.drewN q) rfl) 42 9 43 (.pointer none) s Try.underlying42 Try.underlying9 zero43
    obtain ⟨x, hx⟩ : ∃ x, (M s).getD (.pointer none) = x := ⟨_, rfl⟩
    rw [hx] at hlk ⊢
    clear hc hs hM h e0 hx
    go_enter Try.func28, Try.ntmps28
    go_wp2
    go_quiet (fail)
    go_wp2
    go_ret
    exact ⟨rfl, _, rfl⟩

end Go.Proofs.Qxb6608555a
