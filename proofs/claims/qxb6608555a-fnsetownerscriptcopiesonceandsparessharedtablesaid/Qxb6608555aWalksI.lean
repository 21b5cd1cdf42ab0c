/-
  The wrappers: ZZsetOwner, ZZowner.
-/
import Derived.Test.Qxb6608555aWalksH
namespace Go.Proofs.Qxb6608555a
open Go.RowKit
set_option maxRecDepth 100000

set_option maxHeartbeats 400000 in
theorem zzOwner_any {B : Nat} (vb mb tb : Nat) (own : Bool) (os : Nat → Nat) (a : Option Addr) (n c : Nat) (ss : List ByteArray) (M : ByteArray → Option Value) (sl : Nat) (w : World)
    (hv : Vw w vb mb tb own) (ht : Tb w tb os a n c) (h : Ss B w a n c ss) (hM : SMap w mb M) (hsl : sl < 16384) (hos : os sl < n) (hob : os sl ≤ 65535) (hn : n ≤ 1048576) :
    Calls Try.prog 22 #[.pointer (some ⟨vb, 0, none⟩), .int .i64 sl] w fun e w' => e = .returned (ownerOf M (os sl) ss) ∧ ∃ q, w' = w.drewN q := by
  go_enter Try.func22, Try.ntmps22
  go_wp2_with (go_at_call 28; refine (owner_any vb mb tb own os a n c ss M sl w hv ht h hM hsl hos hob hn).mono ?_; rintro e w' ⟨rfl, q, rfl⟩)
  go_ret
  exact ⟨rfl, _, rfl⟩

set_option maxHeartbeats 400000 in
theorem zzSetOwner_of (vb sl : Nat) (np : Option Addr) (w : World) (R : World → Prop)
    (h : Calls Try.prog 27 #[.pointer (some ⟨vb, 0, none⟩), .int .i64 sl, .pointer np] w fun e w' => e = .returned (.tuple #[]) ∧ R w') :
    Calls Try.prog 20 #[.pointer (some ⟨vb, 0, none⟩), .int .i64 sl, .pointer np] w fun e w' => e = .returned (.tuple #[]) ∧ R w' := by
  go_enter Try.func20, Try.ntmps20
  go_wp2_with (go_at_call 27; refine h.mono ?_; rintro e w' ⟨rfl, hr⟩)
  refine Great.bodyPost_end0 Try.results20 rfl ?_
  exact ⟨rfl, hr⟩

end Go.Proofs.Qxb6608555a
