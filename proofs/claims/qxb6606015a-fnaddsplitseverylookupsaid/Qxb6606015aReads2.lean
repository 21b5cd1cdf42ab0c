/-
  The law's own arguments, read.
-/
import Derived.Test.Qxb6606015aProg
import Derived.Test.Qxb6606015aReads
namespace Go.Proofs.Qxb6606015a
open Go.RowKit Go.ChangeShapes Go.WideShapes Go.Deep
theorem Try.cells5 : Try.prog.cellsOf 5 = 1 := by kernel_rfl
theorem Try.cells25 : Try.prog.cellsOf 25 = 1 := by kernel_rfl
theorem Try.cells3 : Try.prog.cellsOf 3 = 1 := by kernel_rfl
theorem Try.cells9 : Try.prog.cellsOf 9 = 1 := by kernel_rfl
theorem Try.cells49 : Try.prog.cellsOf 49 = 1 := by kernel_rfl
theorem Try.cells52 : Try.prog.cellsOf 52 = 1 := by kernel_rfl
theorem Try.cells60 : Try.prog.cellsOf 60 = 1 := by kernel_rfl
theorem Try.cells47 : Try.prog.cellsOf 47 = 3 := by kernel_rfl
theorem Try.cells54 : Try.prog.cellsOf 54 = 5 := by kernel_rfl
theorem Try.cells51 : Try.prog.cellsOf 51 = 3 := by kernel_rfl
theorem Try.cells62 : Try.prog.cellsOf 62 = 3 := by kernel_rfl
theorem Try.bytes5 : Try.prog.bytesOf 5 = 1 := by kernel_rfl
theorem Try.bytes25 : Try.prog.bytesOf 25 = 24 := by kernel_rfl
theorem Try.bytes47 : Try.prog.bytesOf 47 = 56 := by kernel_rfl
theorem Try.bytes54 : Try.prog.bytesOf 54 = 88 := by kernel_rfl
theorem Try.bytes51 : Try.prog.bytesOf 51 = 40 := by kernel_rfl
theorem Try.bytes62 : Try.prog.bytesOf 62 = 64 := by kernel_rfl

theorem three {α : Type} {l : List α} (h : l.length = 3) : ∃ a b c, l = [a, b, c] := by
  match l, h with
  | [a, b, c], _ => exact ⟨a, b, c, rfl⟩
theorem five {α : Type} {l : List α} (h : l.length = 5) : ∃ a b c d e, l = [a, b, c, d, e] := by
  match l, h with
  | [a, b, c, d, e], _ => exact ⟨a, b, c, d, e, rfl⟩

section
variable {H : Type} {enc : TypeId × Value → H} {w : World}
theorem read_bs {fuel : Nat} {v : Value} {d : DataW H} {ps : List MemPlace} (h : DataW.trod enc Try.prog w 0 (fun _ => true) true fuel 25 [v] = some (d, ps)) (hl : Light Try.prog 25 d) : ∃ bs, BsC 0 w v bs :=
  read_bytes Try.underlying25 Try.underlying5 Try.cells5 Try.bytes5 h hl

theorem read_key (n : Nat) (cs : List Value) (d : DataW H) (ps : List MemPlace) (hlen : cs.length = 3) (h : DataW.trod enc Try.prog w 0 (fun _ => true) true n 47 cs = some (d, ps)) (hl : Light Try.prog 47 d) : ∃ x, KeyC 0 w (cellsAt cs 0) x := by
  obtain ⟨c0, c1, c2, rfl⟩ := three hlen
  obtain ⟨xs, m, _, hx, _, hxl, hf⟩ := DataW.trod_struct Try.underlying47 h
  obtain ⟨y0, y1, y2, rfl⟩ := three hxl
  simp only [Prod.mk.injEq] at hx
  obtain ⟨rfl, _⟩ := hx
  have t0 := hf 0 _ rfl
  have t1 := hf 1 _ rfl
  have t2 := hf 2 _ rfl
  simp [Try.cells25, Try.cells3] at t0 t1 t2
  obtain ⟨b0, k0⟩ := read_bs t0 (hl.agg Try.underlying47 (i := 0) rfl rfl)
  obtain ⟨b1, k1⟩ := read_bs t1 (hl.agg Try.underlying47 (i := 1) rfl rfl)
  obtain ⟨z, hz, _, _⟩ := DataW.trod_int Try.underlying3 t2
  simp at hz
  exact ⟨⟨b0, b1, z⟩, k0, k1, hz⟩

theorem read_sp {fuel : Nat} {v : Value} {d : DataW H} {ps : List MemPlace} (h : DataW.trod enc Try.prog w 0 (fun _ => true) true fuel 49 [v] = some (d, ps)) : ∃ os, SpC 0 w v os :=
  read_strptr Try.underlying49 Try.underlying9 Try.cells9 h

theorem read_comp3 (n : Nat) (c0 c1 c2 : Value) (d : DataW H) (ps : List MemPlace) (h : DataW.trod enc Try.prog w 0 (fun _ => true) true n 51 [c0, c1, c2] = some (d, ps)) (hl : Light Try.prog 51 d) : ∃ x : CompD, SpC 0 w c0 x.mt ∧ SpC 0 w c1 x.ver ∧ BsC 0 w c2 x.signer := by
  obtain ⟨xs, m, _, hx, _, hxl, hf⟩ := DataW.trod_struct Try.underlying51 h
  obtain ⟨y0, y1, y2, rfl⟩ := three hxl
  simp only [Prod.mk.injEq] at hx
  obtain ⟨rfl, _⟩ := hx
  have t0 := hf 0 _ rfl
  have t1 := hf 1 _ rfl
  have t2 := hf 2 _ rfl
  simp [Try.cells25, Try.cells49] at t0 t1 t2
  obtain ⟨o0, k0⟩ := read_sp t0
  obtain ⟨o1, k1⟩ := read_sp t1
  obtain ⟨b2, k2⟩ := read_bs t2 (hl.agg Try.underlying51 (i := 2) rfl rfl)
  exact ⟨⟨o0, o1, b2⟩, k0, k1, k2⟩

theorem read_comp (n : Nat) (cs : List Value) (d : DataW H) (ps : List MemPlace) (hlen : cs.length = 3) (h : DataW.trod enc Try.prog w 0 (fun _ => true) true n 51 cs = some (d, ps)) (hl : Light Try.prog 51 d) : ∃ x, CompC 0 w (cellsAt cs 0) x := by
  obtain ⟨c0, c1, c2, rfl⟩ := three hlen
  exact read_comp3 n c0 c1 c2 d ps h hl

theorem read_dig (n : Nat) (cs : List Value) (d : DataW H) (ps : List MemPlace) (hlen : cs.length = 1) (h : DataW.trod enc Try.prog w 0 (fun _ => true) true n 25 cs = some (d, ps)) (hl : Light Try.prog 25 d) : ∃ x, DigC 0 w (cellsAt cs 0) x := by
  match cs, hlen with
  | [c0], _ => exact read_bs h hl

theorem read_rv (n : Nat) (cs : List Value) (d : DataW H) (ps : List MemPlace) (hlen : cs.length = 5) (h : DataW.trod enc Try.prog w 0 (fun _ => true) true n 54 cs = some (d, ps)) (hl : Light Try.prog 54 d) : ∃ x, RvC 0 w (cellsAt cs 0) x := by
  obtain ⟨c0, c1, c2, c3, c4, rfl⟩ := five hlen
  obtain ⟨xs, m, _, hx, _, hxl, hf⟩ := DataW.trod_struct Try.underlying54 h
  obtain ⟨y0, y1, y2, rfl⟩ := three hxl
  simp only [Prod.mk.injEq] at hx
  obtain ⟨rfl, _⟩ := hx
  have t0 := hf 0 _ rfl
  have t1 := hf 1 _ rfl
  have t2 := hf 2 _ rfl
  simp [Try.cells25, Try.cells51, Try.cells52] at t0 t1 t2
  obtain ⟨b0, k0⟩ := read_bs t0 (hl.agg Try.underlying54 (i := 0) rfl rfl)
  obtain ⟨cm, k1⟩ := read_comp3 _ _ _ _ _ _ t1 (hl.agg Try.underlying54 (i := 1) rfl rfl)
  obtain ⟨a, len, cap, ds, e4, k2⟩ := read_elems local_dig Try.underlying52 Try.cells25 (by omega) (by rw [Try.bytes25]; omega) read_dig t2 (hl.agg Try.underlying54 (i := 2) rfl rfl)
  exact ⟨⟨b0, cm, ds⟩, k0, k1, a, len, cap, e4, k2⟩

theorem read_cert (n : Nat) (cs : List Value) (d : DataW H) (ps : List MemPlace) (hlen : cs.length = 3) (h : DataW.trod enc Try.prog w 0 (fun _ => true) true n 62 cs = some (d, ps)) (hl : Light Try.prog 62 d) : ∃ x, CertC 0 w (cellsAt cs 0) x := by
  obtain ⟨c0, c1, c2, rfl⟩ := three hlen
  obtain ⟨xs, m, _, hx, _, hxl, hf⟩ := DataW.trod_struct Try.underlying62 h
  obtain ⟨y0, y1, y2, rfl⟩ := three hxl
  simp only [Prod.mk.injEq] at hx
  obtain ⟨rfl, _⟩ := hx
  have t0 := hf 0 _ rfl
  have t1 := hf 1 _ rfl
  have t2 := hf 2 _ rfl
  simp [Try.cells25, Try.cells60, Try.cells9] at t0 t1 t2
  obtain ⟨b0, k0⟩ := read_bs t0 (hl.agg Try.underlying62 (i := 0) rfl rfl)
  obtain ⟨a, len, cap, ds, e1, k1⟩ := read_elems local_comp Try.underlying60 Try.cells51 (by omega) (by rw [Try.bytes51]; omega) read_comp t1 (hl.agg Try.underlying62 (i := 1) rfl rfl)
  obtain ⟨s, hs, _, _⟩ := DataW.trod_string Try.underlying9 t2
  simp at hs
  exact ⟨(), ⟨b0, k0⟩, ⟨a, len, cap, ds, e1, k1⟩, s, hs⟩

theorem local_cert : Local CertC 3 := fun _ _ _ _ _ e h => by
  unfold CertC at h ⊢
  rw [← e 0 (by omega), ← e 1 (by omega), ← e 2 (by omega)]; exact h

theorem arg_keys {a : Option Addr} {n c : Nat} {d : DataW H} {ps : List MemPlace} (h : DataW.Trod enc Try.prog w 0 (fun _ => true) true 22 (.slice a n c) d ps) (hl : Light Try.prog 22 d) : ∃ ks, Elems KeyC 3 0 w a n c ks := by
  obtain ⟨fuel, hf⟩ := h
  obtain ⟨a', n', c', ds, e, k⟩ := read_elems local_key Try.underlying22 Try.cells47 (by omega) (by rw [Try.bytes47]; omega) read_key (by simpa [Value.cells] using hf) hl
  cases e
  exact ⟨ds, k⟩
theorem arg_rvs {a : Option Addr} {n c : Nat} {d : DataW H} {ps : List MemPlace} (h : DataW.Trod enc Try.prog w 0 (fun _ => true) true 23 (.slice a n c) d ps) (hl : Light Try.prog 23 d) : ∃ ks, Elems RvC 5 0 w a n c ks := by
  obtain ⟨fuel, hf⟩ := h
  obtain ⟨a', n', c', ds, e, k⟩ := read_elems local_rv Try.underlying23 Try.cells54 (by omega) (by rw [Try.bytes54]; omega) read_rv (by simpa [Value.cells] using hf) hl
  cases e
  exact ⟨ds, k⟩
theorem arg_certs {a : Option Addr} {n c : Nat} {d : DataW H} {ps : List MemPlace} (h : DataW.Trod enc Try.prog w 0 (fun _ => true) true 24 (.slice a n c) d ps) (hl : Light Try.prog 24 d) : ∃ ks, Elems CertC 3 0 w a n c ks := by
  obtain ⟨fuel, hf⟩ := h
  obtain ⟨a', n', c', ds, e, k⟩ := read_elems local_cert Try.underlying24 Try.cells62 (by omega) (by rw [Try.bytes62]; omega) read_cert (by simpa [Value.cells] using hf) hl
  cases e
  exact ⟨ds, k⟩
theorem arg_bytes {a : Option Addr} {n c : Nat} {d : DataW H} {ps : List MemPlace} (h : DataW.Trod enc Try.prog w 0 (fun _ => true) true 25 (.slice a n c) d ps) (hl : Light Try.prog 25 d) : ∃ bs, Bs 0 w a n c bs := by
  obtain ⟨fuel, hf⟩ := h
  obtain ⟨bs, a', n', c', e, k⟩ := read_bs (by simpa [Value.cells] using hf) hl
  cases e
  exact ⟨bs, k⟩
end
end Go.Proofs.Qxb6606015a
