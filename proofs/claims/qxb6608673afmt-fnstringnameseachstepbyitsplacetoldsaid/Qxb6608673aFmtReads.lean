/-
  The law's own argument and the listed table, read.
-/
import Derived.Test.Qxb6608673aFmtRows
import Derived.Test.Qxb6608673aFmtLaw
import Derived.ProofKit
import Derived.OpenShut
import Derived.OpenVars
import Derived.LaidMore
import Derived.Lay
import Derived.LaidOnce
import Derived.Deep.Slices
import Derived.Deep.Strs
namespace Go.Proofs.Qxb6608673aFmt
open Go.RowKit Go.ChangeShapes Go.WideShapes Go.Deep
open Go.Extern.Stop Go.Stop Go.Extern
theorem Tryf.cells26 : Tryf.prog.cellsOf 26 = 1 := by kernel_rfl
theorem Tryf.cells4 : Tryf.prog.cellsOf 4 = 1 := by kernel_rfl
theorem Tryf.cells3 : Tryf.prog.cellsOf 3 = 1 := by kernel_rfl
theorem Tryf.cells9 : Tryf.prog.cellsOf 9 = 1 := by kernel_rfl
theorem Tryf.cells28 : Tryf.prog.cellsOf 28 = 4 := by kernel_rfl
theorem Tryf.cells33 : Tryf.prog.cellsOf 33 = 2 := by kernel_rfl
theorem Tryf.cells34 : Tryf.prog.cellsOf 34 = 42 := by kernel_rfl

theorem cell_there {w : World} {a : Addr} {v : Value} (h : w.cell? a = some v) : a.block < w.heap.size ∧ a.spot = none := by
  unfold World.cell? at h
  split at h
  · rename_i c e fr hb
    refine ⟨(Array.getElem?_eq_some_iff.1 hb).1, ?_⟩
    cases hs : a.spot with
    | none => rfl
    | some x => rw [hs] at h; simp at h
  · cases h
theorem four {α : Type} {l : List α} (h : l.length = 4) : ∃ a b c d, l = [a, b, c, d] := by
  match l, h with
  | [a, b, c, d], _ => exact ⟨a, b, c, d, rfl⟩
theorem two {α : Type} {l : List α} (h : l.length = 2) : ∃ a b, l = [a, b] := by
  match l, h with
  | [a, b], _ => exact ⟨a, b, rfl⟩

/-- A row of the table, as the card lists it: a name that is not empty and not long. -/
def okRow {H : Type} : DataW H → Bool
  | .agg [.lit (.string l), .lit (.bool _)] => decide (0 < l.length) && decide (l.length ≤ 100)
  | _ => false
theorem okRow_of {H : Type} {d : DataW H} (h : okRow d = true) : ∃ l b, d = .agg [.lit (.string l), .lit (.bool b)] ∧ 0 < l.length ∧ l.length ≤ 100 := by
  unfold okRow at h
  split at h
  · rename_i l b
    simp at h
    exact ⟨l, b, rfl, h.1, h.2⟩
  · cases h
theorem rows_ok : ∃ L : List (DataW Unit), Rows.laid_example_com_peerwright_peerwright_sim_scenarioFields = .agg L ∧ L.all okRow = true := ⟨_, rfl, by kernel_rfl⟩

/-- The listed table, as the walks read it. -/
theorem table {W : World} (h : laidMetH Tryf.prog Rows.fnStringNamesEachStepByItsPlaceRow.laid W) : ∃ nf, Tab W nf ∧ ∀ i, i < 21 → 0 < (nf i).size ∧ (nf i).size ≤ 100 := by
  rw [MakeChecks.laidMetH_plain _ _ _ (by kernel_rfl)] at h
  obtain ⟨ps, ⟨g, t, cs, fuel, p, q, hg, ht, hv, hd, _, _⟩, _, _⟩ := h
  obtain rfl := Option.some.inj ((show Tryf.prog.globalNamed _ = some 0 by kernel_rfl).symm.trans hg)
  obtain rfl := Option.some.inj ((show (Tryf.prog.globals[0]?).map (·.type) = some 34 by kernel_rfl).symm.trans ht)
  have hcell := fun j => World.var?_cell hg hv j
  obtain ⟨L, hL, hok⟩ := rows_ok
  rw [hL] at hd
  obtain ⟨xs, m, _, ex, hlen, hl, hel⟩ := DataW.trod_array Tryf.underlying34 hd
  rw [Tryf.cells34] at hlen
  have e3 : L = xs.map (·.1) := DataW.agg.inj (Prod.mk.inj ex).1
  have key : ∀ i, i < 21 → ∃ s : ByteArray, W.cell? ⟨0, i * 2, none⟩ = some (.string s) ∧ 0 < s.size ∧ s.size ≤ 100 := by
    intro i hi
    have k0 := hel i hi
    rw [Tryf.cells33, List.getElem?_eq_getElem (by omega)] at k0
    have hd2 : okRow (xs[i]'(by omega)).1 = true := by
      refine List.all_eq_true.1 hok _ ?_
      rw [e3]
      exact List.mem_map.2 ⟨_, List.getElem_mem _, rfl⟩
    obtain ⟨l, b, hdd, l1, l2⟩ := okRow_of hd2
    obtain ⟨ys, m2, _, hx, hlen2, hxl, hf⟩ := DataW.trod_struct Tryf.underlying33 k0
    obtain ⟨y0, y1, rfl⟩ := two hxl
    have t0 := hf 0 _ rfl
    simp [Tryf.cells9] at t0
    obtain ⟨s, hs, hs2, _⟩ := DataW.trod_string Tryf.underlying9 t0
    have hy : DataW.agg [y0.1, y1.1] = .agg [.lit (.string l), .lit (.bool b)] := by
      rw [← hdd, hx]
      rfl
    simp at hy
    have hl2 : s.data.toList = l := by
      rw [hs2] at hy
      simpa using hy.1
    refine ⟨s, ?_, ?_, ?_⟩
    · rw [hcell]
      have h5 := congrArg (fun l => l[0]?) hs
      simp at h5
      exact h5
    · have : s.size = l.length := by rw [← hl2, Array.length_toList]; rfl
      omega
    · have : s.size = l.length := by rw [← hl2, Array.length_toList]; rfl
      omega
  refine ⟨fun i => match W.cell? ⟨0, i * 2, none⟩ with | some (.string s) => s | _ => ByteArray.empty, ⟨?_, fun i hi => ?_⟩, fun i hi => ?_⟩
  · obtain ⟨s, h1, _⟩ := key 0 (by omega)
    exact (cell_there h1).1
  · obtain ⟨s, h1, _⟩ := key i hi
    simp only [h1]
  · obtain ⟨s, h1, h2, h3⟩ := key i hi
    simp only [h1]
    exact ⟨h2, h3⟩

section
variable {H : Type} {enc : TypeId × Value → H} {w : World}
/-- A step, read. -/
theorem read_step (n : Nat) (cs : List Value) (d : DataW H) (ps : List MemPlace) (hlen : cs.length = 4) (h : DataW.trod enc Tryf.prog w 0 (fun _ => true) true n 28 cs = some (d, ps)) :
    ∃ z e y s, cs = [.int .i64 z, .bool e, .int .i64 y, .string s] ∧ (Lit.int .i64 z).wf = true ∧ (Lit.int .i64 y).wf = true := by
  obtain ⟨c0, c1, c2, c3, rfl⟩ := four hlen
  obtain ⟨xs, m, _, hx, _, hxl, hf⟩ := DataW.trod_struct Tryf.underlying28 h
  obtain ⟨y0, y1, y2, y3, rfl⟩ := four hxl
  have t0 := hf 0 _ rfl
  have t1 := hf 1 _ rfl
  have t2 := hf 2 _ rfl
  have t3 := hf 3 _ rfl
  simp [Tryf.cells26, Tryf.cells4, Tryf.cells3, Tryf.cells9] at t0 t1 t2 t3
  obtain ⟨z, hz, _, wz⟩ := DataW.trod_int Tryf.underlying26 t0
  obtain ⟨e, he, _⟩ := DataW.trod_bool Tryf.underlying4 t1
  obtain ⟨y, hy, _, wy⟩ := DataW.trod_int Tryf.underlying3 t2
  obtain ⟨s, hs, _, _⟩ := DataW.trod_string Tryf.underlying9 t3
  simp at hz he hy hs
  exact ⟨z, e, y, s, by rw [hz, he, hy, hs], wz, wy⟩

theorem add_add (a : Addr) (p q : Nat) : (a.add p).add q = a.add (p + q) := by
  unfold Addr.add
  by_cases hp : p = 0 <;> by_cases hq : q = 0 <;> simp [hp, hq, Nat.add_assoc]

/-- A path, read. -/
theorem read_path {a : Option Addr} {n c : Nat} {d : DataW H} {ps : List MemPlace} (h0 : DataW.Trod enc Tryf.prog w 0 (fun _ => true) true 23 (.slice a n c) d ps) :
    ∃ fd en ix ky, Ps w.heap.size w a n c fd en ix ky ∧ ∀ i, i < n → (Lit.int .i64 (fd i)).wf = true ∧ (Lit.int .i64 (ix i)).wf = true := by
  obtain ⟨fuel, h⟩ := h0
  rcases open_slice Tryf.underlying23 h with ⟨hcs, hx⟩ | ⟨a', len, cap, m, n', D', Pl, hcs, _, hlc, hm, hmm, hx, hel⟩
  · change [Value.slice a n c] = _ at hcs
    simp at hcs
    obtain ⟨rfl, rfl, rfl⟩ := hcs
    exact ⟨fun _ => 0, fun _ => false, fun _ => 0, fun _ => ByteArray.empty, ⟨Nat.le_refl _, fun _ => ⟨rfl, rfl⟩, fun h0 => absurd h0 (by omega)⟩, fun i hi => absurd hi (by omega)⟩
  · change [Value.slice a n c] = _ at hcs
    simp at hcs
    obtain ⟨rfl, rfl, rfl⟩ := hcs
    simp at hmm
    subst hmm
    rw [Tryf.cells28] at hel
    have key : ∀ i, i < n → ∃ z e y s, (w.cell? (a'.add (i * 4)) = some (.int .i64 z) ∧ w.cell? (a'.add (i * 4 + 1)) = some (.bool e) ∧ w.cell? (a'.add (i * 4 + 2)) = some (.int .i64 y) ∧ w.cell? (a'.add (i * 4 + 3)) = some (.string s)) ∧ (Lit.int .i64 z).wf = true ∧ (Lit.int .i64 y).wf = true := by
      intro i hi
      obtain ⟨cs', hcl, htr⟩ := hel i (by omega)
      obtain ⟨hlen, hcells⟩ := (World.cells?_some hcl).2
      obtain ⟨z, e, y, s, rfl, wz, wy⟩ := read_step n' cs' _ _ hlen htr
      have k0 := hcells 0 (by omega)
      have k1 := hcells 1 (by omega)
      have k2 := hcells 2 (by omega)
      have k3 := hcells 3 (by omega)
      rw [add_add] at k0 k1 k2 k3
      exact ⟨z, e, y, s, ⟨by simpa using k0, by simpa using k1, by simpa using k2, by simpa using k3⟩, wz, wy⟩
    refine ⟨fun i => match w.cell? (a'.add (i * 4)) with | some (.int _ z) => z | _ => 0, fun i => match w.cell? (a'.add (i * 4 + 1)) with | some (.bool b) => b | _ => false, fun i => match w.cell? (a'.add (i * 4 + 2)) with | some (.int _ z) => z | _ => 0, fun i => match w.cell? (a'.add (i * 4 + 3)) with | some (.string s) => s | _ => ByteArray.empty, ⟨hlc, fun e => (by cases e), fun h0 => ?_⟩, fun i hi => ?_⟩
    · obtain ⟨z, e, y, s, ⟨k0, _⟩, _⟩ := key 0 h0
      have h1 := cell_there k0
      obtain ⟨b, off, spot⟩ := a'
      have hs : spot = none := by simpa [Addr.add] using h1.2
      subst hs
      refine ⟨b, off, rfl, by simpa [Addr.add] using h1.1, fun i hi => ?_⟩
      obtain ⟨z, e, y, s, ⟨k0, k1, k2, k3⟩, _⟩ := key i hi
      simp only [k0, k1, k2, k3]
      simp only [Addr.add_lit, ← Nat.add_assoc] at k0 k1 k2 k3
      exact ⟨k0, k1, k2, k3⟩
    · obtain ⟨z, e, y, s, ⟨k0, k1, k2, k3⟩, w1, w2⟩ := key i hi
      simp only [k0, k2]
      exact ⟨w1, w2⟩
end
/-- What fmt tells is short, and not empty. -/
theorem told_sizes (F : Interp) (nf : Nat → ByteArray) (hnf : ∀ i, i < 21 → 0 < (nf i).size ∧ (nf i).size ≤ 100) (f x : Int) (wf : (Lit.int .i64 f).wf = true) (wx : (Lit.int .i64 x).wf = true) :
    (fname F.told nf f).size ≤ 100 ∧ 0 < (fname F.told nf f).size ∧ (FmtStop.textOf (F.told "fmt.Sprintf" (readA x) 0)).size ≤ 100 := by
  have hA : (FmtStop.textOf (F.told "fmt.Sprintf" (readA x) 0)).size = (textA x).length := by rw [← told_A F x wx, Array.length_toList]; rfl
  have hB : (FmtStop.textOf (F.told "fmt.Sprintf" (readB f) 0)).size = (textB f).length := by rw [← told_B F f wf, Array.length_toList]; rfl
  have lA := FmtText.itoa_length_le wx
  have lB := FmtText.itoa_length_le wf
  have eA : (textA x).length = (Lib.itoa x).length + 2 := by simp [textA]
  have eB : (textB f).length = (Lib.itoa f).length + 15 := by simp [textB]
  refine ⟨?_, ?_, by omega⟩
  · unfold fname
    split
    · exact (hnf _ (by omega)).2
    · omega
  · unfold fname
    split
    · exact (hnf _ (by omega)).1
    · omega
end Go.Proofs.Qxb6608673aFmt
