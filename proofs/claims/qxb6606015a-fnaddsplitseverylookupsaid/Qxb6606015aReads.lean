/-
  How arguments that came in read: from the form's own reading to plain lists.
-/
import Derived.Test.Qxb6606015aParts2
import Derived.ProofKit
import Derived.OpenShut
import Derived.SizedLaws
import Derived.Deep.Slices
import Derived.Deep.Strs
namespace Go.Proofs.Qxb6606015a
open Go.RowKit Go.ChangeShapes Go.WideShapes Go.Deep
theorem cell_there {w : World} {a : Addr} {v : Value} (h : w.cell? a = some v) : a.block < w.heap.size ∧ a.spot = none := by
  unfold World.cell? at h
  split at h
  · rename_i c e fr hb
    refine ⟨(Array.getElem?_eq_some_iff.1 hb).1, ?_⟩
    cases hs : a.spot with
    | none => rfl
    | some x => rw [hs] at h; simp at h
  · cases h

/-- No string, slice or map of the datum takes more than the form's reach. -/
def Light {H : Type} (P : Program) (t : TypeId) (d : DataW H) : Prop := ∀ n ∈ d.weights P t, n ≤ reachBytes

theorem weightsAll_mem' {H : Type} {P : Program} {e : TypeId} {d : DataW H} : ∀ {l : List (DataW H)}, d ∈ l → ∀ n ∈ d.weights P e, n ∈ DataW.weightsAll P e l
  | x :: r, h, n, hn => by
    simp only [DataW.weightsAll, List.mem_append]
    rcases List.mem_cons.1 h with rfl | h
    · exact .inl hn
    · exact .inr (weightsAll_mem' h n hn)

theorem Light.slice {H : Type} {P : Program} {t e : TypeId} {elems spare : List (DataW H)} (hu : P.underlying t = some (.slice e)) (h : Light P t (.slice elems spare)) :
    (elems.length + spare.length) * P.bytesOf e ≤ reachBytes ∧ ∀ d ∈ elems, Light P e d := by
  unfold Light at h
  simp only [DataW.weights, hu] at h
  exact ⟨h _ (by simp), fun d hd n hn => h n (by simp [weightsAll_mem' hd n hn])⟩

theorem Light.ptr {H : Type} {P : Program} {t e : TypeId} {d : DataW H} (hu : P.underlying t = some (.pointer e)) (h : Light P t (.ptr d)) : Light P e d := by
  unfold Light at h
  simp only [DataW.weights, hu] at h
  exact h

theorem Light.agg {H : Type} {P : Program} {t : TypeId} {fs : Array Field} {parts : List (DataW H)} (hu : P.underlying t = some (.struct fs)) (h : Light P t (.agg parts)) {i : Nat} {f : Field} {d : DataW H} (hf : fs[i]? = some f) (hd : parts[i]? = some d) : Light P f.type d := by
  unfold Light at h
  simp only [DataW.weights, hu] at h
  exact fun n hn => h n (DataW.weights_mem_each (j := i) (by simp [hf]) hd n hn)

section
variable {H : Type} {enc : TypeId × Value → H} {P : Program} {w : World}

theorem reach_num : reachBytes = 140737488351232 := by decide

/-- A slice of bytes, read. -/
theorem read_bytes {T E fuel : Nat} {v : Value} {d : DataW H} {ps : List MemPlace} (hT : P.underlying T = some (.slice E)) (hE : P.underlying E = some (.int .u8)) (hc : P.cellsOf E = 1) (hb : P.bytesOf E = 1)
    (h : DataW.trod enc P w 0 (fun _ => true) true fuel T [v] = some (d, ps)) (hl : Light P T d) : ∃ bs, BsC 0 w v bs := by
  rcases open_slice1 hT hc h with ⟨hcs, hx⟩ | ⟨a, len, cap, m, n, V, D, Pl, hcs, _, hlc, hm, hmm, hx, hel⟩
  · simp at hcs
    exact ⟨[], none, 0, 0, hcs, rfl, Nat.le_refl _, by omega, fun z hz => by simp at hz, fun _ => ⟨rfl, rfl⟩, fun h0 => absurd h0 (by omega)⟩
  · simp at hcs
    simp only [Prod.mk.injEq] at hx
    obtain ⟨rfl, _⟩ := hx
    simp at hmm
    subst hmm
    have hb1 := (hl.slice hT).1
    rw [hb, reach_num] at hb1
    simp at hb1
    have hV : ∀ i, i < len → ∃ z, V i = .int .u8 z ∧ (Lit.int .u8 z).wf = true := by
      intro i hi
      obtain ⟨z, hz, _, hw⟩ := DataW.trod_int hE (hel i (by omega)).2
      simp at hz
      exact ⟨z, hz, hw⟩
    refine ⟨(List.range len).map (fun i => intOf (V i)), some a, len, m, hcs, by simp, hlc, by omega, ?_, fun e => (by cases e), fun h0 => ?_⟩
    · intro z hz
      obtain ⟨i, hi, rfl⟩ := List.mem_map.1 hz
      obtain ⟨z, hz, hw⟩ := hV i (List.mem_range.1 hi)
      rw [hz]
      have := bounds_u8 hw
      simp only [intOf]
      omega
    · have h1 := cell_there (hel 0 (by omega)).1
      obtain ⟨b, off, spot⟩ := a
      have hs : spot = none := by simpa [Addr.add] using h1.2
      subst hs
      refine ⟨b, off, rfl, ⟨Nat.zero_le _, by simpa [Addr.add] using h1.1⟩, fun i hi => ?_⟩
      have := (hel i (by omega)).1
      rw [Addr.add_lit] at this
      rw [this]
      obtain ⟨z, hz, hw⟩ := hV i hi
      simp [hi, hz, intOf]

/-- A pointer to a string, read. -/
theorem read_strptr {T E fuel : Nat} {v : Value} {d : DataW H} {ps : List MemPlace} (hT : P.underlying T = some (.pointer E)) (hE : P.underlying E = some .string) (hc : P.cellsOf E = 1)
    (h : DataW.trod enc P w 0 (fun _ => true) true fuel T [v] = some (d, ps)) : ∃ os, SpC 0 w v os := by
  rcases DataW.trod_pointer hT h with ⟨hcs, hx⟩ | ⟨a, cs', y, n, _, hcs, _, hcl, hy⟩
  · simp at hcs
    exact ⟨none, none, hcs, .inl ⟨rfl, rfl⟩⟩
  · simp at hcs
    obtain ⟨s, hs, _, _⟩ := DataW.trod_string hE hy
    subst hs
    rw [hc] at hcl
    have h1 : w.cell? a = some (.string s) := by
      have := (World.cells?_some hcl).2.2 0 (by omega)
      simpa [Addr.add] using this
    have h2 := cell_there h1
    obtain ⟨b, off, spot⟩ := a
    have hs : spot = none := h2.2
    subst hs
    exact ⟨some s, _, hcs, .inr ⟨b, off, s, rfl, rfl, ⟨Nat.zero_le _, h2.1⟩, h1⟩⟩

theorem add_add (a : Addr) (p q : Nat) : (a.add p).add q = a.add (p + q) := by
  unfold Addr.add
  by_cases hp : p = 0 <;> by_cases hq : q = 0 <;> simp [hp, hq, Nat.add_assoc]

/-- A slice of structs, read: each element by R. -/
theorem read_elems {D : Type} {E0 : Reads D} {T Et size fuel : Nat} {v : Value} {d : DataW H} {ps : List MemPlace} (l : Local E0 size) (hT : P.underlying T = some (.slice Et)) (hc : P.cellsOf Et = size) (hsz : 0 < size) (hb : 24 ≤ P.bytesOf Et)
    (hR : ∀ (n : Nat) (cs : List Value) (d : DataW H) (ps : List MemPlace), cs.length = size → DataW.trod enc P w 0 (fun _ => true) true n Et cs = some (d, ps) → Light P Et d → ∃ x, E0 0 w (cellsAt cs 0) x)
    (h : DataW.trod enc P w 0 (fun _ => true) true fuel T [v] = some (d, ps)) (hl : Light P T d) : ∃ a n c ds, v = .slice a n c ∧ Elems E0 size 0 w a n c ds := by
  rcases open_slice hT h with ⟨hcs, hx⟩ | ⟨a, len, cap, m, n, D', Pl, hcs, _, hlc, hm, hmm, hx, hel⟩
  · simp at hcs
    exact ⟨none, 0, 0, [], hcs, Elems.empty _ _ _ _⟩
  · simp at hcs
    simp only [Prod.mk.injEq] at hx
    obtain ⟨rfl, _⟩ := hx
    simp at hmm
    subst hmm
    obtain ⟨hb1, hle⟩ := hl.slice hT
    rw [reach_num] at hb1
    simp at hb1
    rw [hc] at hel
    have hb2 : len * 24 ≤ 140737488351232 := by
      have e1 : len + (m - len) = m := by omega
      rw [e1] at hb1
      have e2 : len * 24 ≤ m * P.bytesOf Et := Nat.mul_le_mul hlc hb
      omega
    have main : ∀ k, k ≤ len → ∃ (xs : List Value) (ds : List D), xs.length = k * size ∧ ds.length = k ∧ (∀ i, i < k * size → w.cell? (a.add i) = xs[i]?) ∧ ∀ j d, ds[j]? = some d → E0 0 w (cellsAt xs (j * size)) d := by
      intro k
      induction k with
      | zero => exact fun _ => ⟨[], [], by simp, rfl, fun i hi => by simp at hi, fun j d hj => by simp at hj⟩
      | succ k ih =>
        intro hk
        obtain ⟨xs, ds, h1, h2, h3, h4⟩ := ih (by omega)
        obtain ⟨cs', hcl, htr⟩ := hel k (by omega)
        obtain ⟨hlen, hcells⟩ := (World.cells?_some hcl).2
        obtain ⟨x, hx⟩ := hR n cs' _ _ hlen htr (hle _ (List.mem_map.2 ⟨k, List.mem_range.2 (by omega), rfl⟩))
        refine ⟨xs ++ cs', ds ++ [x], by rw [List.length_append, h1, hlen, Nat.add_mul]; omega, by simp [h2], fun i hi => ?_, elems_append l (by rw [h1, h2]) h4 (fun j d hj => ?_)⟩
        · by_cases hi2 : i < k * size
          · rw [List.getElem?_append_left (by omega)]
            exact h3 i hi2
          · rw [List.getElem?_append_right (by omega), h1]
            rw [Nat.add_mul] at hi
            have := hcells (i - k * size) (by omega)
            rw [← this]
            rw [add_add, show k * size + (i - k * size) = i by omega]
        · have hj0 : j = 0 := by
            have := (List.getElem?_eq_some_iff.1 hj).1
            simp at this; exact this
          subst hj0
          simp at hj
          subst hj
          simpa using hx
    obtain ⟨xs, ds, h1, h2, h3, h4⟩ := main len (Nat.le_refl _)
    refine ⟨some a, len, m, ds, hcs, xs, ⟨h1, hlc, by omega, fun e => (by cases e), fun h0 => ?_⟩, h2, h4⟩
    have hpos : 0 < len * size := Nat.mul_pos h0 hsz
    have hc0 := h3 0 hpos
    rw [List.getElem?_eq_getElem (by omega)] at hc0
    have h5 := cell_there hc0
    obtain ⟨b, off, spot⟩ := a
    have hs : spot = none := by simpa [Addr.add] using h5.2
    subst hs
    refine ⟨b, off, rfl, ⟨Nat.zero_le _, by simpa [Addr.add] using h5.1⟩, fun i hi => ?_⟩
    have := h3 i hi
    rwa [Addr.add_lit] at this

end
end Go.Proofs.Qxb6606015a
