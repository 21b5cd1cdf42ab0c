/-
  Rows laid end to end; the plain lookups.
-/
import Derived.Test.Qxb6606015aParts
namespace Go.Proofs.Qxb6606015a
open Go.RowKit

/-- The cells of two rows laid end to end read as the two lists laid end to end. -/
theorem elems_append {D : Type} {E : Reads D} {size lo : Nat} {w : World} (l : Local E size) {xs ys : List Value} {ds es : List D} (hx : xs.length = ds.length * size) 
    (h1 : ∀ k d, ds[k]? = some d → E lo w (cellsAt xs (k * size)) d) (h2 : ∀ k d, es[k]? = some d → E lo w (cellsAt ys (k * size)) d) :
    ∀ k d, (ds ++ es)[k]? = some d → E lo w (cellsAt (xs ++ ys) (k * size)) d := by
  intro k d hk
  by_cases hkl : k < ds.length
  · rw [List.getElem?_append_left hkl] at hk
    refine l _ _ _ _ _ (fun j hj => ?_) (h1 k d hk)
    have h5 : (k + 1) * size ≤ ds.length * size := Nat.mul_le_mul_right _ hkl
    rw [Nat.add_mul] at h5
    simp only [cellsAt]
    rw [List.getElem?_append_left (by omega)]
  · rw [List.getElem?_append_right (by omega)] at hk
    refine l _ _ _ _ _ (fun j hj => ?_) (h2 _ d hk)
    have h6 : (k - ds.length) * size + ds.length * size = k * size := by rw [← Nat.add_mul]; congr 1; omega
    simp only [cellsAt]
    rw [List.getElem?_append_right (by omega), hx]
    congr 2
    omega

/-- One cell an element, the cells a plain image of the data. -/
theorem owned_map {D : Type} {E : Reads D} {t : TypeId} {lo : Nat} {w : World} {v : Value} {ds : List D} (f : D → Value) (hb : ds.length ≤ 5864062014634) (hE : ∀ (g : Nat → Value) (d : D), g 0 = f d → E lo w g d) (h : w.ownsRow lo t 1 v ds.length (ds.map f)) : Owned E t 1 lo w v ds := by
  refine ⟨hb, _, h, fun k d hk => hE _ d ?_⟩
  simp [cellsAt, hk]

/-- The keys' tags that a lookup hands out. -/
def tagsOf (ks : List KeyD) (impl inst : List Int) : List Int := (ks.filter (fun k => k.impl == impl && k.inst == inst)).map KeyD.tag

theorem tagsOf_snoc (ks : List KeyD) (impl inst : List Int) (k : Nat) (d : KeyD) (hd : ks[k]? = some d) :
    tagsOf (ks.take (k + 1)) impl inst = tagsOf (ks.take k) impl inst ++ (if (d.impl == impl && d.inst == inst) = true then [d.tag] else []) := by
  obtain ⟨hk, rfl⟩ := List.getElem?_eq_some_iff.1 hd
  rw [List.take_succ_eq_append_getElem hk]
  simp only [tagsOf, List.filter_append, List.map_append]
  congr 1
  by_cases h : (ks[k].impl == impl && ks[k].inst == inst) = true
  · simp only [h, if_true, List.filter_cons, List.filter_nil, List.map_cons, List.map_nil]
  · simp only [h, List.filter_cons, List.filter_nil]
    rfl

theorem tagsOf_le (ks : List KeyD) (impl inst : List Int) (k : Nat) : (tagsOf (ks.take k) impl inst).length ≤ k := by
  simp only [tagsOf, List.length_map]
  exact Nat.le_trans (List.length_filter_le _ _) (List.length_take_le _ _)


/-- The reference values that a lookup hands out. -/
def rvsOf (rs : List RvD) (impl : List Int) : List RvD := rs.filter (fun r => r.impl == impl)

theorem rvsOf_snoc (rs : List RvD) (impl : List Int) (k : Nat) (d : RvD) (hd : rs[k]? = some d) :
    rvsOf (rs.take (k + 1)) impl = rvsOf (rs.take k) impl ++ (if (d.impl == impl) = true then [d] else []) := by
  obtain ⟨hk, rfl⟩ := List.getElem?_eq_some_iff.1 hd
  rw [List.take_succ_eq_append_getElem hk]
  simp only [rvsOf, List.filter_append]
  congr 1
  by_cases h : (rs[k].impl == impl) = true
  · simp only [h, if_true, List.filter_cons, List.filter_nil]
  · simp only [h, List.filter_cons, List.filter_nil]

theorem rvsOf_le (rs : List RvD) (impl : List Int) (k : Nat) : (rvsOf (rs.take k) impl).length ≤ k :=
  Nat.le_trans (List.length_filter_le _ _) (List.length_take_le _ _)

/-- append onto a slice of the call's own that has no room: nothing old turns. -/
theorem run_append_full {P : Program} (w : World) (t ty e : TypeId) (i : TypeInfo) (z : Value) (size bytes base : Nat) (ht : P.underlying t = some (.slice e)) (hi : P.info? e = some i) (hz : i.zero = some z)
    (hsize : i.size = size) (hby : i.bytes = bytes) (hzs : z.cells.size = size) (hsz : 0 < size)
    (a0 : Option Addr) (n : Nat) (xs : List Value) (hown : w.ownsRow base e size (.slice a0 n n) n xs)
    (a1 : Option Addr) (m c1 : Nat) (news : List Value) (hl : news.length = m * size) (hnone : a1 = none → m = 0) (hnews : ∀ ad, a1 = some ad → ∀ j u, news[j]? = some u → w.cell? (ad.add j) = some u) (h1 : ∀ u ∈ news, u.oneCell' = true)
    (h63 : n + m ≤ maxLen) (hbytes : (n + m) * bytes ≤ 140737488355328) (hbase : base ≤ w.heap.size) :
    ∃ a' c' w', (Builtin.append_ #[t, t] ty #[.slice a0 n n, .slice a1 m c1]).run P w = .ok (.slice a' (n + m) c') w' ∧ w'.ownsRow base e size (.slice a' (n + m) c') (n + m) (xs ++ news) ∧ Ext w w' := by
  by_cases hm : m = 0
  · subst hm
    have e1 : news = [] := List.eq_nil_of_length_eq_zero (by simpa using hl)
    subst e1
    refine ⟨a0, n, w, ?_, by simpa using hown, Ext.refl _⟩
    cases a0 <;> cases a1 <;> simp [Builtin.append_, run_underlying ht, sizeOf, typeInfo, hi, Builtin.lenOf, Builtin.firstCells, loadCells, loadCellsFrom, storeCells]
  · cases a1 with
    | none => exact absurd (hnone rfl) hm
    | some ad =>
      have hsmall : n + m ≤ 9223372036854775807 := by simp only [maxLen] at h63; omega
      obtain ⟨v', w', hr, h2, h3, _⟩ := run_append_own (P := P) w base t ty e i z size bytes ht hi hz hsize hby hzs hsz _ n xs hown ad m c1 news hl (hnews ad rfl) h1 h63 hbytes hbase
      subst hsize
      subst hby
      rcases hown.2 with ⟨h4, h5⟩ | ⟨g, cap, cur, h4, h5, h6, h7⟩
      · subst h5
        cases h4
        have hr2 := run_append_nil (P := P) w t ty e i z ht hi hz ad m c1 news hl (hnews ad rfl) (by omega) (by omega) (by have hb := hbytes; simp only [Nat.zero_add] at hb; omega)
        rw [hr] at hr2
        injection hr2 with hv hw
        subst hv
        subst hw
        rw [Nat.zero_add] at h2 ⊢
        exact ⟨_, _, _, hr, h2, (Ext.refl _).drew.alloc _⟩
      · cases h4
        have hr2 := run_append_grow (P := P) w t ty e i z ht hi hz ⟨g, 0, none⟩ n n xs hown.1 (hown.cells (g := g) rfl) ad m c1 news hl (hnews ad rfl) (by omega) (by omega) (growslice_fits (by omega) hbytes)
        rw [hr] at hr2
        injection hr2 with hv hw
        subst hv
        subst hw
        exact ⟨_, _, _, hr, h2, (Ext.refl _).drew.alloc _⟩

/-- The same at a step of a region that draws its order. -/
theorem step_append_full {P : Program} {w : World} {ops : Array Oper} {o : Oper} {a : Act} {K : Act → World → Prop} {Q : Exit → Act → World → Prop} {E' : Prop} (hgd : o.guard = none) (s x : Operand) (t : TypeId)
    (ho : o.op = .call { callee := .builtin .append, args := #[s, x], argTypes := #[t, t] })
    (e : TypeId) (i : TypeInfo) (z : Value) (size bytes base : Nat) (ht : P.underlying t = some (.slice e)) (hi : P.info? e = some i) (hz : i.zero = some z)
    (hsize : i.size = size) (hby : i.bytes = bytes) (hzs : z.cells.size = size) (hsz : 0 < size)
    (a0 : Option Addr) (n : Nat) (xs : List Value) (hs : a.eval s = .slice a0 n n) (hown : w.ownsRow base e size (.slice a0 n n) n xs)
    (a1 : Option Addr) (m c1 : Nat) (news : List Value) (hx : a.eval x = .slice a1 m c1) (hl : news.length = m * size) (hnone : a1 = none → m = 0) (hnews : ∀ ad, a1 = some ad → ∀ j u, news[j]? = some u → w.cell? (ad.add j) = some u) (h1 : ∀ u ∈ news, u.oneCell' = true)
    (h63 : n + m ≤ maxLen) (hbytes : (n + m) * bytes ≤ 140737488355328) (hbase : base ≤ w.heap.size)
    (h : ∀ a' c' w', w'.ownsRow base e size (.slice a' (n + m) c') (n + m) (xs ++ news) → Ext w w' → K (a.put o.dst (.slice a' (n + m) c')) w') :
    if Region.wanted o (yielded ops a.tmps) = true then Oper.wp P o a w K Q else E' := by
  have hw : Region.wanted o (yielded ops a.tmps) = true := by simp [Region.wanted, hgd]
  rw [if_pos hw]
  obtain ⟨a', c', w', hr, h2, h3⟩ := run_append_full (P := P) w t o.type e i z size bytes base ht hi hz hsize hby hzs hsz a0 n xs hown a1 m c1 news hl hnone hnews h1 h63 hbytes hbase
  unfold Oper.wp execOp
  simp only [ho, resolve, invoke, builtin, Sem.run_bind, Sem.run_pure, Result.andThen_ok, List.map_toArray, List.map_cons, List.map_nil, hs, hx, hr]
  exact h a' c' w' h2 h3

/-- A slice of the call's own without spare room. -/
def OwnedF {D : Type} (E : Reads D) (t : TypeId) (size lo : Nat) (w : World) (v : Value) (ds : List D) : Prop :=
  Owned E t size lo w v ds ∧ ∃ a, v = .slice a ds.length ds.length

theorem OwnedF.keep {D : Type} {E : Reads D} {t : TypeId} {size lo : Nat} {w w' : World} {v : Value} {ds : List D} (h : OwnedF E t size lo w v ds) (g : Grows E) (e : Keeps lo w w') : OwnedF E t size lo w' v ds := ⟨h.1.keep g e, h.2⟩
theorem OwnedF.empty {D : Type} (E : Reads D) (t : TypeId) (size lo : Nat) (w : World) : OwnedF E t size lo w (.slice none 0 0) ([] : List D) := ⟨Owned.empty _ _ _ _ _, none, rfl⟩
theorem OwnedF.of_rowIs {D : Type} {E : Reads D} {size lo : Nat} {w : World} {g n : Nat} {t : TypeId} {F : Nat → Value} {ds : List D} (l : Local E size) (h : w.rowIs g t (n * size) F) (hlo : lo ≤ g) (hlen : ds.length = n) (hb : n ≤ 5864062014634)
    (hE : ∀ k d, ds[k]? = some d → E lo w (fun j => F (k * size + j)) d) : OwnedF E t size lo w (.slice (some ⟨g, 0, none⟩) n n) ds := ⟨Owned.of_rowIs l h hlo hlen hb hE, _, by rw [hlen]⟩

/-- What one Endorsements holds: its three slices, in a block of their own. -/
def EndF (B : Nat) (w : World) (v0 v1 v2 : Value) (ks : List KeyD) (rs : List RvD) (cs : List Unit) : Prop :=
  w.rowIs B 42 3 (fun j => if j = 0 then v0 else if j = 1 then v1 else v2) ∧ OwnedF AKeyC 68 3 (B + 1) w v0 ks ∧ OwnedF RvC 58 5 (B + 1) w v1 rs ∧ OwnedF AnyC 72 3 (B + 1) w v2 cs

/-- Each cell of an element is one cell. -/
def OneC {D : Type} (E : Reads D) (size : Nat) : Prop := ∀ (lo : Nat) (w : World) (f : Nat → Value) (d : D), E lo w f d → ∀ j, j < size → (f j).oneCell' = true
theorem one_akey : OneC AKeyC 3 := fun _ _ _ _ h j hj => by
  obtain ⟨⟨_, _, _, e0, _⟩, ⟨_, _, _, e1, _⟩, e2⟩ := h
  have h5 : j = 0 ∨ j = 1 ∨ j = 2 := by omega
  rcases h5 with rfl | rfl | rfl
  · rw [e0]; rfl
  · rw [e1]; rfl
  · rw [e2]; rfl
theorem one_rv : OneC RvC 5 := fun _ _ _ _ h j hj => by
  obtain ⟨⟨_, _, _, e0, _⟩, ⟨⟨_, e1, _⟩, ⟨_, e2, _⟩, ⟨_, _, _, e3, _⟩⟩, ⟨_, _, _, e4, _⟩⟩ := h
  have h5 : j = 0 ∨ j = 1 ∨ j = 2 ∨ j = 3 ∨ j = 4 := by omega
  rcases h5 with rfl | rfl | rfl | rfl | rfl
  · rw [e0]; rfl
  · rw [e1]; rfl
  · rw [e2]; rfl
  · rw [e3]; rfl
  · rw [e4]; rfl
theorem one_any : OneC AnyC 3 := fun _ _ _ _ h j hj => h j hj

theorem one_cells {D : Type} {E : Reads D} {size lo : Nat} {w : World} {xs : List Value} {ds : List D} (o : OneC E size) (hsz : 0 < size) (hx : xs.length = ds.length * size) (h : ∀ k d, ds[k]? = some d → E lo w (cellsAt xs (k * size)) d) : ∀ u ∈ xs, u.oneCell' = true := by
  intro u hu
  obtain ⟨i, hi, rfl⟩ := List.getElem_of_mem hu
  have hk : i / size < ds.length := by
    rw [hx] at hi
    exact Nat.div_lt_of_lt_mul (by rw [Nat.mul_comm]; exact hi)
  have := o _ _ _ _ (h (i / size) _ (List.getElem?_eq_getElem hk)) (i % size) (Nat.mod_lt _ hsz)
  have e1 : i / size * size + i % size = i := by rw [Nat.mul_comm]; exact Nat.div_add_mod i size
  simpa [cellsAt, e1, hi] using this

/-- All that an append of one such slice to another asks, and what it leaves. -/
structure AppendOf {D : Type} (E : Reads D) (t : TypeId) (size lo : Nat) (w : World) (a0 : Option Addr) (n : Nat) (a1 : Option Addr) (m c1 : Nat) (ds es : List D) (xs news : List Value) : Prop where
  own : w.ownsRow lo t size (.slice a0 n n) n xs
  len : news.length = m * size
  nilm : a1 = Option.none → m = 0
  src : ∀ ad, a1 = some ad → ∀ j u, news[j]? = some u → w.cell? (ad.add j) = some u
  one : ∀ u ∈ news, u.oneCell' = true
  lds : ds.length = n
  les : es.length = m
  reads : ∀ k d, (ds ++ es)[k]? = some d → E lo w (cellsAt (xs ++ news) (k * size)) d

theorem append_of {D : Type} {E : Reads D} {t : TypeId} {size lo lo' : Nat} {w : World} {v v' : Value} {ds es : List D} (l : Local E size) (o : OneC E size) (g : Grows E) (hsz : 0 < size) (hlo : lo ≤ lo')
    (h : OwnedF E t size lo w v ds) (h' : Owned E t size lo' w v' es) :
    ∃ a0 a1 c1 xs news, v = .slice a0 ds.length ds.length ∧ v' = .slice a1 es.length c1 ∧ AppendOf E t size lo w a0 ds.length a1 es.length c1 ds es xs news := by
  obtain ⟨⟨hb, xs, hown, hE⟩, a0, rfl⟩ := h
  obtain ⟨a1, c1, rfl, _, _⟩ := h'.elems
  obtain ⟨hb', news, hown', hE'⟩ := h'
  refine ⟨a0, a1, c1, xs, news, rfl, rfl, hown, hown'.1, fun e => ?_, fun ad had j u hj => ?_, one_cells o hsz hown'.1 hE', rfl, rfl, elems_append l hown.1 hE (fun k d hk => g.lower _ _ _ _ _ (hE' k d hk) hlo)⟩
  · rcases hown'.2 with ⟨_, h0⟩ | ⟨gg, _, _, hv, _⟩
    · exact h0
    · rw [e] at hv; cases hv
  · rcases hown'.2 with ⟨hv, _⟩ | ⟨gg, cap, cur, hv, h2⟩
    · rw [had] at hv; cases hv
    · rw [had] at hv
      cases hv
      subst had
      exact hown'.cells (g := gg) rfl j u hj

end Go.Proofs.Qxb6606015a
