/-
  What the walks of this seat say of memory: slices of bytes, rows of structs, each told by plain lists; all of it stands in every world that has only grown, and behind stores into older blocks.
-/
import Derived.WalkKit
import Derived.WalkSpells
import Derived.WalkLawsBesides
import Derived.Laws.CopyOwn
import Derived.Deep.AppendLies
import Derived.Deep.OwnRows
namespace Go.Proofs.Qxb6606015a
open Go.RowKit

/-! ### Two relations between worlds -/
/-- w' is w with more blocks; nothing old has turned. -/
def Ext (w w' : World) : Prop := Below w.heap.size w w'

theorem Ext.refl (w : World) : Ext w w := Below.refl _ _
theorem Ext.trans {a b c : World} (h : Ext a b) (k : Ext b c) : Ext a c := Below.trans h (Below.mono k h.size)
theorem Ext.alloc {a w : World} (h : Ext a w) (o : Obj) : Ext a (w.alloc o) := Below.alloc h h.size o
theorem Ext.drew {a w : World} (h : Ext a w) : Ext a w.drew := Below.drew h
theorem Ext.drewN {a w : World} (h : Ext a w) : ∀ n, Ext a (w.drewN n)
  | 0 => h
  | n + 1 => by
    have := Ext.drewN h n
    exact ⟨h.os, h.tape, h.output, h.size, h.block⟩
theorem Ext.cell {w w' : World} (h : Ext w w') {p : Addr} (hp : p.block < w.heap.size) : w'.cell? p = w.cell? p := Below.cell h hp
theorem Ext.frozen {w w' : World} (h : Ext w w') {p : Addr} (hp : p.block < w.heap.size) : w'.frozen? p = w.frozen? p := Below.frozen h hp
theorem Ext.setCell {a w : World} (h : Ext a w) {p : Addr} (hp : a.heap.size ≤ p.block) (u : Value) : Ext a (w.setCell p u) := Below.setCell h hp u
theorem Ext.le {w w' : World} (h : Ext w w') : w.heap.size ≤ w'.heap.size := h.size

/-- The blocks from lo on that lay in w are in w' as they were. -/
def Keeps (lo : Nat) (w w' : World) : Prop := w.heap.size ≤ w'.heap.size ∧ ∀ k, lo ≤ k → k < w.heap.size → w'.heap[k]? = w.heap[k]?

theorem Ext.keeps {w w' : World} (h : Ext w w') (lo : Nat) : Keeps lo w w' := ⟨h.size, fun k _ hk => h.block k hk⟩
theorem Keeps.trans {lo : Nat} {a b c : World} (h : Keeps lo a b) (k : Keeps lo b c) : Keeps lo a c :=
  ⟨Nat.le_trans h.1 k.1, fun i h1 h2 => (k.2 i h1 (Nat.lt_of_lt_of_le h2 h.1)).trans (h.2 i h1 h2)⟩
theorem Keeps.refl (lo : Nat) (w : World) : Keeps lo w w := ⟨Nat.le_refl _, fun _ _ _ => rfl⟩
theorem Keeps.mono {lo lo' : Nat} {w w' : World} (h : Keeps lo w w') (hl : lo ≤ lo') : Keeps lo' w w' := ⟨h.1, fun k h1 h2 => h.2 k (Nat.le_trans hl h1) h2⟩
theorem Keeps.setCell {lo : Nat} {a w : World} (h : Keeps lo a w) {p : Addr} (hp : p.block < lo) (u : Value) : Keeps lo a (w.setCell p u) :=
  h.trans ⟨by simp [World.setCell], fun k h1 _ => Below.heap_setCell _ _ _ _ (by omega)⟩
theorem Keeps.setNew {lo : Nat} {a w : World} (h : Keeps lo a w) {p : Addr} (hp : a.heap.size ≤ p.block) (u : Value) : Keeps lo a (w.setCell p u) :=
  ⟨by simp only [World.setCell, Array.size_modify]; exact h.1, fun k h1 h2 => (Below.heap_setCell _ _ _ _ (by omega)).trans (h.2 k h1 h2)⟩
theorem Keeps.alloc {lo : Nat} {a w : World} (h : Keeps lo a w) (o : Obj) : Keeps lo a (w.alloc o) :=
  h.trans ⟨by simp, fun k _ hk => Below.heap_alloc _ _ _ hk⟩
theorem Keeps.cell {lo : Nat} {w w' : World} (h : Keeps lo w w') {p : Addr} (h1 : lo ≤ p.block) (h2 : p.block < w.heap.size) : w'.cell? p = w.cell? p :=
  World.cell?_of_block (h.2 p.block h1 h2)
theorem Keeps.le {lo : Nat} {w w' : World} (h : Keeps lo w w') : w.heap.size ≤ w'.heap.size := h.1

/-! ### Slices of bytes, pointers to strings -/
structure Bs (lo : Nat) (w : World) (a : Option Addr) (n c : Nat) (bs : List Int) : Prop where
  len : bs.length = n
  cap : n ≤ c
  bound : n ≤ 140737488351232
  wf : ∀ z ∈ bs, 0 ≤ z ∧ z ≤ 255
  nil : a = none → n = 0 ∧ c = 0
  cells : 0 < n → ∃ b off, a = some ⟨b, off, none⟩ ∧ (lo ≤ b ∧ b < w.heap.size) ∧ ∀ i, i < n → w.cell? ⟨b, off + i, none⟩ = some (.int .u8 (bs.getD i 0))

theorem Bs.keep {lo : Nat} {w w' : World} {a : Option Addr} {n c : Nat} {bs : List Int} (h : Bs lo w a n c bs) (e : Keeps lo w w') : Bs lo w' a n c bs :=
  ⟨h.len, h.cap, h.bound, h.wf, h.nil, fun hn => by
    obtain ⟨b, off, ha, hb, hc⟩ := h.cells hn
    exact ⟨b, off, ha, ⟨hb.1, Nat.lt_of_lt_of_le hb.2 e.le⟩, fun i hi => by rw [e.cell (p := ⟨b, off + i, none⟩) hb.1 hb.2]; exact hc i hi⟩⟩
theorem Bs.ext {lo : Nat} {w w' : World} {a : Option Addr} {n c : Nat} {bs : List Int} (h : Bs lo w a n c bs) (e : Ext w w') : Bs lo w' a n c bs := h.keep (e.keeps _)
theorem Bs.lower {lo lo' : Nat} {w : World} {a : Option Addr} {n c : Nat} {bs : List Int} (h : Bs lo w a n c bs) (hl : lo' ≤ lo) : Bs lo' w a n c bs :=
  ⟨h.len, h.cap, h.bound, h.wf, h.nil, fun hn => by
    obtain ⟨b, off, ha, hb, hc⟩ := h.cells hn
    exact ⟨b, off, ha, ⟨Nat.le_trans hl hb.1, hb.2⟩, hc⟩⟩

/-- A pointer to a string, or nil. -/
def Sp (lo : Nat) (w : World) (p : Option Addr) (os : Option ByteArray) : Prop :=
  (p = none ∧ os = none) ∨ ∃ b off s, p = some ⟨b, off, none⟩ ∧ os = some s ∧ (lo ≤ b ∧ b < w.heap.size) ∧ w.cell? ⟨b, off, none⟩ = some (.string s)

theorem Sp.keep {lo : Nat} {w w' : World} {p : Option Addr} {os : Option ByteArray} (h : Sp lo w p os) (e : Keeps lo w w') : Sp lo w' p os := by
  rcases h with h | ⟨b, off, s, h1, h2, h3, h4⟩
  · exact .inl h
  · exact .inr ⟨b, off, s, h1, h2, ⟨h3.1, Nat.lt_of_lt_of_le h3.2 e.le⟩, by rw [e.cell (p := ⟨b, off, none⟩) h3.1 h3.2]; exact h4⟩
theorem Sp.ext {lo : Nat} {w w' : World} {p : Option Addr} {os : Option ByteArray} (h : Sp lo w p os) (e : Ext w w') : Sp lo w' p os := h.keep (e.keeps _)
theorem Sp.lower {lo lo' : Nat} {w : World} {p : Option Addr} {os : Option ByteArray} (h : Sp lo w p os) (hl : lo' ≤ lo) : Sp lo' w p os := by
  rcases h with h | ⟨b, off, s, h1, h2, h3, h4⟩
  · exact .inl h
  · exact .inr ⟨b, off, s, h1, h2, ⟨Nat.le_trans hl h3.1, h3.2⟩, h4⟩

/-! ### New blocks -/
theorem alloc_old (w : World) (o : Obj) {k : Nat} (h : k < w.heap.size) : (w.alloc o).heap[k]? = w.heap[k]? := by
  show (w.heap.push o)[k]? = w.heap[k]?
  rw [Array.getElem?_push, if_neg (Nat.ne_of_lt h)]
theorem alloc_new (w : World) (o : Obj) : (w.alloc o).heap[w.heap.size]? = some o := by
  show (w.heap.push o)[w.heap.size]? = some o
  simp

theorem setRow_alloc (w : World) (cs cs' : Array Value) (e : TypeId) (fr : Nat × Nat) : (w.alloc (.cells cs e fr)).setRow w.heap.size cs' = w.alloc (.cells cs' e fr) := by
  show ({ w with heap := (w.heap.push (.cells cs e fr)).modify w.heap.size _ } : World) = { w with heap := w.heap.push (.cells cs' e fr) }
  congr 1
  apply Array.ext (by simp)
  intro i h1 h2
  simp only [Array.getElem_modify, Array.getElem_push]
  simp at h1
  by_cases hi : i < w.heap.size
  · have : w.heap.size ≠ i := by omega
    simp [hi, this]
  · have : w.heap.size = i := by omega
    simp [this]

theorem copy_fresh {P : Program} (w : World) (dT sT ty elem : TypeId) (hu : P.underlying dT = some (.slice elem)) (hs : (P.info? elem).map (·.size) = some 1)
    (ad : Addr) (n c : Nat) (cs : List Value) (z : Value) (hn : cs.length = n) (hlt : 0 < n → ad.block < w.heap.size)
    (hsrc : ∀ j v, cs[j]? = some v → w.cell? (ad.add j) = some v) (h1 : ∀ v ∈ cs, v.oneCell' = true) :
    (Builtin.copy_ #[dT, sT] ty #[.slice (some ⟨w.heap.size, 0, none⟩) n n, .slice (some ad) n c]).run P (w.alloc (.cells (madeCells #[z] n) elem)) =
      .ok (goInt n) (w.alloc (.cells cs.toArray elem)) := by
  by_cases h0 : n = 0
  · subst h0
    have e1 : cs = [] := List.eq_nil_of_length_eq_zero hn
    subst e1
    have e2 : madeCells #[z] 0 = #[] := by simp [madeCells]
    rw [e2]
    exact run_copy_none (P := P) _ dT sT ty elem _ _ 0 0 0 c hu hs rfl
  · have hb := hlt (by omega)
    have hrun := run_copy_row (P := P) (w.alloc (.cells (madeCells #[z] n) elem)) dT sT ty elem w.heap.size 0 n n ad n c (madeCells #[z] n) elem cs hu hs (alloc_new _ _) (by simp [hn])
      (fun j v hj => by
        have := hsrc j v hj
        rw [← this]
        exact World.cell?_of_block (by
          have eb : (ad.add j).block = ad.block := by unfold Addr.add; split <;> rfl
          rw [eb]; exact alloc_old _ _ hb)) (by simp [size_madeCells, hn]) h1
    rw [hrun]
    have e3 : (List.take 0 (madeCells #[z] n).toList ++ cs ++ List.drop (0 + cs.length) (madeCells #[z] n).toList) = cs := by
      simp [size_madeCells, hn]
    rw [e3, hn, setRow_alloc]

theorem getD_map_int (k : IntKind) (bs : List Int) (j : Nat) (v : Value) (h : (bs.map (Value.int k))[j]? = some v) : j < bs.length ∧ v = .int k (bs.getD j 0) := by
  obtain ⟨hj, hv⟩ := List.getElem?_eq_some_iff.1 h
  simp at hj hv
  exact ⟨hj, by simp [← hv, hj]⟩

/-! ### Rows of structs -/
/-- A row of n elements of 'size' cells each: the cells, one list. -/
structure Row (lo : Nat) (w : World) (size : Nat) (a : Option Addr) (n c : Nat) (xs : List Value) : Prop where
  len : xs.length = n * size
  cap : n ≤ c
  bound : n ≤ 5864062014634
  nil : a = none → n = 0 ∧ c = 0
  cells : 0 < n → ∃ b off, a = some ⟨b, off, none⟩ ∧ (lo ≤ b ∧ b < w.heap.size) ∧ ∀ i, i < n * size → w.cell? ⟨b, off + i, none⟩ = xs[i]?

theorem Row.keep {lo : Nat} {w w' : World} {size : Nat} {a : Option Addr} {n c : Nat} {xs : List Value} (h : Row lo w size a n c xs) (e : Keeps lo w w') : Row lo w' size a n c xs :=
  ⟨h.len, h.cap, h.bound, h.nil, fun hn => by
    obtain ⟨b, off, ha, hb, hc⟩ := h.cells hn
    exact ⟨b, off, ha, ⟨hb.1, Nat.lt_of_lt_of_le hb.2 e.le⟩, fun i hi => by rw [e.cell (p := ⟨b, off + i, none⟩) hb.1 hb.2]; exact hc i hi⟩⟩
theorem Row.lower {lo lo' : Nat} {w : World} {size : Nat} {a : Option Addr} {n c : Nat} {xs : List Value} (h : Row lo w size a n c xs) (hl : lo' ≤ lo) : Row lo' w size a n c xs :=
  ⟨h.len, h.cap, h.bound, h.nil, fun hn => by
    obtain ⟨b, off, ha, hb, hc⟩ := h.cells hn
    exact ⟨b, off, ha, ⟨Nat.le_trans hl hb.1, hb.2⟩, hc⟩⟩

/-- The cells from place k on, by their number. -/
def cellsAt (xs : List Value) (k : Nat) : Nat → Value := fun j => (xs[k + j]?).getD undef

/-- How one element reads: from which block on, in which world, its cells, the datum. -/
abbrev Reads (D : Type) : Type := Nat → World → (Nat → Value) → D → Prop

/-- A slice whose elements read as the list ds says, each by E. -/
def Elems {D : Type} (E : Reads D) (size : Nat) (lo : Nat) (w : World) (a : Option Addr) (n c : Nat) (ds : List D) : Prop :=
  ∃ xs, Row lo w size a n c xs ∧ ds.length = n ∧ ∀ k d, ds[k]? = some d → E lo w (cellsAt xs (k * size)) d

/-- What holds of an element holds behind everything that leaves its blocks alone. -/
structure Grows {D : Type} (E : Reads D) : Prop where
  keep : ∀ (lo : Nat) (w w' : World) (f : Nat → Value) (d : D), E lo w f d → Keeps lo w w' → E lo w' f d
  lower : ∀ (lo lo' : Nat) (w : World) (f : Nat → Value) (d : D), E lo w f d → lo' ≤ lo → E lo' w f d

theorem Elems.keep {D : Type} {E : Reads D} {size lo : Nat} {w w' : World} {a : Option Addr} {n c : Nat} {ds : List D} (h : Elems E size lo w a n c ds) (g : Grows E) (e : Keeps lo w w') : Elems E size lo w' a n c ds := by
  obtain ⟨xs, h1, h2, h3⟩ := h
  exact ⟨xs, h1.keep e, h2, fun k d hk => g.keep _ _ _ _ _ (h3 k d hk) e⟩
theorem Elems.ext {D : Type} {E : Reads D} {size lo : Nat} {w w' : World} {a : Option Addr} {n c : Nat} {ds : List D} (h : Elems E size lo w a n c ds) (g : Grows E) (e : Ext w w') : Elems E size lo w' a n c ds := h.keep g (e.keeps _)
theorem Elems.lower {D : Type} {E : Reads D} {size lo lo' : Nat} {w : World} {a : Option Addr} {n c : Nat} {ds : List D} (h : Elems E size lo w a n c ds) (g : Grows E) (hl : lo' ≤ lo) : Elems E size lo' w a n c ds := by
  obtain ⟨xs, h1, h2, h3⟩ := h
  exact ⟨xs, h1.lower hl, h2, fun k d hk => g.lower _ _ _ _ _ (h3 k d hk) hl⟩

theorem Elems.len {D : Type} {E : Reads D} {size lo : Nat} {w : World} {a : Option Addr} {n c : Nat} {ds : List D} (h : Elems E size lo w a n c ds) : ds.length = n := by
  obtain ⟨xs, h1, h2, h3⟩ := h
  exact h2
theorem Elems.bound {D : Type} {E : Reads D} {size lo : Nat} {w : World} {a : Option Addr} {n c : Nat} {ds : List D} (h : Elems E size lo w a n c ds) : n ≤ 5864062014634 := by
  obtain ⟨xs, h1, h2, h3⟩ := h
  exact h1.bound
theorem Elems.nil {D : Type} {E : Reads D} {size lo : Nat} {w : World} {a : Option Addr} {n c : Nat} {ds : List D} (h : Elems E size lo w a n c ds) (ha : a = none) : n = 0 ∧ c = 0 := by
  obtain ⟨xs, h1, h2, h3⟩ := h
  exact h1.nil ha

/-- Element k: its address, its cells, what it reads as. -/
theorem Elems.elem {D : Type} {E : Reads D} {size lo : Nat} {w : World} {a : Option Addr} {n c : Nat} {ds : List D} (h : Elems E size lo w a n c ds) (k : Nat) (hk : k < n) :
    ∃ b off f d, a = some ⟨b, off, none⟩ ∧ (lo ≤ b ∧ b < w.heap.size) ∧ ds[k]? = some d ∧ E lo w f d ∧ ∀ j, j < size → w.cell? ⟨b, off + k * size + j, none⟩ = some (f j) := by
  obtain ⟨xs, h1, h2, h3⟩ := h
  obtain ⟨b, off, ha, hb, hc⟩ := h1.cells (by omega)
  have hd : ds[k]? = some (ds[k]'(by omega)) := List.getElem?_eq_getElem _
  refine ⟨b, off, _, _, ha, hb, hd, h3 k _ hd, fun j hj => ?_⟩
  have h5 : (k + 1) * size ≤ n * size := Nat.mul_le_mul_right _ hk
  rw [Nat.add_mul] at h5
  have h6 : k * size + j < n * size := by omega
  have h7 := h1.len
  rw [show off + k * size + j = off + (k * size + j) from by omega, hc _ h6]
  simp [cellsAt, List.getElem?_eq_getElem (show k * size + j < xs.length by omega)]

/-! ### The seat's data -/
structure KeyD where
  impl : List Int
  inst : List Int
  tag : Int
structure CompD where
  mt : Option ByteArray
  ver : Option ByteArray
  signer : List Int
structure RvD where
  impl : List Int
  comp : CompD
  digs : List (List Int)

def BsC (lo : Nat) (w : World) (v : Value) (bs : List Int) : Prop := ∃ a n c, v = .slice a n c ∧ Bs lo w a n c bs
def SpC (lo : Nat) (w : World) (v : Value) (os : Option ByteArray) : Prop := ∃ p, v = .pointer p ∧ Sp lo w p os
theorem BsC.keep {lo : Nat} {w w' : World} {v : Value} {bs : List Int} (h : BsC lo w v bs) (e : Keeps lo w w') : BsC lo w' v bs := by
  obtain ⟨a, n, c, h1, h2⟩ := h
  exact ⟨a, n, c, h1, h2.keep e⟩
theorem SpC.keep {lo : Nat} {w w' : World} {v : Value} {os : Option ByteArray} (h : SpC lo w v os) (e : Keeps lo w w') : SpC lo w' v os := by
  obtain ⟨p, h1, h2⟩ := h
  exact ⟨p, h1, h2.keep e⟩
theorem BsC.lower {lo lo' : Nat} {w : World} {v : Value} {bs : List Int} (h : BsC lo w v bs) (hl : lo' ≤ lo) : BsC lo' w v bs := by
  obtain ⟨a, n, c, h1, h2⟩ := h
  exact ⟨a, n, c, h1, h2.lower hl⟩
theorem SpC.lower {lo lo' : Nat} {w : World} {v : Value} {os : Option ByteArray} (h : SpC lo w v os) (hl : lo' ≤ lo) : SpC lo' w v os := by
  obtain ⟨p, h1, h2⟩ := h
  exact ⟨p, h1, h2.lower hl⟩

/-- A Key of the law's own: two slices of bytes and an int. -/
def KeyC : Reads KeyD := fun lo w f d => BsC lo w (f 0) d.impl ∧ BsC lo w (f 1) d.inst ∧ f 2 = .int .i64 d.tag
/-- An AttestationKey: the int lies in an interface. -/
def AKeyC : Reads KeyD := fun lo w f d => BsC lo w (f 0) d.impl ∧ BsC lo w (f 1) d.inst ∧ f 2 = .iface 3 (.int .i64 d.tag)
def CompC : Reads CompD := fun lo w f d => SpC lo w (f 0) d.mt ∧ SpC lo w (f 1) d.ver ∧ BsC lo w (f 2) d.signer
def DigC : Reads (List Int) := fun lo w f d => BsC lo w (f 0) d
def DigsC (lo : Nat) (w : World) (v : Value) (ds : List (List Int)) : Prop := ∃ a n c, v = .slice a n c ∧ Elems DigC 1 lo w a n c ds
def RvC : Reads RvD := fun lo w f d => BsC lo w (f 0) d.impl ∧ (SpC lo w (f 1) d.comp.mt ∧ SpC lo w (f 2) d.comp.ver ∧ BsC lo w (f 3) d.comp.signer) ∧ DigsC lo w (f 4) d.digs
/-- A Cert: only its make is wanted. -/
def CertC : Reads Unit := fun lo w f _ =>
  (∃ bs, BsC lo w (f 0) bs) ∧ (∃ a n c ds, f 1 = .slice a n c ∧ Elems CompC 3 lo w a n c ds) ∧ ∃ s, f 2 = .string s
/-- Three cells, whatever they hold. -/
def AnyC : Reads Unit := fun _ _ f _ => ∀ j, j < 3 → (f j).oneCell' = true
/-- A key of crypto's: an int in an interface. -/
def TagC : Reads Int := fun _ _ f d => f 0 = .iface 3 (.int .i64 d)
def IntC : Reads Int := fun _ _ f d => f 0 = .int .i64 d

theorem grows_key : Grows KeyC := ⟨fun _ _ _ _ _ h e => ⟨h.1.keep e, h.2.1.keep e, h.2.2⟩, fun _ _ _ _ _ h e => ⟨h.1.lower e, h.2.1.lower e, h.2.2⟩⟩
theorem grows_akey : Grows AKeyC := ⟨fun _ _ _ _ _ h e => ⟨h.1.keep e, h.2.1.keep e, h.2.2⟩, fun _ _ _ _ _ h e => ⟨h.1.lower e, h.2.1.lower e, h.2.2⟩⟩
theorem grows_comp : Grows CompC := ⟨fun _ _ _ _ _ h e => ⟨h.1.keep e, h.2.1.keep e, h.2.2.keep e⟩, fun _ _ _ _ _ h e => ⟨h.1.lower e, h.2.1.lower e, h.2.2.lower e⟩⟩
theorem grows_dig : Grows DigC := ⟨fun _ _ _ _ _ h e => BsC.keep h e, fun _ _ _ _ _ h e => BsC.lower h e⟩
theorem DigsC.keep {lo : Nat} {w w' : World} {v : Value} {ds : List (List Int)} (h : DigsC lo w v ds) (e : Keeps lo w w') : DigsC lo w' v ds := by
  obtain ⟨a, n, c, h1, h2⟩ := h
  exact ⟨a, n, c, h1, h2.keep grows_dig e⟩
theorem DigsC.lower {lo lo' : Nat} {w : World} {v : Value} {ds : List (List Int)} (h : DigsC lo w v ds) (e : lo' ≤ lo) : DigsC lo' w v ds := by
  obtain ⟨a, n, c, h1, h2⟩ := h
  exact ⟨a, n, c, h1, h2.lower grows_dig e⟩
theorem grows_rv : Grows RvC := ⟨fun _ _ _ _ _ h e => ⟨h.1.keep e, ⟨h.2.1.1.keep e, h.2.1.2.1.keep e, h.2.1.2.2.keep e⟩, h.2.2.keep e⟩,
  fun _ _ _ _ _ h e => ⟨h.1.lower e, ⟨h.2.1.1.lower e, h.2.1.2.1.lower e, h.2.1.2.2.lower e⟩, h.2.2.lower e⟩⟩
theorem grows_cert : Grows CertC := ⟨fun _ _ _ _ _ h e => by
    obtain ⟨⟨bs, h1⟩, ⟨a, n, c, ds, h2, h3⟩, h4⟩ := h
    exact ⟨⟨bs, h1.keep e⟩, ⟨a, n, c, ds, h2, h3.keep grows_comp e⟩, h4⟩, fun _ _ _ _ _ h e => by
    obtain ⟨⟨bs, h1⟩, ⟨a, n, c, ds, h2, h3⟩, h4⟩ := h
    exact ⟨⟨bs, h1.lower e⟩, ⟨a, n, c, ds, h2, h3.lower grows_comp e⟩, h4⟩⟩
theorem grows_any : Grows AnyC := ⟨fun _ _ _ _ _ h _ => h, fun _ _ _ _ _ h _ => h⟩
theorem grows_tag : Grows TagC := ⟨fun _ _ _ _ _ h _ => h, fun _ _ _ _ _ h _ => h⟩
theorem grows_int : Grows IntC := ⟨fun _ _ _ _ _ h _ => h, fun _ _ _ _ _ h _ => h⟩

def satOf (n m : Int) : Int := if 1048576 < n then 1048577 else if 1048576 < m then 1048577 else wrap64 (n + m)
def lenOfStr : Option ByteArray → Int
  | none => 0
  | some s => s.size

theorem run_make_multi {P : Program} (t e : TypeId) (z : Value) (size bytes : Nat) (ht : P.underlying t = some (.slice e)) (hinfo : (P.info? e).map (fun i => (i.zero, i.size, i.bytes)) = some (some z, size, bytes))
    (kl kc : IntKind) (n : Nat) (hbytes : bytes * n ≤ 281474976710656) (h63 : n ≤ 9223372036854775807) (w : World) :
    (Instr.makeSlice t (.int kl (n : Int)) (.int kc (n : Int))).run P w = .ok (.slice (some ⟨w.heap.size, 0, none⟩) n n) (w.alloc (.cells (madeCells z.cells (n * size)) e)) := by
  obtain ⟨i, hi, hzz⟩ := Option.map_eq_some_iff.1 hinfo
  simp only [Prod.mk.injEq] at hzz
  obtain ⟨hz, hs, hb⟩ := hzz
  have hb' : (i.bytes : Int) * (n : Int) ≤ 281474976710656 := by
    have h : ((i.bytes * n : Nat) : Int) ≤ 281474976710656 := by rw [hb]; omega
    rwa [Int.natCast_mul] at h
  have hr := run_make (P := P) w t e i z ht hi hz kl kc n n (by omega) (Int.le_refl _) hb' (by omega)
  simp only [Int.toNat_natCast, hs] at hr
  exact hr

theorem rowIs_multi (w : World) (z : Array Value) (N : Nat) (t : TypeId) : ∃ F, (w.alloc (.cells (madeCells z N) t)).rowIs w.heap.size t N F := by
  have h := World.rowIs_alloc w (madeCells z N) t (fun i => ((madeCells z N)[i]?).getD undef) (fun i hi => by simp [Array.getElem?_eq_getElem hi])
  rw [size_madeCells] at h
  exact ⟨_, h⟩

theorem rowIs_ext {w w' : World} {b : Nat} {t : TypeId} {n : Nat} {F : Nat → Value} (h : w.rowIs b t n F) (e : Ext w w') : w'.rowIs b t n F := h.of_block (e.block b h.lt)


/-- An element's reading looks at its own cells alone. -/
def Local {D : Type} (E : Reads D) (size : Nat) : Prop := ∀ (lo : Nat) (w : World) (f g : Nat → Value) (d : D), (∀ j, j < size → f j = g j) → E lo w f d → E lo w g d
theorem local_key : Local KeyC 3 := fun _ _ _ _ _ e h => by
  unfold KeyC at h ⊢
  rw [← e 0 (by omega), ← e 1 (by omega), ← e 2 (by omega)]; exact h
theorem local_akey : Local AKeyC 3 := fun _ _ _ _ _ e h => by
  unfold AKeyC at h ⊢
  rw [← e 0 (by omega), ← e 1 (by omega), ← e 2 (by omega)]; exact h
theorem local_comp : Local CompC 3 := fun _ _ _ _ _ e h => by
  unfold CompC at h ⊢
  rw [← e 0 (by omega), ← e 1 (by omega), ← e 2 (by omega)]; exact h
theorem local_dig : Local DigC 1 := fun _ _ _ _ _ e h => by
  unfold DigC at h ⊢
  rw [← e 0 (by omega)]; exact h
theorem local_rv : Local RvC 5 := fun _ _ _ _ _ e h => by
  unfold RvC at h ⊢
  rw [← e 0 (by omega), ← e 1 (by omega), ← e 2 (by omega), ← e 3 (by omega), ← e 4 (by omega)]; exact h
theorem local_any : Local AnyC 3 := fun _ _ _ _ _ e h j hj => by rw [← e j hj]; exact h j hj
theorem local_tag : Local TagC 1 := fun _ _ _ _ _ e h => by
  unfold TagC at h ⊢
  rw [← e 0 (by omega)]; exact h
theorem local_int : Local IntC 1 := fun _ _ _ _ _ e h => by
  unfold IntC at h ⊢
  rw [← e 0 (by omega)]; exact h

/-- A row of the call's own, told cell by cell, is a slice that reads as ds says. -/
theorem Elems.of_rowIs {D : Type} {E : Reads D} {size lo : Nat} {w : World} {g n : Nat} {t : TypeId} {F : Nat → Value} {ds : List D} (l : Local E size) (h : w.rowIs g t (n * size) F) (hlo : lo ≤ g) (hlen : ds.length = n) (hb : n ≤ 5864062014634)
    (hE : ∀ k d, ds[k]? = some d → E lo w (fun j => F (k * size + j)) d) : Elems E size lo w (some ⟨g, 0, none⟩) n n ds := by
  refine ⟨(List.range (n * size)).map F, ⟨by simp, Nat.le_refl _, hb, fun e => (by cases e), fun _ => ⟨g, 0, rfl, ⟨hlo, h.lt⟩, fun i hi => ?_⟩⟩, hlen, fun k d hk => l _ _ _ _ _ (fun j hj => ?_) (hE k d hk)⟩
  · rw [Nat.zero_add, h.cell hi]
    simp [hi]
  · have hk' : k < n := by
      have := (List.getElem?_eq_some_iff.1 hk).1
      omega
    have h5 : (k + 1) * size ≤ n * size := Nat.mul_le_mul_right _ hk'
    rw [Nat.add_mul] at h5
    have h6 : k * size + j < n * size := by omega
    simp [cellsAt, h6]

/-- A slice without an element. -/
theorem Elems.empty {D : Type} (E : Reads D) (size lo : Nat) (w : World) : Elems E size lo w none 0 0 [] :=
  ⟨[], ⟨by simp, Nat.le_refl _, by omega, fun _ => ⟨rfl, rfl⟩, fun h => absurd h (by omega)⟩, rfl, fun k d hk => by simp at hk⟩

/-! ### Slices of the call's own, which an append may take up -/
/-- A slice value that the call itself has made, from block lo on; its elements read as ds says. -/
def Owned {D : Type} (E : Reads D) (t : TypeId) (size lo : Nat) (w : World) (v : Value) (ds : List D) : Prop :=
  ds.length ≤ 5864062014634 ∧ ∃ xs, w.ownsRow lo t size v ds.length xs ∧ ∀ k d, ds[k]? = some d → E lo w (cellsAt xs (k * size)) d

theorem ownsRow_keep {lo : Nat} {t : TypeId} {size : Nat} {w w' : World} {v : Value} {n : Nat} {xs : List Value} (h : w.ownsRow lo t size v n xs) (e : Keeps lo w w') : w'.ownsRow lo t size v n xs := by
  refine ⟨h.1, ?_⟩
  rcases h.2 with h2 | ⟨g, cap, cur, h3, h4, h5, h6⟩
  · exact .inl h2
  · refine .inr ⟨g, cap, cur, h3, h4, ?_, h6⟩
    have hlt : g < w.heap.size := by
      rcases Nat.lt_or_ge g w.heap.size with hlt | hge
      · exact hlt
      · rw [Array.getElem?_eq_none hge] at h5; cases h5
    rw [e.2 g h4 hlt]; exact h5
theorem ownsRow_lower {lo lo' : Nat} {t : TypeId} {size : Nat} {w : World} {v : Value} {n : Nat} {xs : List Value} (h : w.ownsRow lo t size v n xs) (hl : lo' ≤ lo) : w.ownsRow lo' t size v n xs := by
  refine ⟨h.1, ?_⟩
  rcases h.2 with h2 | ⟨g, cap, cur, h3, h4, h6⟩
  · exact .inl h2
  · exact .inr ⟨g, cap, cur, h3, Nat.le_trans hl h4, h6⟩

theorem Owned.keep {D : Type} {E : Reads D} {t : TypeId} {size lo : Nat} {w w' : World} {v : Value} {ds : List D} (h : Owned E t size lo w v ds) (g : Grows E) (e : Keeps lo w w') : Owned E t size lo w' v ds := by
  obtain ⟨hb, xs, h1, h2⟩ := h
  exact ⟨hb, xs, ownsRow_keep h1 e, fun k d hk => g.keep _ _ _ _ _ (h2 k d hk) e⟩
theorem Owned.lower {D : Type} {E : Reads D} {t : TypeId} {size lo lo' : Nat} {w : World} {v : Value} {ds : List D} (h : Owned E t size lo w v ds) (g : Grows E) (hl : lo' ≤ lo) : Owned E t size lo' w v ds := by
  obtain ⟨hb, xs, h1, h2⟩ := h
  exact ⟨hb, xs, ownsRow_lower h1 hl, fun k d hk => g.lower _ _ _ _ _ (h2 k d hk) hl⟩
theorem Owned.empty {D : Type} (E : Reads D) (t : TypeId) (size lo : Nat) (w : World) : Owned E t size lo w (.slice none 0 0) ([] : List D) :=
  ⟨by simp, [], World.ownsRow_nil _ _ _ _, fun k d hk => by simp at hk⟩

theorem Owned.of_rowIs {D : Type} {E : Reads D} {size lo : Nat} {w : World} {g n : Nat} {t : TypeId} {F : Nat → Value} {ds : List D} (l : Local E size) (h : w.rowIs g t (n * size) F) (hlo : lo ≤ g) (hlen : ds.length = n) (hb : n ≤ 5864062014634)
    (hE : ∀ k d, ds[k]? = some d → E lo w (fun j => F (k * size + j)) d) : Owned E t size lo w (.slice (some ⟨g, 0, none⟩) n n) ds := by
  obtain ⟨c, h1, h2, h3⟩ := h
  refine ⟨by omega, c.toList, ⟨by simp [h2, hlen], .inr ⟨g, n, c, by rw [hlen], hlo, h1, by omega, by unfold maxLen; omega, h2, ?_⟩⟩, fun k d hk => l _ _ _ _ _ (fun j hj => ?_) (hE k d hk)⟩
  · rw [List.take_of_length_le (by simp [h2, hlen])]
  · have hk' : k < n := by
      have := (List.getElem?_eq_some_iff.1 hk).1
      omega
    have h5 : (k + 1) * size ≤ n * size := Nat.mul_le_mul_right _ hk'
    rw [Nat.add_mul] at h5
    have h6 : k * size + j < n * size := by omega
    have h7 := h3 _ h6
    simp [cellsAt, h7]

theorem Owned.elems {D : Type} {E : Reads D} {t : TypeId} {size lo : Nat} {w : World} {v : Value} {ds : List D} (h : Owned E t size lo w v ds) :
    ∃ a c, v = .slice a ds.length c ∧ (a = none ↔ v = .slice none 0 0) ∧ Elems E size lo w a ds.length c ds := by
  obtain ⟨hb, xs, h1, h2⟩ := h
  rcases h1.2 with ⟨h3, h4⟩ | ⟨g, cap, cur, h3, h4, h5, h6, h7, h8, h9⟩
  · have hd : ds = [] := List.eq_nil_of_length_eq_zero h4
    subst hd
    exact ⟨none, 0, h3, by simp [h3], Elems.empty _ _ _ _⟩
  · have hlt : g < w.heap.size := by
      rcases Nat.lt_or_ge g w.heap.size with hlt | hge
      · exact hlt
      · rw [Array.getElem?_eq_none hge] at h5; cases h5
    refine ⟨_, cap, h3, by simp [h3], xs, ⟨h1.1, h6, hb, fun e => (by cases e), fun _ => ⟨g, 0, rfl, ⟨h4, hlt⟩, fun i hi => ?_⟩⟩, rfl, h2⟩
    have h10 : w.cell? ⟨g, 0 + i, none⟩ = cur[i]? := by simp [World.cell?, h5]
    rw [h10, ← h9, List.getElem?_take, if_pos hi]
    simp

/-- What one Endorsements holds: its three slices, in a block of their own. -/
def EndAt (B : Nat) (w : World) (v0 v1 v2 : Value) (ks : List KeyD) (rs : List RvD) (cs : List Unit) : Prop :=
  w.rowIs B 42 3 (fun j => if j = 0 then v0 else if j = 1 then v1 else v2) ∧ Owned AKeyC 68 3 (B + 1) w v0 ks ∧ Owned RvC 58 5 (B + 1) w v1 rs ∧ Owned AnyC 72 3 (B + 1) w v2 cs

end Go.Proofs.Qxb6606015a
