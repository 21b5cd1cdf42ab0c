/-
  strings.Builder's WriteString at this program (copyCheck's panic is not followed: its text is cut).
-/
import Derived.Test.Qxb6608673aFmtProg
import Derived.Test.Qxb6608673aFmtStr
import Derived.WalkKit
import Derived.WalkSpells
import Derived.WalkLawsBesides
import Derived.LaidEqlPtr
import Derived.Great.Walk
namespace Go.Proofs.Qxb6608673aFmt
open Go.RowKit
set_option maxRecDepth 100000

theorem Tryf.size38 : (Tryf.prog.info? 38).map (·.size) = some 2 := by kernel_rfl
theorem Tryf.lies38 : liesAt Tryf.prog Tryf.prog.depth 38 (2 / Tryf.prog.cellsOf 38) 0 38 1 = true := by kernel_rfl
theorem Tryf.infoByte : (Tryf.prog.info? 5).map (fun i => (i.zero, i.size, i.bytes)) = some (some (.int .u8 0), 1, 1) := by kernel_rfl

set_option maxHeartbeats 1000000 in
theorem copyCheck_used (b : Nat) (w : World) (h0 : w.cell? ⟨b, 0, none⟩ = some (.pointer (some ⟨b, 0, none⟩))) :
    Calls Tryf.prog 16 #[.pointer (some ⟨b, 0, none⟩)] w fun e w' => e = .returned (.tuple #[]) ∧ w' = w := by
  obtain ⟨j, hj, _⟩ := Option.map_eq_some_iff.1 Tryf.size38
  have hne := Lib.run_neq_ptr_same w ⟨b, 0, none⟩ Tryf.underlying35 hj
  go_enter Tryf.func16, Tryf.ntmps16
  go_wp2
  refine Great.bodyPost_end0 Tryf.results16 rfl ?_
  exact ⟨rfl, rfl⟩

theorem to_raw (b : Nat) (w : World) (hsh : w.shape? b = some (38, 2)) : (convert 35 44 (.pointer (some ⟨b, 0, none⟩))).run Tryf.prog w = .ok (.pointer (some ⟨b, 0, none⟩)) w := by
  obtain ⟨j, hj, hjs⟩ := Option.map_eq_some_iff.1 Tryf.size38
  simp only [convert, run_underlying Tryf.underlying35, run_underlying Tryf.underlying44, Sem.run_bind, Result.andThen_ok]
  change Sem.run Tryf.prog (Bind.bind (underlying 35) _) w = _
  simp [run_underlying Tryf.underlying35, run_underlying Tryf.underlying44, Conv.seenAt, viewAt, cellsIn, hsh, sizeOf, typeInfo, hj, hjs]
theorem from_raw (b : Nat) (w : World) (hsh : w.shape? b = some (38, 2)) : (convert 44 35 (.pointer (some ⟨b, 0, none⟩))).run Tryf.prog w = .ok (.pointer (some ⟨b, 0, none⟩)) w := by
  obtain ⟨j, hj, hjs⟩ := Option.map_eq_some_iff.1 Tryf.size38
  simp only [convert, run_underlying Tryf.underlying35, run_underlying Tryf.underlying44, Sem.run_bind, Result.andThen_ok]
  change Sem.run Tryf.prog (Bind.bind (underlying 44) _) w = _
  simp [run_underlying Tryf.underlying35, run_underlying Tryf.underlying44, Conv.seenAt, viewAt, hsh, variablesAt, Tryf.lies38, sizeOf, typeInfo, hj]

set_option maxHeartbeats 1000000 in
theorem copyCheck_fresh (b : Nat) (w : World) (h0 : w.cell? ⟨b, 0, none⟩ = some (.pointer none)) (hsh : w.shape? b = some (38, 2)) (hfz : w.frozen? ⟨b, 0, none⟩ = false) :
    Calls Tryf.prog 16 #[.pointer (some ⟨b, 0, none⟩)] w fun e w' => e = .returned (.tuple #[]) ∧ w' = w.setCell ⟨b, 0, none⟩ (.pointer (some ⟨b, 0, none⟩)) := by
  obtain ⟨j, hj, _⟩ := Option.map_eq_some_iff.1 Tryf.size38
  have hne := Lib.run_neq_ptr_same (w.setCell ⟨b, 0, none⟩ (.pointer (some ⟨b, 0, none⟩))) ⟨b, 0, none⟩ Tryf.underlying35 hj
  have hto := to_raw b w hsh
  have hfrom := from_raw b w hsh
  have hext := run_callFunc_extern (P := Tryf.prog) Tryf.func17 (by kernel_rfl) (by kernel_rfl) (by kernel_rfl) (e := Extern.AbiNoEscape.same) (by kernel_rfl) (args := #[.pointer (some ⟨b, 0, none⟩)]) (w := w)
  rw [Lib.run_noEscape] at hext
  go_enter Tryf.func16, Tryf.ntmps16
  go_wp2
  refine Great.bodyPost_end0 Tryf.results16 rfl ?_
  exact ⟨rfl, rfl⟩

theorem copyCheck_any (B b : Nat) (bs : List Value) (w : World) (h : Lib.IsBuilder 38 5 B b bs w) :
    Calls Tryf.prog 16 #[.pointer (some ⟨b, 0, none⟩)] w fun e w' => e = .returned (.tuple #[]) ∧ Lib.BuilderAt 38 5 B b (.pointer (some ⟨b, 0, none⟩)) bs w' ∧ Below B w w' := by
  rcases h with h | h
  · refine (copyCheck_fresh b w h.cell0 h.shape h.frozen0).mono ?_
    rintro e w' ⟨rfl, rfl⟩
    exact ⟨rfl, h.used _, (Below.refl B w).setCell (p := ⟨b, 0, none⟩) h.1 _⟩
  · refine (copyCheck_used b w h.cell0).mono ?_
    rintro e w' ⟨rfl, rfl⟩
    exact ⟨rfl, h, Below.refl B _⟩

set_option maxHeartbeats 1000000 in
theorem writeString_any (B b : Nat) (bs : List Value) (s : ByteArray) (w : World) (h : Lib.IsBuilder 38 5 B b bs w) (hlen : bs.length + s.size ≤ 140737488355328) (hBw : B ≤ w.heap.size) :
    Calls Tryf.prog 14 #[.pointer (some ⟨b, 0, none⟩), .string s] w fun e w' => e = .returned (.tuple #[.int .i64 s.size, .nilIface]) ∧ Lib.IsBuilder 38 5 B b (bs ++ Lib.strCells s) w' ∧ Below B w w' := by
  obtain ⟨i0, hi, hz0, hz1, hz2⟩ := info_parts Tryf.infoByte
  go_enter Tryf.func14, Tryf.ntmps14
  go_wp2_with (go_at_call 16; refine (copyCheck_any B b bs _ h).mono ?_)
  rintro e w1 ⟨rfl, h1, hb1⟩
  obtain ⟨hB, v, hbk, hown, hne⟩ := h1
  have c1 : w1.cell? ⟨b, 1, none⟩ = some v := by rw [Lib.cell_of_heap hbk]; rfl
  have hsz := hb1.size
  go_wp2_with (refine Lib.wpList_append_own_string _ rfl _ _ 36 9 rfl B 5 i0 Tryf.underlying36 Tryf.underlying9 hi hz0 hz1 hz2 _ _ _ rfl hown s rfl (by unfold maxLen; omega) (by omega) (by omega) ?_)
  intro v' w2 hown' hgrow _
  have hlt : b < w1.heap.size := (Array.getElem?_eq_some_iff.1 hbk).1
  have hb2 : w2.heap[b]? = some (.cells #[.pointer (some ⟨b, 0, none⟩), v] 38 (0, 0)) := by
    rw [hgrow.block b hlt (fun e => hne e.symm)]
    exact hbk
  have d1 : w2.cell? ⟨b, 1, none⟩ = some v := by rw [Lib.cell_of_heap hb2]; rfl
  have f1 : w2.frozen? ⟨b, 1, none⟩ = false := Lib.frozen_of_heap hb2 1
  obtain ⟨ao, n', cap, rfl⟩ : ∃ ao n' cap, v' = .slice ao n' cap := by
    rcases hown'.2 with ⟨hv, _⟩ | ⟨g, cap, cur, hv, _⟩
    · exact ⟨_, _, _, hv⟩
    · exact ⟨_, _, _, hv⟩
  go_wp2
  go_ret2
  refine ⟨rfl, .inr ?_, ?_⟩
  · exact Lib.BuilderAt.put (T := 38) (e := 5) hB hb2 (bs' := bs ++ Lib.strCells s) (by simpa [Lib.strCells_length] using hown') (by decide)
  · exact (hb1.grown hgrow (by omega) (fun k hk => (hown.lt k hk).1)).setCell (p := ⟨b, 1, none⟩) hB _
end Go.Proofs.Qxb6608673aFmt
