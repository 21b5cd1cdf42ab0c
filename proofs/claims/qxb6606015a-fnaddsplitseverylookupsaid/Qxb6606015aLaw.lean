/-
  The law's own function, walked.
-/
import Derived.Test.Qxb6606015aWalksB
import Derived.Test.Qxb6606015aWalksE
import Derived.Test.Qxb6606015aWalksF
import Derived.Test.Qxb6606015aWalksG
import Derived.Test.Qxb6606015aWalksH
import Derived.Test.Qxb6606015aWalksZ
namespace Go.Proofs.Qxb6606015a
open Go.RowKit

theorem tagsOf_append (ks ks' : List KeyD) (impl inst : List Int) : tagsOf (ks ++ ks') impl inst = tagsOf ks impl inst ++ tagsOf ks' impl inst := by
  simp [tagsOf]
theorem rvsOf_append (rs rs' : List RvD) (impl : List Int) : rvsOf (rs ++ rs') impl = rvsOf rs impl ++ rvsOf rs' impl := by
  simp [rvsOf]
theorem knowsB_append (ks ks' : List KeyD) (rs rs' : List RvD) (impl : List Int) : knowsB (ks ++ ks') (rs ++ rs') impl = (knowsB ks rs impl || knowsB ks' rs' impl) := by
  simp only [knowsB, List.any_append]
  cases ks.any (fun k => k.impl == impl) <;> cases ks'.any (fun k => k.impl == impl) <;> cases rs.any (fun r => r.impl == impl) <;> cases rs'.any (fun r => r.impl == impl) <;> rfl
theorem tagsOf_len (ks : List KeyD) (impl inst : List Int) : (tagsOf ks impl inst).length ≤ ks.length := by
  have := tagsOf_le ks impl inst ks.length
  rwa [List.take_length] at this
theorem rvsOf_len (rs : List RvD) (impl : List Int) : (rvsOf rs impl).length ≤ rs.length := by
  have := rvsOf_le rs impl rs.length
  rwa [List.take_length] at this

/-- toEndorsements, the block under a name. -/
theorem toEnd_named {lo : Nat} (a1 a2 a3 : Option Addr) (n1 c1 n2 c2 n3 c3 : Nat) (ks : List KeyD) (rs : List RvD) (cs : List Unit) (w : World)
    (h1 : Elems KeyC 3 lo w a1 n1 c1 ks) (h2 : Elems RvC 5 lo w a2 n2 c2 rs) (h3 : Elems CertC 3 lo w a3 n3 c3 cs) (b1 : n1 ≤ 1048576) (b2 : n2 ≤ 1048576) (b3 : n3 ≤ 1048576) :
    Calls Try.prog 10 #[.slice a1 n1 c1, .slice a2 n2 c2, .slice a3 n3 c3] w fun e w' =>
      ∃ B v0 v1 v2, e = .returned (.pointer (some ⟨B, 0, none⟩)) ∧ w.heap.size = B ∧ EndF B w' v0 v1 v2 ks rs cs ∧ Ext w w' :=
  (toEnd_any a1 a2 a3 n1 c1 n2 c2 n3 c3 ks rs cs w h1 h2 h3 b1 b2 b3).mono fun _ _ ⟨h, ⟨v0, v1, v2, hE⟩, hx⟩ => ⟨_, v0, v1, v2, h, rfl, hE, hx⟩

theorem EndF.ext {B : Nat} {w w' : World} {v0 v1 v2 : Value} {ks : List KeyD} {rs : List RvD} {cs : List Unit} (h : EndF B w v0 v1 v2 ks rs cs) (e : Ext w w') : EndF B w' v0 v1 v2 ks rs cs :=
  ⟨rowIs_ext h.1 e, h.2.1.keep grows_akey (e.keeps _), h.2.2.1.keep grows_rv (e.keeps _), h.2.2.2.keep grows_any (e.keeps _)⟩

set_option maxRecDepth 100000 in
set_option maxHeartbeats 4000000 in
theorem law_walk {lo : Nat} (a1 a2 a3 a4 a5 a6 a7 a8 : Option Addr) (n1 c1 n2 c2 n3 c3 n4 c4 n5 c5 n6 c6 n7 c7 n8 c8 : Nat) (ks ks' : List KeyD) (rs rs' : List RvD) (cs cs' : List Unit) (impl inst : List Int) (w : World)
    (h1 : Elems KeyC 3 lo w a1 n1 c1 ks) (h2 : Elems RvC 5 lo w a2 n2 c2 rs) (h3 : Elems CertC 3 lo w a3 n3 c3 cs)
    (h4 : Elems KeyC 3 lo w a4 n4 c4 ks') (h5 : Elems RvC 5 lo w a5 n5 c5 rs') (h6 : Elems CertC 3 lo w a6 n6 c6 cs') (h7 : Bs lo w a7 n7 c7 impl) (h8 : Bs lo w a8 n8 c8 inst) :
    Calls Try.prog 3 #[.slice a1 n1 c1, .slice a2 n2 c2, .slice a3 n3 c3, .slice a4 n4 c4, .slice a5 n5 c5, .slice a6 n6 c6, .slice a7 n7 c7, .slice a8 n8 c8] w fun e w' => e = .returned (.bool true) ∧ Ext w w' := by
  go_enter Try.func3, Try.ntmps3
  go_wp2_with fail
  refine (zzBytes_any _ _ _ _ _ _ _ _ _ _ _ _ _ _ _ _ _ _ _ _ _ _ _ _ _ _ _ _ _ _ _ h1 h2 h3 h4 h5 h6).mono ?_
  rintro e w' ⟨⟨r, rfl, hr⟩, hw⟩
  rw [hw]
  clear hw w'
  cases r with
  | false =>
    clear hr
    go_wp2_with fail
    go_ret
    exact ⟨rfl, Ext.refl _⟩
  | true =>
    obtain ⟨b1, b2, b3, b4, b5, b6⟩ := hr rfl
    clear hr
    go_wp2_with fail
    refine (sizeEnd_any _ _ _ _ _ _ _ _ _ _ _ _ _ h1 h2 h3).mono ?_
    rintro e w1 ⟨⟨r1, rfl⟩, x1⟩
    go_wp2_with fail
    refine (sizeEnd_any _ _ _ _ _ _ _ _ _ _ _ _ _ (h4.ext grows_key x1) (h5.ext grows_rv x1) (h6.ext grows_cert x1)).mono ?_
    rintro e w2 ⟨⟨r2, rfl⟩, x2⟩
    go_wp2_with (go_at_call 7; refine (addSat_any _ _ _).mono ?_; rintro e w' ⟨rfl, hw⟩; rw [hw]; clear hw w')
    · go_ret
      exact ⟨rfl, x1.trans x2⟩
    have X2 : Ext w w2 := x1.trans x2
    refine (cloneBytes_any _ _ _ _ _ (h7.ext X2)).mono ?_
    rintro e w3 ⟨a9, c9, rfl, k7, x3⟩
    go_wp2_with fail
    have X3 : Ext w w3 := X2.trans x3
    refine (cloneBytes_any _ _ _ _ _ (h8.ext X3)).mono ?_
    rintro e w4 ⟨a10, c10, rfl, k8, x4⟩
    go_wp2_with fail
    have X4 : Ext w w4 := X3.trans x4
    have leX4 := X4.le
    have k7' := (k7.lower (Nat.zero_le _)).ext x4
    have k8' := k8.lower (Nat.zero_le _)
    clear k7 k8 h7 h8 x1 x2 x3 x4 X2 X3
    refine (toEnd_named _ _ _ _ _ _ _ _ _ _ _ _ _ (h1.ext grows_key X4) (h2.ext grows_rv X4) (h3.ext grows_cert X4) b1 b2 b3).mono ?_
    rintro e w5 ⟨Be, v0, v1, v2, rfl, hBe, hE, x5⟩
    go_wp2_with fail
    have X5 : Ext w w5 := X4.trans x5
    refine (toEnd_named _ _ _ _ _ _ _ _ _ _ _ _ _ (h1.ext grows_key X5) (h2.ext grows_rv X5) (h3.ext grows_cert X5) b1 b2 b3).mono ?_
    rintro e w6 ⟨Bb, v3, v4, v5, rfl, hBb, hEb, x6⟩
    go_wp2_with fail
    have X6 : Ext w w6 := X5.trans x6
    refine (toEnd_named _ _ _ _ _ _ _ _ _ _ _ _ _ (h4.ext grows_key X6) (h5.ext grows_rv X6) (h6.ext grows_cert X6) b4 b5 b6).mono ?_
    rintro e w7 ⟨Bm, v6, v7, v8, rfl, hBm, hEm, x7⟩
    have l1 : ks.length ≤ 1048576 := by rw [h1.len]; exact b1
    have l2 : rs.length ≤ 1048576 := by rw [h2.len]; exact b2
    have l3 : cs.length ≤ 1048576 := by rw [h3.len]; exact b3
    have l4 : ks'.length ≤ 1048576 := by rw [h4.len]; exact b4
    have l5 : rs'.length ≤ 1048576 := by rw [h5.len]; exact b5
    have l6 : cs'.length ≤ 1048576 := by rw [h6.len]; exact b6
    have HL : Hid (ks.length = n1 ∧ rs.length = n2 ∧ cs.length = n3 ∧ ks'.length = n4 ∧ rs'.length = n5 ∧ cs'.length = n6) := ⟨h1.len, h2.len, h3.len, h4.len, h5.len, h6.len⟩
    have u5 := hE.1.lt
    have u6 := hEb.1.lt
    have u7 := hEm.1.lt
    have o56 : Be < Bb := by omega
    have o67 : Bb < Bm := by omega
    have HBS : Hid (w4.heap.size = Be) := hBe
    clear h1 h2 h3 h4 h5 h6 hBe hBb hBm
    have E7 := (hE.ext x6).ext x7
    have Eb7 := hEb.ext x7
    have z47 : Ext w4 w7 := (x5.trans x6).trans x7
    have X7 : Ext w w7 := X6.trans x7
    clear hE hEb x5 x6 X5 X6 X4
    go_wp2_with fail
    refine (keysForTags_any Bb _ _ _ _ _ _ _ _ _ _ _ _ _ Eb7.1 Eb7.2.1.1 (k7'.ext z47) (k8'.ext z47) (by omega)).mono ?_
    rintro e w8 ⟨a11, c11, rfl, T1, nT1, x8⟩
    go_wp2_with fail
    refine (keysForTags_any Bm _ _ _ _ _ _ _ _ _ _ _ _ _ (hEm.ext x8).1 (hEm.ext x8).2.1.1 (k7'.ext (z47.trans x8)) (k8'.ext (z47.trans x8)) (by omega)).mono ?_
    rintro e w9 ⟨a12, c12, rfl, T2, nT2, x9⟩
    have y9 : Ext w7 w9 := x8.trans x9
    go_wp2_with fail
    refine (rvsFor_any Bb _ _ _ _ _ _ _ _ _ (Eb7.ext y9).1 (Eb7.ext y9).2.2.1.1 (k7'.ext (z47.trans y9)) (by omega) (by have := y9.le; omega)).mono ?_
    rintro e w10 ⟨a13, c13, rfl, R1, nR1, x10⟩
    have y10 : Ext w7 w10 := y9.trans x10
    go_wp2_with fail
    refine (rvsFor_any Bm _ _ _ _ _ _ _ _ _ (hEm.ext y10).1 (hEm.ext y10).2.2.1.1 (k7'.ext (z47.trans y10)) (by omega) (by have := y10.le; omega)).mono ?_
    rintro e w11 ⟨a14, c14, rfl, R2, nR2, x11⟩
    have y11 : Ext w7 w11 := y10.trans x11
    go_wp2_with fail
    refine (knows_any Bb _ _ _ _ _ _ _ _ _ _ (Eb7.ext y11).1 (Eb7.ext y11).2.1.1 (Eb7.ext y11).2.2.1.1 (k7'.ext (z47.trans y11)) (by omega) (by have := y11.le; omega)).mono ?_
    rintro e w12 ⟨rfl, x12⟩
    have y12 : Ext w7 w12 := y11.trans x12
    go_wp2_with fail
    refine (knows_any Bm _ _ _ _ _ _ _ _ _ _ (hEm.ext y12).1 (hEm.ext y12).2.1.1 (hEm.ext y12).2.2.1.1 (k7'.ext (z47.trans y12)) (by omega) (by have := y12.le; omega)).mono ?_
    rintro e w13 ⟨rfl, x13⟩
    have y13 : Ext w7 w13 := y12.trans x13
    go_wp2_with fail
    refine (add_any Be Bm _ _ _ _ _ _ _ _ _ _ _ _ _ (by omega) (E7.ext y13) (hEm.ext y13) l1 l2 l3 l4 l5 l6).mono ?_
    rintro e w14 ⟨rfl, v9, v10, v11, hB14, hK14, hR14, hC14, bl14, kp14⟩
    have z13 : Ext w4 w13 := z47.trans y13
    have z14 : Ext w4 w14 := Below.trans z13 (by rw [HBS.out]; exact bl14)
    have X14 : Ext w w14 := Below.trans (X7.trans y13) (Below.mono bl14 (by have := HBS.out; have := X7.le; have := z47.le; omega))
    have le7 : Be + 1 ≤ w7.heap.size := by omega
    have K14 : ∀ lo', Be + 1 ≤ lo' → Keeps lo' w13 w14 := fun lo' h => kp14.mono h
    have T1' := T1.keep grows_int (((((((x9.trans x10).trans x11).trans x12).trans x13).keeps _)).trans (K14 _ le7))
    have T2' := T2.keep grows_int ((((((x10.trans x11).trans x12).trans x13).keeps _)).trans (K14 _ (Nat.le_trans le7 x8.le)))
    have R1' := R1.keep grows_rv ((((x11.trans x12).trans x13).keeps _).trans (K14 _ (by omega)))
    have R2' := R2.keep grows_rv (((x12.trans x13).keeps _).trans (K14 _ (by omega)))
    have hs14 : Be + 1 ≤ w14.heap.size := hB14.lt
    have HT : Hid (tagsOf (ks ++ ks') impl inst = tagsOf ks impl inst ++ tagsOf ks' impl inst ∧ rvsOf (rs ++ rs') impl = rvsOf rs impl ++ rvsOf rs' impl ∧ knowsB (ks ++ ks') (rs ++ rs') impl = (knowsB ks rs impl || knowsB ks' rs' impl)) :=
      ⟨tagsOf_append _ _ _ _, rvsOf_append _ _ _, knowsB_append _ _ _ _ _⟩
    have tl1 := tagsOf_len ks impl inst
    have tl2 := tagsOf_len ks' impl inst
    have rl1 := rvsOf_len rs impl
    have rl2 := rvsOf_len rs' impl
    have lk : (ks ++ ks').length ≤ 2097152 := by rw [List.length_append]; omega
    have lr : (rs ++ rs').length ≤ 2097152 := by rw [List.length_append]; omega
    have kk7 := k7'.ext z14
    have kk8 := k8'.ext z14
    obtain ⟨A0, C0, e9, _, _⟩ := hK14.elems
    obtain ⟨A1, C1, e10, _, _⟩ := hR14.elems
    obtain ⟨A2, C2, e11, _, _⟩ := hC14.elems
    have HC : Hid (Owned AKeyC 68 3 (Be + 1) w14 v9 (ks ++ ks') ∧ Owned RvC 58 5 (Be + 1) w14 v10 (rs ++ rs') ∧ w14.rowIs Be 42 3 (fun j => if j = 0 then v9 else if j = 1 then v10 else v11)) := ⟨hK14, hR14, hB14⟩
    obtain ⟨M0, hM0⟩ : ∃ M0, M0 = (ks ++ ks').length := ⟨_, rfl⟩
    obtain ⟨M1, hM1⟩ : ∃ M1, M1 = (rs ++ rs').length := ⟨_, rfl⟩
    obtain ⟨M2, hM2⟩ : ∃ M2, M2 = (cs ++ cs').length := ⟨_, rfl⟩
    rw [← hM0] at e9
    rw [← hM1] at e10
    rw [← hM2] at e11
    have d0 : ((M0 : Int) == (n1 : Int) + (n4 : Int)) = true := by
      rw [beq_iff_eq, hM0, List.length_append, HL.out.1, HL.out.2.2.2.1]; omega
    have d1 : ((M1 : Int) == (n2 : Int) + (n5 : Int)) = true := by
      rw [beq_iff_eq, hM1, List.length_append, HL.out.2.1, HL.out.2.2.2.2.1]; omega
    have d2 : ((M2 : Int) == (n3 : Int) + (n6 : Int)) = true := by
      rw [beq_iff_eq, hM2, List.length_append, HL.out.2.2.1, HL.out.2.2.2.2.2]; omega
    have HQ : Hid (∀ w', Ext w14 w' → w'.cell? ⟨Be, 0, none⟩ = some (.slice A0 M0 C0) ∧ w'.cell? ⟨Be, 1, none⟩ = some (.slice A1 M1 C1) ∧ w'.cell? ⟨Be, 2, none⟩ = some (.slice A2 M2 C2)) := by
      intro w' hx'
      have hb := rowIs_ext hB14 hx'
      rw [e9, e10, e11] at hb
      exact ⟨hb.cell (i := 0) (by omega), hb.cell (i := 1) (by omega), hb.cell (i := 2) (by omega)⟩
    have hct := keysForTags_any Be _ _ _ _ _ _ _ _ _ _ _ _ _ hB14 hK14 kk7 kk8 lk
    have TL : Hid (∀ l : List Int, l = tagsOf ks impl inst ++ tagsOf ks' impl inst → (l = [] ↔ l.length = 0)) := fun l _ => by simp
    clear e9 e10 e11 hK14 hR14 hC14 hB14 hM0 hM1 hM2 T1 T2 R1 R2 hEm E7 Eb7 x8 x9 x10 x11 x12 x13 y9 y10 y11 y12 z47 X7 k7' k8' kp14 bl14 HL K14 z13 x7 le7 HBS y13 nT1 nT2 nR1 nR2
    rw [HT.out.1, List.length_append] at hct
    generalize hts : tagsOf ks impl inst = ts at *
    generalize hts' : tagsOf ks' impl inst = ts' at *
    clear hts hts'
    go_wp2_with fail
    refine hct.mono ?_
    rintro e w15 ⟨a15, c15, rfl, T, nT, x15⟩
    obtain ⟨q0, q1, q2⟩ := HQ.out _ x15
    have nT' : a15 = none ↔ ts.length + ts'.length = 0 := by
      rw [nT]
      constructor
      · intro h; rw [← List.length_append, h]; rfl
      · intro h; rw [← List.length_append] at h; exact List.eq_nil_of_length_eq_zero h
    have HN : Hid (a15 = none ↔ ts.length + ts'.length = 0) := nT'
    clear nT nT' hct
    go_wp2_with fail
    refine (intsConcat_any _ _ _ _ _ _ _ _ _ _ _ _ T (T1'.ext grows_int x15) (T2'.ext grows_int x15) HN.out (by omega) (by omega)).mono ?_
    rintro e w16 ⟨rfl, x16⟩
    have y16 : Ext w14 w16 := x15.trans x16
    clear T T1' T2' q0 q1 q2 HN
    obtain ⟨hK14, hR14, hB14⟩ := HC.out
    have hcr := rvsFor_any Be _ _ _ _ _ _ _ _ _ (rowIs_ext hB14 y16) (hR14.keep grows_rv (y16.keeps _)) (kk7.ext y16) lr (Nat.le_trans hs14 y16.le)
    rw [HT.out.2.1, List.length_append] at hcr
    go_wp2_with fail
    refine hcr.mono ?_
    rintro e w17 ⟨a17, c17, rfl, R, nR, x17⟩
    have nR' : a17 = none ↔ (rvsOf rs impl).length + (rvsOf rs' impl).length = 0 := by
      rw [nR]
      constructor
      · intro h; rw [← List.length_append, h]; rfl
      · intro h; rw [← List.length_append] at h; exact List.eq_nil_of_length_eq_zero h
    have HN : Hid (a17 = none ↔ (rvsOf rs impl).length + (rvsOf rs' impl).length = 0) := nR'
    have y17 : Ext w14 w17 := y16.trans x17
    clear nR nR' hcr
    go_wp2_with fail
    refine (rvsConcat_any _ _ _ _ _ _ _ _ _ _ _ _ R (R1'.ext grows_rv y17) (R2'.ext grows_rv y17) HN.out (by omega) (by omega)).mono ?_
    rintro e w18 ⟨rfl, x18⟩
    have y18 : Ext w14 w18 := y17.trans x18
    have hck := knows_any Be _ _ _ _ _ _ _ _ _ _ (rowIs_ext hB14 y18) (hK14.keep grows_akey (y18.keeps _)) (hR14.keep grows_rv (y18.keeps _)) (kk7.ext y18) lr (Nat.le_trans hs14 y18.le)
    rw [HT.out.2.2] at hck
    clear hK14 hR14 hB14 R R1' R2' HN HC HQ HT kk7 kk8
    generalize knowsB ks rs impl = p1 at *
    generalize knowsB ks' rs' impl = p2 at *
    go_wp2_with fail
    refine hck.mono ?_
    rintro e w19 ⟨rfl, x19⟩
    have X19 : Ext w w19 := X14.trans (y18.trans x19)
    clear hck
    cases p1 <;> cases p2
    all_goals
      go_wp2_with fail
      go_ret
      exact ⟨rfl, X19⟩
end Go.Proofs.Qxb6606015a
