/- The walks of FnTreeProved and FnTreeSteps: they return true at every input, whatever words the table of SHA-256 holds. Conditions: errMissing and errProofFailed hold errors; bits.deBruijn64tab holds its table. -/
import Derived.Test.YtokopcbmpnnkcaaDoorU11
namespace Go.Proofs.YtokopcbmpnnkcaaDoor
open Go.RowKit
set_option linter.unusedVariables false

set_option maxHeartbeats 4000000 in
set_option maxRecDepth 20000 in
theorem walk_FnTreeProved (v0 : Value) (rs : List (List Int)) (a b : Int) (w : World)
    (h0 : (RowsIn w v0 rs ∧ OctR rs) ∧ (rs.length ≤ 5864062014634 ∧ ∀ l ∈ rs, l.length ≤ 140737488351232)) (_ : (Lit.int .i64 a).wf = true) (_ : (Lit.int .i64 b).wf = true) (hL : laidMetH Tryd.prog Rows.fnTreeProvedRow.laid w) (hsh : w.ShapedOpen Tryd.prog) :
    Calls Tryd.prog 9 #[v0, .int .i64 a, .int .i64 b] w fun e w' => e = .returned (.bool true) ∧ Below w.heap.size w w' := by
  rw [MakeChecks.laidMetH_plain _ _ _ (by kernel_rfl)] at hL
  have hT : Tab w := tab_of_laid hL
  obtain ⟨P0t, P0a, hP, hP0⟩ := proofFailed_of rfl hL.tail.tail
  obtain ⟨E0t, E0a, hE, hE0⟩ := missing_of rfl hL.tail.tail.tail
  obtain ⟨ks, hK⟩ := table_of hsh
  have hk0 : 4 < w.heap.size := (Array.getElem?_eq_some_iff.1 hK.2.2).1
  have HW := Lib.hid (fun (p : BW w) => trWorks_any ks p.val (hK.below p.bel hk0))
  have hpl : ∀ p ∈ rs, p.length < 1125899906842624 := fun p hp => by have := h0.2.2 p hp; omega
  have HV0 := Lib.hid h0.1.1
  have HST := Lib.hid (fun (v : Value) (ms : List (List Int)) w' (hb : Below w.heap.size w w') (hv : RowsIn w' v ms) (hm : ms.length ≤ 1048576) (hp : ∀ p ∈ ms, p.length < 1125899906842624) => implStore_any ks ms v E0t E0a w' hv hm hp (hK.below hb hk0) (hT.below hb) ((hb.cell (p := ⟨0, 0, none⟩) hE0).trans hE) (Nat.lt_of_lt_of_le hE0 hb.size))
  have HTH := Lib.hid (fun (t : Nat) (v : Value) (ms : List (List Int)) w' (hb : Below w.heap.size w w') (ht : t ≤ 1048576) (ht0 : t ≠ 0) (hv : RowsIn w' v ms) => implTreeHash_any ks ms (t : Int) t v E0t E0a w' (Int.emod_eq_of_lt (by omega) (by omega)) ht0 hv (hK.below hb hk0) ((hb.cell (p := ⟨0, 0, none⟩) hE0).trans hE) (Nat.lt_of_lt_of_le hE0 hb.size))
  have HPR := Lib.hid (fun (t n : Nat) (v : Value) (ms : List (List Int)) w' (hb : Below w.heap.size w w') (ht : t ≤ 1048576) (hv : RowsIn w' v ms) => implProveRecord_any ks ms (t : Int) (n : Int) t v E0t E0a w' (Int.emod_eq_of_lt (by omega) (by omega)) hv (hK.below hb hk0) ((hb.cell (p := ⟨0, 0, none⟩) hE0).trans hE) (Nat.lt_of_lt_of_le hE0 hb.size))
  have HPT := Lib.hid (fun (t n : Nat) (v : Value) (ms : List (List Int)) w' (hb : Below w.heap.size w w') (ht : t ≤ 1048576) (hv : RowsIn w' v ms) => implProveTree_any ks ms (t : Int) (n : Int) t v E0t E0a w' (Int.emod_eq_of_lt (by omega) (by omega)) hv (hK.below hb hk0) ((hb.cell (p := ⟨0, 0, none⟩) hE0).trans hE) (Nat.lt_of_lt_of_le hE0 hb.size))
  have HK := Lib.hid hK
  obtain ⟨A0, c0, rfl⟩ := h0.1.1.form
  have HCT := Lib.hid (fun (ps : List (List Int)) (t n : Nat) (th h : List Int) (v tv ev : Value) w' (hb : Below w.heap.size w w') (hv : RowsIn w' v ps) (hl : ps.length ≤ 5864062014640) (ht : BIn w' tv th) (hh : BIn w' ev h) (hn1 : 1 ≤ n) (hnt : n ≤ t) (ht20 : t ≤ 1048576) (h1 : th.length = 32) (h2 : h.length = 32) (h3 : ∀ p ∈ ps, p.length = 32) (hr : Tr.runTree (nhK ks) ps 0 t n h = some (h, th)) => implCheckTree_good ks P0t P0a t n v tv ev ps th h w' hn1 hnt ht20 hv hl ht hh h1 h2 h3 (hK.below hb hk0) ((hb.cell (p := ⟨1, 0, none⟩) hP0).trans hP) (Nat.lt_of_lt_of_le hP0 hb.size) hr)
  clear hL hsh hK hE hT hP
  have HB1 : Hid (Below w.heap.size w w) := Lib.hid (Below.refl _ _)
  by_cases hz : rs.length = 0
  · have hb1 : ((rs.length : Int) == 0) = true := by rw [hz]; rfl
    clear h0 hpl hz
    go_enter Tryd.func9, Tryd.ntmps9
    go_wp2_with fail
    refine (HW.out ⟨w, HB1.out⟩).mono ?_
    rintro e w5 ⟨rfl, hb5⟩
    have HB5 := Lib.hid hb5
    clear hb5
    go_wp2_with fail
    go_ret
    exact ⟨rfl, HB5.out⟩
  · have hb1 : ((rs.length : Int) == 0) = false := by rw [beq_eq_false_iff_ne]; omega
    by_cases hbig : 1048576 < rs.length
    · have hb2 : decide ((1048576 : Int) < (rs.length : Int)) = true := by simp; omega
      clear h0 hpl hbig hz
      go_enter Tryd.func9, Tryd.ntmps9
      go_wp2_with fail
      refine (HW.out ⟨w, HB1.out⟩).mono ?_
      rintro e w5 ⟨rfl, hb5⟩
      have HB5 := Lib.hid hb5
      clear hb5
      go_wp2_with fail
      go_ret
      exact ⟨rfl, HB5.out⟩
    · have hb2 : decide ((1048576 : Int) < (rs.length : Int)) = false := by simp; omega
      obtain ⟨M, hM⟩ : ∃ M, M = rs.length := ⟨_, rfl⟩
      have hTl := rem_lt a (M : Int) (by omega)
      have HAT := Lib.hid (fun w => spec_At a (M : Int) w (by omega) (by omega))
      have HTE := Lib.hid (rem_eq a (M : Int) (by omega))
      obtain ⟨T, hTT⟩ : ∃ T, T = 1 + rem a (M : Int) := ⟨_, rfl⟩
      have hTc : (1 : Int) + ((rem a (M : Int) : Nat) : Int) = (T : Int) := by omega
      have hNl := rem_lt b (T : Int) (by omega)
      have HAN := Lib.hid (fun w => spec_At b (T : Int) w (by omega) (by omega))
      have HNE := Lib.hid (rem_eq b (T : Int) (by omega))
      obtain ⟨N, hNN⟩ : ∃ N, N = 1 + rem b (T : Int) := ⟨_, rfl⟩
      have hNc : (1 : Int) + ((rem b (T : Int) : Nat) : Int) = (N : Int) := by omega
      have hT1 : 1 ≤ T := by omega
      have hTM : T ≤ M := by omega
      have hN1 : 1 ≤ N := by omega
      have hNT : N ≤ T := by omega
      have S1 := Lib.hid (fun w' hb => HST.out _ rs w' hb (HV0.out.below hb) (by omega) hpl)
      have H1 := Lib.hid (fun v w' hb hv => HTH.out T v (stored ks rs) w' hb (by omega) (by omega) hv)
      rw [treeH_stored (ks := ks) (rs := rs) (t := T) (by omega) (by omega)] at H1
      have H2 := Lib.hid (fun v w' hb hv => HTH.out N v (stored ks rs) w' hb (by omega) (by omega) hv)
      rw [treeH_stored (ks := ks) (rs := rs) (t := N) (by omega) (by omega)] at H2
      have P1 := Lib.hid (fun v w' hb hv => HPT.out T N v (stored ks rs) w' hb (by omega) hv)
      rw [pfTree_stored (ks := ks) (rs := rs) (t := T) (n := N) (by omega) (by omega) (by omega)] at P1
      have hlenP1 : (Tr.TP (nhK ks) (recF ks rs) 0 T N).length ≤ 5864062014640 := by
        have := pfTree_len (ks := ks) (ls := stored ks rs) (T := T) (n := (N : Int)) (m := 20) (by omega) (pfTree_stored (by omega) (by omega) (by omega))
        omega
      have C1 := Lib.hid (fun v tv ev w' hb hv ht hh => HCT.out (Tr.TP (nhK ks) (recF ks rs) 0 T N) T N (Tr.T (nhK ks) (recF ks rs) 0 T) (Tr.T (nhK ks) (recF ks rs) 0 N) v tv ev w' hb hv hlenP1 ht hh (by omega) (by omega) (by omega) (T_len (recF_len ks rs) _ _) (T_len (recF_len ks rs) _ _) (TP_32 (recF_len ks rs) _ _ _) (run_TP_all (by omega) (by omega)))
      rw [← hM] at S1
      clear HCT HST HTH HPR HPT
      generalize stored ks rs = st1 at *
      generalize Tr.T (nhK ks) (recF ks rs) 0 T = t1 at *
      generalize Tr.T (nhK ks) (recF ks rs) 0 N = t2 at *
      generalize Tr.TP (nhK ks) (recF ks rs) 0 T N = l1 at *
      generalize rem a (M : Int) = T0 at *
      generalize rem b (T : Int) = N0 at *
      have hM20 : M ≤ 1048576 := by omega
      rw [← hM] at hb1 hb2 ⊢
      clear hM hz hbig h0 hpl hTT hNN hlenP1 hNl hTl
      go_enter Tryd.func9, Tryd.ntmps9
      go_wp2_with fail
      refine (HAT.out _).mono ?_
      rintro e w' ⟨rfl, rfl⟩
      rw [HTE.out]
      go_wp2_with fail
      refine (HAN.out _).mono ?_
      rintro e w' ⟨rfl, rfl⟩
      rw [HNE.out]
      go_wp2_with fail
      refine (S1.out w (Below.refl _ _)).mono ?_
      rintro e w1 ⟨⟨u1, us1, rfl, ho1, hf1⟩, hb1'⟩
      have HO1 := Lib.hid ho1.in_
      have HB1 := Lib.hid hb1'
      clear ho1 hf1 hb1'
      go_wp2_with fail
      refine (H1.out u1 w1 HB1.out HO1.out).mono ?_
      rintro e w2 ⟨⟨va, rfl, hr2⟩, hb2'⟩
      have Ha2 : Hid (BIn w2 va t1) := Lib.hid hr2.in_
      have HO2 := Lib.hid (HO1.out.below hb2')
      have HB2 : Hid (Below w.heap.size w w2) := Lib.hid (bl_step HB1.out hb2' (Nat.le_refl _))
      clear hr2 hb2'
      go_wp2_with fail
      refine (H2.out u1 w2 HB2.out HO2.out).mono ?_
      rintro e w3 ⟨⟨vc, rfl, hr2⟩, hb2'⟩
      have Hc3 : Hid (BIn w3 vc t2) := Lib.hid hr2.in_
      have HO3 := Lib.hid (HO2.out.below hb2')
      have HB3 : Hid (Below w.heap.size w w3) := Lib.hid (bl_step HB2.out hb2' (Nat.le_refl _))
      have Ha3 := Lib.hid (Ha2.out.below hb2')
      clear hr2 hb2'
      go_wp2_with fail
      refine (P1.out u1 w3 HB3.out HO3.out).mono ?_
      rintro e w4 ⟨⟨vp, rfl, hr3⟩, hb3'⟩
      have Hp4 : Hid (RowsIn w4 vp l1) := Lib.hid hr3.in_
      have HO4 := Lib.hid (HO3.out.below hb3')
      have HB4 : Hid (Below w.heap.size w w4) := Lib.hid (bl_step HB3.out hb3' (Nat.le_refl _))
      have Ha4 := Lib.hid (Ha3.out.below hb3')
      have Hc4 := Lib.hid (Hc3.out.below hb3')
      clear hr3 hb3'
      go_wp2_with fail
      refine (C1.out vp va vc w4 HB4.out Hp4.out Ha4.out Hc4.out).mono ?_
      rintro e w5 ⟨rfl, hb4'⟩
      have HB5 : Hid (Below w.heap.size w w5) := Lib.hid (bl_step HB4.out hb4' (Nat.le_refl _))
      clear hb4'
      go_wp2_with fail
      go_ret
      exact ⟨rfl, HB5.out⟩
set_option maxHeartbeats 4000000 in
set_option maxRecDepth 20000 in
theorem walk_FnTreeSteps (v0 : Value) (rs : List (List Int)) (a b c : Int) (w : World)
    (h0 : (RowsIn w v0 rs ∧ OctR rs) ∧ (rs.length ≤ 5864062014634 ∧ ∀ l ∈ rs, l.length ≤ 140737488351232)) (_ : (Lit.int .i64 a).wf = true) (_ : (Lit.int .i64 b).wf = true) (_ : (Lit.int .i64 c).wf = true) (hL : laidMetH Tryd.prog Rows.fnTreeStepsRow.laid w) (hsh : w.ShapedOpen Tryd.prog) :
    Calls Tryd.prog 10 #[v0, .int .i64 a, .int .i64 b, .int .i64 c] w fun e w' => e = .returned (.bool true) ∧ Below w.heap.size w w' := by
  rw [MakeChecks.laidMetH_plain _ _ _ (by kernel_rfl)] at hL
  have hT : Tab w := tab_of_laid hL
  obtain ⟨P0t, P0a, hP, hP0⟩ := proofFailed_of rfl hL.tail.tail
  obtain ⟨E0t, E0a, hE, hE0⟩ := missing_of rfl hL.tail.tail.tail
  obtain ⟨ks, hK⟩ := table_of hsh
  have hk0 : 4 < w.heap.size := (Array.getElem?_eq_some_iff.1 hK.2.2).1
  have HW := Lib.hid (fun (p : BW w) => trWorks_any ks p.val (hK.below p.bel hk0))
  have hpl : ∀ p ∈ rs, p.length < 1125899906842624 := fun p hp => by have := h0.2.2 p hp; omega
  have HV0 := Lib.hid h0.1.1
  have HST := Lib.hid (fun (v : Value) (ms : List (List Int)) w' (hb : Below w.heap.size w w') (hv : RowsIn w' v ms) (hm : ms.length ≤ 1048576) (hp : ∀ p ∈ ms, p.length < 1125899906842624) => implStore_any ks ms v E0t E0a w' hv hm hp (hK.below hb hk0) (hT.below hb) ((hb.cell (p := ⟨0, 0, none⟩) hE0).trans hE) (Nat.lt_of_lt_of_le hE0 hb.size))
  have HTH := Lib.hid (fun (t : Nat) (v : Value) (ms : List (List Int)) w' (hb : Below w.heap.size w w') (ht : t ≤ 1048576) (ht0 : t ≠ 0) (hv : RowsIn w' v ms) => implTreeHash_any ks ms (t : Int) t v E0t E0a w' (Int.emod_eq_of_lt (by omega) (by omega)) ht0 hv (hK.below hb hk0) ((hb.cell (p := ⟨0, 0, none⟩) hE0).trans hE) (Nat.lt_of_lt_of_le hE0 hb.size))
  have HPR := Lib.hid (fun (t n : Nat) (v : Value) (ms : List (List Int)) w' (hb : Below w.heap.size w w') (ht : t ≤ 1048576) (hv : RowsIn w' v ms) => implProveRecord_any ks ms (t : Int) (n : Int) t v E0t E0a w' (Int.emod_eq_of_lt (by omega) (by omega)) hv (hK.below hb hk0) ((hb.cell (p := ⟨0, 0, none⟩) hE0).trans hE) (Nat.lt_of_lt_of_le hE0 hb.size))
  have HPT := Lib.hid (fun (t n : Nat) (v : Value) (ms : List (List Int)) w' (hb : Below w.heap.size w w') (ht : t ≤ 1048576) (hv : RowsIn w' v ms) => implProveTree_any ks ms (t : Int) (n : Int) t v E0t E0a w' (Int.emod_eq_of_lt (by omega) (by omega)) hv (hK.below hb hk0) ((hb.cell (p := ⟨0, 0, none⟩) hE0).trans hE) (Nat.lt_of_lt_of_le hE0 hb.size))
  have HK := Lib.hid hK
  obtain ⟨A0, c0, rfl⟩ := h0.1.1.form
  have HCT := Lib.hid (fun (ps : List (List Int)) (t n : Nat) (th h : List Int) (v tv ev : Value) w' (hb : Below w.heap.size w w') (hv : RowsIn w' v ps) (hl : ps.length ≤ 5864062014640) (ht : BIn w' tv th) (hh : BIn w' ev h) (hn1 : 1 ≤ n) (hnt : n ≤ t) (ht20 : t ≤ 1048576) (h1 : th.length = 32) (h2 : h.length = 32) (h3 : ∀ p ∈ ps, p.length = 32) (hr : Tr.runTree (nhK ks) ps 0 t n h = some (h, th)) => implCheckTree_good ks P0t P0a t n v tv ev ps th h w' hn1 hnt ht20 hv hl ht hh h1 h2 h3 (hK.below hb hk0) ((hb.cell (p := ⟨1, 0, none⟩) hP0).trans hP) (Nat.lt_of_lt_of_le hP0 hb.size) hr)
  clear hL hsh hK hE hT hP
  have HB1 : Hid (Below w.heap.size w w) := Lib.hid (Below.refl _ _)
  by_cases hz : rs.length = 0
  · have hb1 : ((rs.length : Int) == 0) = true := by rw [hz]; rfl
    clear h0 hpl hz
    go_enter Tryd.func10, Tryd.ntmps10
    go_wp2_with fail
    refine (HW.out ⟨w, HB1.out⟩).mono ?_
    rintro e w5 ⟨rfl, hb5⟩
    have HB5 := Lib.hid hb5
    clear hb5
    go_wp2_with fail
    go_ret
    exact ⟨rfl, HB5.out⟩
  · have hb1 : ((rs.length : Int) == 0) = false := by rw [beq_eq_false_iff_ne]; omega
    by_cases hbig : 1048576 < rs.length
    · have hb2 : decide ((1048576 : Int) < (rs.length : Int)) = true := by simp; omega
      clear h0 hpl hbig hz
      go_enter Tryd.func10, Tryd.ntmps10
      go_wp2_with fail
      refine (HW.out ⟨w, HB1.out⟩).mono ?_
      rintro e w5 ⟨rfl, hb5⟩
      have HB5 := Lib.hid hb5
      clear hb5
      go_wp2_with fail
      go_ret
      exact ⟨rfl, HB5.out⟩
    · have hb2 : decide ((1048576 : Int) < (rs.length : Int)) = false := by simp; omega
      obtain ⟨M, hM⟩ : ∃ M, M = rs.length := ⟨_, rfl⟩
      have hl1 := rem_lt c (M : Int) (by omega)
      have HA1 := Lib.hid (fun w => spec_At c (M : Int) w (by omega) (by omega))
      have HE1 := Lib.hid (rem_eq c (M : Int) (by omega))
      obtain ⟨C, hX1⟩ : ∃ X, X = 1 + rem c (M : Int) := ⟨_, rfl⟩
      have hc1 : (1 : Int) + ((rem c (M : Int) : Nat) : Int) = (C : Int) := by omega
      have hg1 : 1 ≤ C := by omega
      have hle1 : C ≤ M := by omega
      have hl2 := rem_lt b (C : Int) (by omega)
      have HA2 := Lib.hid (fun w => spec_At b (C : Int) w (by omega) (by omega))
      have HE2 := Lib.hid (rem_eq b (C : Int) (by omega))
      obtain ⟨B, hX2⟩ : ∃ X, X = 1 + rem b (C : Int) := ⟨_, rfl⟩
      have hc2 : (1 : Int) + ((rem b (C : Int) : Nat) : Int) = (B : Int) := by omega
      have hg2 : 1 ≤ B := by omega
      have hle2 : B ≤ C := by omega
      have hl3 := rem_lt a (B : Int) (by omega)
      have HA3 := Lib.hid (fun w => spec_At a (B : Int) w (by omega) (by omega))
      have HE3 := Lib.hid (rem_eq a (B : Int) (by omega))
      obtain ⟨A, hX3⟩ : ∃ X, X = 1 + rem a (B : Int) := ⟨_, rfl⟩
      have hc3 : (1 : Int) + ((rem a (B : Int) : Nat) : Int) = (A : Int) := by omega
      have hg3 : 1 ≤ A := by omega
      have hle3 : A ≤ B := by omega
      have S1 := Lib.hid (fun w' hb => HST.out _ rs w' hb (HV0.out.below hb) (by omega) hpl)
      have H1 := Lib.hid (fun v w' hb hv => HTH.out A v (stored ks rs) w' hb (by omega) (by omega) hv)
      rw [treeH_stored (ks := ks) (rs := rs) (t := A) (by omega) (by omega)] at H1
      have H2 := Lib.hid (fun v w' hb hv => HTH.out B v (stored ks rs) w' hb (by omega) (by omega) hv)
      rw [treeH_stored (ks := ks) (rs := rs) (t := B) (by omega) (by omega)] at H2
      have H3 := Lib.hid (fun v w' hb hv => HTH.out C v (stored ks rs) w' hb (by omega) (by omega) hv)
      rw [treeH_stored (ks := ks) (rs := rs) (t := C) (by omega) (by omega)] at H3
      have P1 := Lib.hid (fun v w' hb hv => HPT.out B A v (stored ks rs) w' hb (by omega) hv)
      rw [pfTree_stored (ks := ks) (rs := rs) (t := B) (n := A) (by omega) (by omega) (by omega)] at P1
      have hlenP1 : (Tr.TP (nhK ks) (recF ks rs) 0 B A).length ≤ 5864062014640 := by
        have := pfTree_len (ks := ks) (ls := stored ks rs) (T := B) (n := (A : Int)) (m := 20) (by omega) (pfTree_stored (by omega) (by omega) (by omega))
        omega
      have P2 := Lib.hid (fun v w' hb hv => HPT.out C B v (stored ks rs) w' hb (by omega) hv)
      rw [pfTree_stored (ks := ks) (rs := rs) (t := C) (n := B) (by omega) (by omega) (by omega)] at P2
      have hlenP2 : (Tr.TP (nhK ks) (recF ks rs) 0 C B).length ≤ 5864062014640 := by
        have := pfTree_len (ks := ks) (ls := stored ks rs) (T := C) (n := (B : Int)) (m := 20) (by omega) (pfTree_stored (by omega) (by omega) (by omega))
        omega
      have P3 := Lib.hid (fun v w' hb hv => HPT.out C A v (stored ks rs) w' hb (by omega) hv)
      rw [pfTree_stored (ks := ks) (rs := rs) (t := C) (n := A) (by omega) (by omega) (by omega)] at P3
      have hlenP3 : (Tr.TP (nhK ks) (recF ks rs) 0 C A).length ≤ 5864062014640 := by
        have := pfTree_len (ks := ks) (ls := stored ks rs) (T := C) (n := (A : Int)) (m := 20) (by omega) (pfTree_stored (by omega) (by omega) (by omega))
        omega
      have C1 := Lib.hid (fun v tv ev w' hb hv ht hh => HCT.out (Tr.TP (nhK ks) (recF ks rs) 0 B A) B A (Tr.T (nhK ks) (recF ks rs) 0 B) (Tr.T (nhK ks) (recF ks rs) 0 A) v tv ev w' hb hv hlenP1 ht hh (by omega) (by omega) (by omega) (T_len (recF_len ks rs) _ _) (T_len (recF_len ks rs) _ _) (TP_32 (recF_len ks rs) _ _ _) (run_TP_all (by omega) (by omega)))
      have C2 := Lib.hid (fun v tv ev w' hb hv ht hh => HCT.out (Tr.TP (nhK ks) (recF ks rs) 0 C B) C B (Tr.T (nhK ks) (recF ks rs) 0 C) (Tr.T (nhK ks) (recF ks rs) 0 B) v tv ev w' hb hv hlenP2 ht hh (by omega) (by omega) (by omega) (T_len (recF_len ks rs) _ _) (T_len (recF_len ks rs) _ _) (TP_32 (recF_len ks rs) _ _ _) (run_TP_all (by omega) (by omega)))
      have C3 := Lib.hid (fun v tv ev w' hb hv ht hh => HCT.out (Tr.TP (nhK ks) (recF ks rs) 0 C A) C A (Tr.T (nhK ks) (recF ks rs) 0 C) (Tr.T (nhK ks) (recF ks rs) 0 A) v tv ev w' hb hv hlenP3 ht hh (by omega) (by omega) (by omega) (T_len (recF_len ks rs) _ _) (T_len (recF_len ks rs) _ _) (TP_32 (recF_len ks rs) _ _ _) (run_TP_all (by omega) (by omega)))
      rw [← hM] at S1
      clear HCT HST HTH HPR HPT
      generalize stored ks rs = st1 at *
      generalize Tr.T (nhK ks) (recF ks rs) 0 A = t1 at *
      generalize Tr.T (nhK ks) (recF ks rs) 0 B = t2 at *
      generalize Tr.T (nhK ks) (recF ks rs) 0 C = t3 at *
      generalize Tr.TP (nhK ks) (recF ks rs) 0 B A = l1 at *
      generalize Tr.TP (nhK ks) (recF ks rs) 0 C B = l2 at *
      generalize Tr.TP (nhK ks) (recF ks rs) 0 C A = l3 at *
      generalize rem c (M : Int) = C0 at *
      generalize rem b (C : Int) = B0 at *
      generalize rem a (B : Int) = D0 at *
      have hM20 : M ≤ 1048576 := by omega
      rw [← hM] at hb1 hb2 ⊢
      clear hM hz hbig h0 hpl hX1 hX2 hX3 hlenP1 hlenP2 hlenP3 hl1 hl2 hl3
      go_enter Tryd.func10, Tryd.ntmps10
      go_wp2_with fail
      refine (HA1.out _).mono ?_
      rintro e w' ⟨rfl, rfl⟩
      rw [HE1.out]
      go_wp2_with fail
      refine (HA2.out _).mono ?_
      rintro e w' ⟨rfl, rfl⟩
      rw [HE2.out]
      go_wp2_with fail
      refine (HA3.out _).mono ?_
      rintro e w' ⟨rfl, rfl⟩
      rw [HE3.out]
      go_wp2_with fail
      refine (S1.out w (Below.refl _ _)).mono ?_
      rintro e w1 ⟨⟨u1, us1, rfl, ho1, hf1⟩, hb1'⟩
      have HO1 := Lib.hid ho1.in_
      have HB1 := Lib.hid hb1'
      clear ho1 hf1 hb1'
      go_wp2_with fail
      refine (H1.out u1 w1 HB1.out HO1.out).mono ?_
      rintro e w2 ⟨⟨x, rfl, hr2⟩, hb2'⟩
      have Hx2 : Hid (BIn w2 x t1) := Lib.hid hr2.in_
      have HO2 := Lib.hid (HO1.out.below hb2')
      have HB2 : Hid (Below w.heap.size w w2) := Lib.hid (bl_step HB1.out hb2' (Nat.le_refl _))
      clear hr2 hb2'
      go_wp2_with fail
      refine (H2.out u1 w2 HB2.out HO2.out).mono ?_
      rintro e w3 ⟨⟨y, rfl, hr2⟩, hb2'⟩
      have Hy3 : Hid (BIn w3 y t2) := Lib.hid hr2.in_
      have HO3 := Lib.hid (HO2.out.below hb2')
      have HB3 : Hid (Below w.heap.size w w3) := Lib.hid (bl_step HB2.out hb2' (Nat.le_refl _))
      have Hx3 := Lib.hid (Hx2.out.below hb2')
      clear hr2 hb2'
      go_wp2_with fail
      refine (H3.out u1 w3 HB3.out HO3.out).mono ?_
      rintro e w4 ⟨⟨z, rfl, hr2⟩, hb2'⟩
      have Hz4 : Hid (BIn w4 z t3) := Lib.hid hr2.in_
      have HO4 := Lib.hid (HO3.out.below hb2')
      have HB4 : Hid (Below w.heap.size w w4) := Lib.hid (bl_step HB3.out hb2' (Nat.le_refl _))
      have Hx4 := Lib.hid (Hx3.out.below hb2')
      have Hy4 := Lib.hid (Hy3.out.below hb2')
      clear hr2 hb2'
      go_wp2_with fail
      refine (P1.out u1 w4 HB4.out HO4.out).mono ?_
      rintro e w5 ⟨⟨p, rfl, hr3⟩, hb3'⟩
      have Hp5 : Hid (RowsIn w5 p l1) := Lib.hid hr3.in_
      have HO5 := Lib.hid (HO4.out.below hb3')
      have HB5 : Hid (Below w.heap.size w w5) := Lib.hid (bl_step HB4.out hb3' (Nat.le_refl _))
      have Hx5 := Lib.hid (Hx4.out.below hb3')
      have Hy5 := Lib.hid (Hy4.out.below hb3')
      have Hz5 := Lib.hid (Hz4.out.below hb3')
      clear hr3 hb3'
      go_wp2_with fail
      refine (P2.out u1 w5 HB5.out HO5.out).mono ?_
      rintro e w6 ⟨⟨q, rfl, hr3⟩, hb3'⟩
      have Hq6 : Hid (RowsIn w6 q l2) := Lib.hid hr3.in_
      have HO6 := Lib.hid (HO5.out.below hb3')
      have HB6 : Hid (Below w.heap.size w w6) := Lib.hid (bl_step HB5.out hb3' (Nat.le_refl _))
      have Hx6 := Lib.hid (Hx5.out.below hb3')
      have Hy6 := Lib.hid (Hy5.out.below hb3')
      have Hz6 := Lib.hid (Hz5.out.below hb3')
      have Hp6 := Lib.hid (Hp5.out.below hb3')
      clear hr3 hb3'
      go_wp2_with fail
      refine (P3.out u1 w6 HB6.out HO6.out).mono ?_
      rintro e w7 ⟨⟨r, rfl, hr3⟩, hb3'⟩
      have Hr7 : Hid (RowsIn w7 r l3) := Lib.hid hr3.in_
      have HO7 := Lib.hid (HO6.out.below hb3')
      have HB7 : Hid (Below w.heap.size w w7) := Lib.hid (bl_step HB6.out hb3' (Nat.le_refl _))
      have Hx7 := Lib.hid (Hx6.out.below hb3')
      have Hy7 := Lib.hid (Hy6.out.below hb3')
      have Hz7 := Lib.hid (Hz6.out.below hb3')
      have Hp7 := Lib.hid (Hp6.out.below hb3')
      have Hq7 := Lib.hid (Hq6.out.below hb3')
      clear hr3 hb3'
      go_wp2_with fail
      refine (C1.out p y x w7 HB7.out Hp7.out Hy7.out Hx7.out).mono ?_
      rintro e w8 ⟨rfl, hb4'⟩
      have HB8 : Hid (Below w.heap.size w w8) := Lib.hid (bl_step HB7.out hb4' (Nat.le_refl _))
      have Hx8 := Lib.hid (Hx7.out.below hb4')
      have Hy8 := Lib.hid (Hy7.out.below hb4')
      have Hz8 := Lib.hid (Hz7.out.below hb4')
      have Hp8 := Lib.hid (Hp7.out.below hb4')
      have Hq8 := Lib.hid (Hq7.out.below hb4')
      have Hr8 := Lib.hid (Hr7.out.below hb4')
      clear hb4'
      go_wp2_with fail
      refine (C2.out q z y w8 HB8.out Hq8.out Hz8.out Hy8.out).mono ?_
      rintro e w9 ⟨rfl, hb4'⟩
      have HB9 : Hid (Below w.heap.size w w9) := Lib.hid (bl_step HB8.out hb4' (Nat.le_refl _))
      have Hx9 := Lib.hid (Hx8.out.below hb4')
      have Hz9 := Lib.hid (Hz8.out.below hb4')
      have Hr9 := Lib.hid (Hr8.out.below hb4')
      clear hb4'
      go_wp2_with fail
      refine (C3.out r z x w9 HB9.out Hr9.out Hz9.out Hx9.out).mono ?_
      rintro e w10 ⟨rfl, hb4'⟩
      have HB10 : Hid (Below w.heap.size w w10) := Lib.hid (bl_step HB9.out hb4' (Nat.le_refl _))
      clear hb4'
      go_wp2_with fail
      go_ret
      exact ⟨rfl, HB10.out⟩

end Go.Proofs.YtokopcbmpnnkcaaDoor
