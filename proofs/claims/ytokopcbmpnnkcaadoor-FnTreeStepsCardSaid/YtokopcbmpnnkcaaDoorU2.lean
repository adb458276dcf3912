/- What the proofs out of the stored hashes of records are: plain facts. The walk of FnRecordProved: it returns true at every input, whatever words the table of SHA-256 holds. Conditions: errMissing and errProofFailed hold errors; bits.deBruijn64tab holds its table. -/
import Derived.Test.YtokopcbmpnnkcaaDoorU1
namespace Go.Proofs.YtokopcbmpnnkcaaDoor
open Go.RowKit
set_option linter.unusedVariables false

theorem pfRec_stored {ks : List Int} {rs : List (List Int)} {t n : Nat} (hn : n < t) (ht : t ≤ rs.length) : pfRec ks (stored ks rs) t (n : Int) = some (Tr.LP (nhK ks) (recF ks rs) 0 t n) := by
  have h := Tr.leafPf_eq (nhK ks) (recF ks rs) (n := n) (Tr.Al.zero t) []
  rw [List.append_nil] at h
  rw [pfRec_good hn]
  unfold stored
  rw [rd_St (recF_len ks rs) (fun c hc => by have := Tr.leafIx_in (Tr.Al.zero t) hc; omega), Option.map_some, h]
theorem pfTree_stored {ks : List Int} {rs : List (List Int)} {t n : Nat} (h1 : 1 ≤ n) (hn : n ≤ t) (ht : t ≤ rs.length) : pfTree ks (stored ks rs) t (n : Int) = some (Tr.TP (nhK ks) (recF ks rs) 0 t n) := by
  have h := Tr.treePf_eq (nhK ks) (recF ks rs) (n := n) (Tr.Al.zero t) (by omega) (by omega) []
  rw [List.append_nil] at h
  rw [pfTree_good ⟨h1, hn⟩]
  unfold stored
  rw [rd_St (recF_len ks rs) (fun c hc => by have := Tr.treeIx_in (Tr.Al.zero t) hc; omega), Option.map_some, h]
theorem LP_32 {ks : List Int} {f : Nat → List Int} (hf : ∀ n, (f n).length = 32) (lo d n : Nat) : ∀ h ∈ Tr.LP (nhK ks) f lo d n, h.length = 32 := by
  induction d using Nat.strongRecOn generalizing lo with
  | ind d ih =>
    by_cases h1 : d ≤ 1
    · rw [Tr.LP_one _ _ h1]; intro h hh; cases hh
    · have hp := Tr.half_pos d
      have hl := Tr.half_lt (d := d) (by omega)
      by_cases hn : n < lo + Tr.half d
      · rw [Tr.LP_left _ _ (by omega) hn]
        intro h hh
        rcases List.mem_append.1 hh with hh | hh
        · exact ih _ hl _ h hh
        · obtain rfl : h = _ := by simpa using hh
          exact T_len hf _ _
      · rw [Tr.LP_right _ _ (by omega) hn]
        intro h hh
        rcases List.mem_append.1 hh with hh | hh
        · exact ih _ (show d - Tr.half d < d by omega) _ h hh
        · obtain rfl : h = _ := by simpa using hh
          exact T_len hf _ _
theorem map_h32 {hs : List (List Int)} (h : ∀ x ∈ hs, x.length = 32) : hs.map h32 = hs := by
  induction hs with
  | nil => rfl
  | cons a r ih => rw [List.map_cons, h32_self (h a (by simp)), ih (fun x hx => h x (by simp [hx]))]
theorem recOK_LP {ks : List Int} {f : Nat → List Int} (hf : ∀ n, (f n).length = 32) {t n : Nat} (hn : n < t) (ht : t ≤ 1048576) : recOK ks (Tr.LP (nhK ks) f 0 t n) (t : Int) (n : Int) (Tr.T (nhK ks) f 0 t) (f n) = true := by
  unfold recOK
  rw [Int.emod_eq_of_lt (by omega) (by omega)]
  refine decide_eq_true ⟨by omega, by omega, ?_⟩
  rw [map_h32 (LP_32 hf _ _ _), h32_self (hf n), h32_self (T_len hf _ _), Int.toNat_natCast, Int.toNat_natCast]
  exact Tr.run_LP (nhK ks) f (Nat.zero_le _) (by omega)
theorem LP_at {ks : List Int} {f : Nat → List Int} (d n : Nat) (h : d ≤ 1) : Tr.LP (nhK ks) f 0 d n = [] := Tr.LP_one _ _ h
set_option maxHeartbeats 4000000 in
set_option maxRecDepth 20000 in
theorem walk_FnRecordProved (v0 : Value) (rs : List (List Int)) (a b : Int) (w : World)
    (h0 : (RowsIn w v0 rs ∧ OctR rs) ∧ (rs.length ≤ 5864062014634 ∧ ∀ l ∈ rs, l.length ≤ 140737488351232)) (_ : (Lit.int .i64 a).wf = true) (_ : (Lit.int .i64 b).wf = true) (hL : laidMetH Tryd.prog Rows.fnRecordProvedRow.laid w) (hsh : w.ShapedOpen Tryd.prog) :
    Calls Tryd.prog 8 #[v0, .int .i64 a, .int .i64 b] w fun e w' => e = .returned (.bool true) ∧ Below w.heap.size w w' := by
  rw [MakeChecks.laidMetH_plain _ _ _ (by kernel_rfl)] at hL
  have hT : Tab w := tab_of_laid hL
  obtain ⟨P0t, P0a, hP, hP0⟩ := proofFailed_of rfl hL.tail.tail
  obtain ⟨E0t, E0a, hE, hE0⟩ := missing_of rfl hL.tail.tail.tail
  obtain ⟨ks, hK⟩ := table_of hsh
  have hk0 : 4 < w.heap.size := (Array.getElem?_eq_some_iff.1 hK.2.2).1
  have HW := Lib.hid (fun (p : BW w) => trWorks_any ks p.val (hK.below p.bel hk0))
  have hpl : ∀ p ∈ rs, p.length < 1125899906842624 := fun p hp => by have := h0.2.2 p hp; omega
  have HV0 := Lib.hid h0.1.1
  have HST := Lib.hid (fun (v : Value) (ms : List (List Int)) w' (hb : Below w.heap.size w w') (hv : RowsIn w' v ms) (hm : ms.length ≤ 1048576) (hp : ∀ p ∈ ms, p.length < 1125899906842624) => implStore_any ks ms v E0t E0a w' hv hm hp (hK.below hb hk0) (hT.below hb) ((hb.cell (p := ⟨0, 0, none⟩) hE0).trans hE) (Nat.lt_of_lt_of_le hE0 hb.size))
  have HTH := Lib.hid (fun (t : Nat) (v : Value) (ms : List (List Int)) w' (hb : Below w.heap.size w w') (ht : t ≤ 1048576) (ht0 : t ≠ 0) (hv : RowsIn w' v ms) => implTreeHash_any ks ms (t : Int) t v E0t E0a w' (Int.emod_eq_of_lt (by omega) (by omega)) ht0 hv (hK.below hb hk0) ((hb.cell (p := ⟨0, 0, none⟩) hE0).trans hE) (Nat.lt_of_lt_of_le hE0 hb.size))
  have HPR := Lib.hid (fun (t n : Nat) (v : Value) (ms : List (List Int)) w' (hb : Below w.heap.size w w') (ht : t ≤ 1048576) (hv : RowsIn w' v ms) => implProveRecord_any ks ms (t : Int) (n : Int) t v E0t E0a w' (Int.emod_eq_of_lt (by omega) (by omega)) hv (hK.below hb hk0) ((hb.cell (p := ⟨0, 0, none⟩) hE0).trans hE) (Nat.lt_of_lt_of_le hE0 hb.size))
  have HPT := Lib.hid (fun (t n : Nat) (v : Value) (ms : List (List Int)) w' (hb : Below w.heap.size w w') (ht : t ≤ 1048576) (hv : RowsIn w' v ms) => implProveTree_any ks ms (t : Int) (n : Int) t v E0t E0a w' (Int.emod_eq_of_lt (by omega) (by omega)) hv (hK.below hb hk0) ((hb.cell (p := ⟨0, 0, none⟩) hE0).trans hE) (Nat.lt_of_lt_of_le hE0 hb.size))
  have HK := Lib.hid hK
  obtain ⟨A0, c0, rfl⟩ := h0.1.1.form
  have HCK := Lib.hid (fun (ps : List (List Int)) (t n : Nat) (th h : List Int) (v tv ev : Value) w' (hb : Below w.heap.size w w') (hv : RowsIn w' v ps) (hl : ps.length ≤ 5864062014640) (ht : BIn w' tv th) (hh : BIn w' ev h) => implCheckRecord_any ks P0t P0a (t : Int) (n : Int) v tv ev ps th h w' hv hl ht hh (hK.below hb hk0) ((hb.cell (p := ⟨1, 0, none⟩) hP0).trans hP) (Nat.lt_of_lt_of_le hP0 hb.size))
  clear hL hsh hK hE hT hP
  have HB1 : Hid (Below w.heap.size w w) := Lib.hid (Below.refl _ _)
  by_cases hz : rs.length = 0
  · have hb1 : ((rs.length : Int) == 0) = true := by rw [hz]; rfl
    clear h0 hpl hz
    go_enter Tryd.func8, Tryd.ntmps8
    go_wp2_with fail
    refine (HW.out ⟨w, HB1.out⟩).mono ?_
    rintro e w5 ⟨rfl, hb5⟩
    have HB5 := Lib.hid hb5
    clear hb5
    go_wp2_with fail
    go_ret
    exact ⟨rfl, HB5.out⟩
  · have hb1 : ((rs.length : Int) == 0) = false := by rw [beq_eq_false_iff_ne]; omega
    by_cases hbig : 1048576 < rs.length
    · have hb2 : decide ((1048576 : Int) < (rs.length : Int)) = true := by simp; omega
      clear h0 hpl hbig hz
      go_enter Tryd.func8, Tryd.ntmps8
      go_wp2_with fail
      refine (HW.out ⟨w, HB1.out⟩).mono ?_
      rintro e w5 ⟨rfl, hb5⟩
      have HB5 := Lib.hid hb5
      clear hb5
      go_wp2_with fail
      go_ret
      exact ⟨rfl, HB5.out⟩
    · have hb2 : decide ((1048576 : Int) < (rs.length : Int)) = false := by simp; omega
      obtain ⟨bb, off, rfl⟩ : ∃ b off, A0 = some ⟨b, off, none⟩ := by
        obtain ⟨A, c, e, h1, h2, h3⟩ := HV0.out
        cases e
        rcases h3 with h3 | ⟨b, off, e, _⟩
        · omega
        · exact ⟨b, off, e⟩
      have hr1 : RowsIn w (.slice (some ⟨bb, off, none⟩) rs.length c0) rs := HV0.out
      obtain ⟨M, hM⟩ : ∃ M, M = rs.length := ⟨_, rfl⟩
      have hTl := rem_lt a (M : Int) (by omega)
      have HAT := Lib.hid (fun w => spec_At a (M : Int) w (by omega) (by omega))
      have HTE := Lib.hid (rem_eq a (M : Int) (by omega))
      obtain ⟨T, hTT⟩ : ∃ T, T = 1 + rem a (M : Int) := ⟨_, rfl⟩
      have hTc : (1 : Int) + ((rem a (M : Int) : Nat) : Int) = (T : Int) := by omega
      have hNl := rem_lt b (T : Int) (by omega)
      have HAN := Lib.hid (fun w => spec_At b (T : Int) w (by omega) (by omega))
      have HNE := Lib.hid (rem_eq b (T : Int) (by omega))
      have hT1 : 1 ≤ T := by omega
      have hTM : T ≤ M := by omega
      generalize rem a (M : Int) = T0 at *
      generalize rem b (T : Int) = N at *
      have hNT : N < T := by omega
      have hM20 : M ≤ 1048576 := by omega
      obtain ⟨A1, c1, e1, q1, q2, q3⟩ := hr1
      obtain ⟨b1, off1, e1', hblt, hcell⟩ := q3.resolve_left (by omega)
      cases e1'
      cases e1
      obtain ⟨u, hu, hui⟩ := hcell N (rs[N]'(by omega)) (List.getElem?_eq_getElem (by omega))
      have hfn : recF ks rs N = rH ks (rs[N]'(by omega)) := by unfold recF; simp [List.getD, show N < rs.length by omega]
      have HU := Lib.hid hu
      have HRH := Lib.hid (fun w' (hb : Below w.heap.size w w') => impl_RecordHash_any ks (rs[N]'(by omega)) u w' (HK.out.below hb hk0) (hui.below hb) (hpl _ (List.getElem_mem _)))
      rw [show sha ks (0 :: (rs[N]'(by omega))) = recF ks rs N from hfn.symm] at HRH
      have S1 := Lib.hid (fun w' hb => HST.out _ rs w' hb (HV0.out.below hb) (by omega) hpl)
      have H1 := Lib.hid (fun v w' hb hv => HTH.out T v (stored ks rs) w' hb (by omega) (by omega) hv)
      rw [treeH_stored (ks := ks) (rs := rs) (t := T) (by omega) (by omega)] at H1
      have P1 := Lib.hid (fun v w' hb hv => HPR.out T N v (stored ks rs) w' hb (by omega) hv)
      rw [pfRec_stored (ks := ks) (rs := rs) hNT (by omega)] at P1
      have hlen : (Tr.LP (nhK ks) (recF ks rs) 0 T N).length ≤ 5864062014640 := by
        have := pfRec_len (ks := ks) (ls := stored ks rs) (T := T) (n := (N : Int)) (m := 20) (by omega) (pfRec_stored hNT (by omega))
        omega
      have C1 := Lib.hid (fun v tv ev w' hb hv ht hh => HCK.out (Tr.LP (nhK ks) (recF ks rs) 0 T N) T N (Tr.T (nhK ks) (recF ks rs) 0 T) (recF ks rs N) v tv ev w' hb hv hlen ht hh)
      rw [recOK_LP (recF_len ks rs) hNT (by omega)] at C1
      rw [← hM] at S1
      generalize stored ks rs = st1 at *
      generalize Tr.T (nhK ks) (recF ks rs) 0 T = t1 at *
      generalize Tr.LP (nhK ks) (recF ks rs) 0 T N = l1 at *
      generalize recF ks rs N = h1 at *
      have hnm : (N : Int) < (M : Int) := by omega
      have HBL := Lib.hid hblt
      rw [← hM] at hb1 hb2 ⊢
      clear hM hz hbig h0 hpl hTT hcell hu hui hfn hlen q1 q2 q3 HST HTH HPR HPT hNl hTl hblt
      go_enter Tryd.func8, Tryd.ntmps8
      go_wp2_with fail
      refine (HAT.out _).mono ?_
      rintro e w' ⟨rfl, rfl⟩
      rw [HTE.out]
      go_wp2_with fail
      refine (HAN.out _).mono ?_
      rintro e w' ⟨rfl, rfl⟩
      rw [HNE.out]
      go_wp2_with fail
      refine (S1.out w (Below.refl _ _)).mono ?_
      rintro e w1 ⟨⟨u1, us1, rfl, ho1, hf1⟩, hb1'⟩
      have HO1 := Lib.hid ho1.in_
      have HB1 := Lib.hid hb1'
      clear ho1 hf1 hb1'
      go_wp2_with fail
      refine (H1.out u1 w1 HB1.out HO1.out).mono ?_
      rintro e w2 ⟨⟨a2, rfl, hr2⟩, hb2'⟩
      have HA2 : Hid (BIn w2 a2 t1) := Lib.hid hr2.in_
      have HO2 := Lib.hid (HO1.out.below hb2')
      have HB2 : Hid (Below w.heap.size w w2) := Lib.hid (bl_step HB1.out hb2' (Nat.le_refl _))
      clear hr2 hb2'
      go_wp2_with fail
      refine (P1.out u1 w2 HB2.out HO2.out).mono ?_
      rintro e w3 ⟨⟨a3, rfl, hr3⟩, hb3'⟩
      have HP3 : Hid (RowsIn w3 a3 l1) := Lib.hid hr3.in_
      have HA3 := Lib.hid (HA2.out.below hb3')
      have HB3 : Hid (Below w.heap.size w w3) := Lib.hid (bl_step HB2.out hb3' (Nat.le_refl _))
      have cu : w3.cell? ⟨bb, off + N, none⟩ = some u := (HB3.out.cell (p := ⟨bb, off + N, none⟩) HBL.out).trans HU.out
      clear hr3 hb3'
      go_wp2_with fail
      refine (HRH.out w3 HB3.out).mono ?_
      rintro e w4 ⟨⟨g4, c4, rfl, ho4⟩, hb4'⟩
      have HH4 := Lib.hid (row_in ho4)
      have HP4 := Lib.hid (HP3.out.below hb4')
      have HA4 := Lib.hid (HA3.out.below hb4')
      have HB4 : Hid (Below w.heap.size w w4) := Lib.hid (bl_step HB3.out hb4' (Nat.le_refl _))
      clear ho4 hb4' cu
      go_wp2_with fail
      refine (C1.out a3 a2 _ w4 HB4.out HP4.out HA4.out HH4.out).mono ?_
      rintro e w5 ⟨rfl, hb5'⟩
      have HB5 : Hid (Below w.heap.size w w5) := Lib.hid (bl_step HB4.out hb5' (Nat.le_refl _))
      clear hb5'
      go_wp2_with fail
      go_ret
      exact ⟨rfl, HB5.out⟩

end Go.Proofs.YtokopcbmpnnkcaaDoor
