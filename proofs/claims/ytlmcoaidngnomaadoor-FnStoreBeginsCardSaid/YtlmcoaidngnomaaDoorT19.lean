/- The walk of FnStoreBegins: it returns true at every input, whatever words the table of SHA-256 holds. Conditions: impl.errMissing holds an error; bits.deBruijn64tab holds its table. -/
import Derived.Test.YtlmcoaidngnomaaDoorT18
import Derived.Deep.RegionWith
namespace Go.Proofs.YtlmcoaidngnomaaDoor
open Go.RowKit
set_option linter.unusedVariables false

theorem BRow.form {w : World} {base : Nat} {v : Value} {us : List Value} {ls : List (List Int)} (h : BRow w base v us ls) : (v = .slice none 0 0 ∧ ls = []) ∨ ∃ g c, v = .slice (some ⟨g, 0, none⟩) ls.length c ∧ ls.length ≤ c ∧ c ≤ 9223372036854775807 := by
  rcases h.1.2 with ⟨e, h0⟩ | ⟨g, cap, cur, e, hb, hh, hnc, hm, _⟩
  · exact .inl ⟨e, List.eq_nil_of_length_eq_zero h0⟩
  · exact .inr ⟨g, cap, e, hnc, by simpa [maxLen] using hm⟩
set_option maxHeartbeats 2000000 in
set_option maxRecDepth 20000 in
theorem walk_FnStoreBegins (v0 : Value) (rs : List (List Int)) (a : Int) (w : World)
    (h0 : (RowsIn w v0 rs ∧ OctR rs) ∧ (rs.length ≤ 5864062014634 ∧ ∀ l ∈ rs, l.length ≤ 140737488351232)) (_ : (Lit.int .i64 a).wf = true) (hL : laidMetH Tryd.prog Rows.fnStoreBeginsRow.laid w) (hsh : w.ShapedOpen Tryd.prog) :
    Calls Tryd.prog 9 #[v0, .int .i64 a] w fun e w' => e = .returned (.bool true) ∧ Below w.heap.size w w' := by
  rw [MakeChecks.laidMetH_plain _ _ _ (by kernel_rfl)] at hL
  have hT : Tab w := tab_of_laid hL
  obtain ⟨E0t, E0a, hE, hE0⟩ := missing_of rfl hL.tail
  obtain ⟨ks, hK⟩ := table_of hsh
  have hk0 : 4 < w.heap.size := (Array.getElem?_eq_some_iff.1 hK.2.2).1
  have HW := Lib.hid (fun (p : BW w) => trWorks_any ks p.val (hK.below p.bel hk0))
  have hpl : ∀ p ∈ rs, p.length < 1125899906842624 := fun p hp => by have := h0.2.2 p hp; omega
  have HV0 := Lib.hid h0.1.1
  have HST := Lib.hid (fun (v : Value) (ms : List (List Int)) w' (hb : Below w.heap.size w w') (hv : RowsIn w' v ms) (hm : ms.length ≤ 1048576) (hp : ∀ p ∈ ms, p.length < 1125899906842624) => implStore_any ks ms v E0t E0a w' hv hm hp (hK.below hb hk0) (hT.below hb) ((hb.cell (p := ⟨1, 0, none⟩) hE0).trans hE) (Nat.lt_of_lt_of_le hE0 hb.size))
  obtain ⟨A0, c0, rfl⟩ := h0.1.1.form
  clear hL hsh hK hE hT
  by_cases hbig : 1048576 < rs.length
  · have hb2 : decide ((1048576 : Int) < (rs.length : Int)) = true := by simp; omega
    clear h0 hpl hbig
    have HB1 : Hid (Below w.heap.size w w) := Lib.hid (Below.refl _ _)
    go_enter Tryd.func9, Tryd.ntmps9
    go_wp2_with fail
    refine (HW.out ⟨w, HB1.out⟩).mono ?_
    rintro e w5 ⟨rfl, hb5⟩
    have HB5 := Lib.hid hb5
    clear hb5
    go_wp2_with fail
    go_ret
    exact ⟨rfl, HB5.out⟩
  · have hb2 : decide ((1048576 : Int) < (rs.length : Int)) = false := by simp; omega
    have hc : rs.length ≤ c0 ∧ c0 ≤ 9223372036854775807 := by
      obtain ⟨A, c, e, h1, h2, h3⟩ := HV0.out
      cases e
      exact ⟨h1, h2⟩
    have hr1 : RowsIn w (.slice A0 rs.length c0) rs := HV0.out
    obtain ⟨M, hM⟩ : ∃ M, M = rs.length := ⟨_, rfl⟩
    have hkl := rem_lt a ((M : Int) + 1) (by omega)
    have HAT := Lib.hid (fun w => spec_At a ((M : Int) + 1) w (by omega) (by omega))
    have HKE := Lib.hid (rem_eq a ((M : Int) + 1) (by omega))
    generalize rem a ((M : Int) + 1) = K at *
    have S1 := Lib.hid (fun w' hb => HST.out _ rs w' hb (hr1.below hb) (by omega) hpl)
    by_cases hnil : rs.length = 0
    · obtain rfl : rs = [] := List.eq_nil_of_length_eq_zero hnil
      obtain rfl : K = 0 := by simp at hM; omega
      simp only [List.length_nil] at hM
      subst hM
      have hs0 : stored ks [] = [] := rfl
      rw [hs0] at S1
      simp only [List.length_nil] at S1
      have HC1 := Lib.hid (fun w => impl_StoredCount 0 w)
      rw [show rem (0 : Int) 1152921504606846976 = 0 from rem_self 0 _ (by omega), Idx.wh_zero] at HC1
      have HC2 := HC1
      clear hnil hr1 h0 hpl hbig hkl
      cases A0 with
      | none =>
        obtain rfl : c0 = 0 := by
          obtain ⟨A, c, e, h1, h2, h3⟩ := HV0.out
          cases e
          rcases h3 with h3 | ⟨b, off, e, _⟩
          · exact h3
          · cases e
        clear HST
        go_enter Tryd.func9, Tryd.ntmps9
        go_wp2_with fail
        refine (HAT.out _).mono ?_
        rintro e w' ⟨rfl, rfl⟩
        rw [HKE.out]
        go_upto_region 4 with fail
        go_region_with (first
          | (go_at_call 28; (with_reducible refine (S1.out w.drew (Below.refl _ _).drew).mono ?_); rintro e w3 ⟨⟨u1, us1, rfl, ho1, hf1⟩, hb1'⟩; have HO3 := Lib.hid ho1.in_; have HF3 := Lib.hid ho1.form; have HB3 : Hid (Below w.heap.size w w3) := Lib.hid (bl_step (Below.refl _ _).drew hb1' (Nat.le_refl _)); clear ho1 hf1 hb1')
          | (go_at_call 28; (with_reducible refine (S1.out w3 HB3.out).mono ?_); rintro e w4 ⟨⟨u2, us2, rfl, ho2, hf2⟩, hb2'⟩; have HO4 := Lib.hid ho2.in_; have HP4 := Lib.hid (HO3.out.below hb2'); have HB4 : Hid (Below w.heap.size w w4) := Lib.hid (bl_step HB3.out hb2' (Nat.le_refl _)); clear ho2 hf2 hb2'))
        obtain ⟨A2, c2, rfl⟩ := HO4.out.form
        rcases HF3.out with ⟨rfl, _⟩ | ⟨g3, c3, rfl, hq1, hq2⟩
        · have HPT := Lib.hid (HP4.out.take_ (k := 0) (Nat.le_refl _))
          go_wp2_with fail
          refine (HC2.out _).mono ?_
          rintro e w' ⟨rfl, rfl⟩
          go_wp2_with fail
          refine (HC1.out _).mono ?_
          rintro e w' ⟨rfl, rfl⟩
          go_wp2_with fail
          refine (trSame_same _ _ _ w4 HPT.out HO4.out).mono ?_
          rintro e w5 ⟨rfl, hb5⟩
          have HB5 : Hid (Below w.heap.size w w5) := Lib.hid (bl_step HB4.out hb5 (Nat.le_refl _))
          clear hb5
          go_wp2_with fail
          refine (HW.out ⟨w5, HB5.out⟩).mono ?_
          rintro e w6 ⟨rfl, hb6⟩
          have HB6 : Hid (Below w.heap.size w w6) := Lib.hid (bl_step HB5.out hb6 (Nat.le_refl _))
          clear hb6
          go_wp2_with fail
          go_ret
          exact ⟨rfl, HB6.out⟩
        · have HPT := Lib.hid (HP4.out.take_ (k := 0) (Nat.le_refl _))
          go_wp2_with fail
          refine (HC2.out _).mono ?_
          rintro e w' ⟨rfl, rfl⟩
          go_wp2_with fail
          refine (HC1.out _).mono ?_
          rintro e w' ⟨rfl, rfl⟩
          go_wp2_with fail
          refine (trSame_same _ _ _ w4 HPT.out HO4.out).mono ?_
          rintro e w5 ⟨rfl, hb5⟩
          have HB5 : Hid (Below w.heap.size w w5) := Lib.hid (bl_step HB4.out hb5 (Nat.le_refl _))
          clear hb5
          go_wp2_with fail
          refine (HW.out ⟨w5, HB5.out⟩).mono ?_
          rintro e w6 ⟨rfl, hb6⟩
          have HB6 : Hid (Below w.heap.size w w6) := Lib.hid (bl_step HB5.out hb6 (Nat.le_refl _))
          clear hb6
          go_wp2_with fail
          go_ret
          exact ⟨rfl, HB6.out⟩
      | some ad =>
        obtain ⟨b, off, rfl⟩ | rfl : (∃ b off, ad = ⟨b, off, none⟩) ∨ c0 = 0 := by
          obtain ⟨A, c, e, h1, h2, h3⟩ := HV0.out
          cases e
          rcases h3 with h3 | ⟨b, off, e, _⟩
          · exact .inr h3
          · exact .inl ⟨b, off, Option.some.inj e⟩
        · skip
          clear HST
          go_enter Tryd.func9, Tryd.ntmps9
          go_wp2_with fail
          refine (HAT.out _).mono ?_
          rintro e w' ⟨rfl, rfl⟩
          rw [HKE.out]
          go_upto_region 4 with fail
          go_region_with (first
            | (go_at_call 28; (with_reducible refine (S1.out w.drew (Below.refl _ _).drew).mono ?_); rintro e w3 ⟨⟨u1, us1, rfl, ho1, hf1⟩, hb1'⟩; have HO3 := Lib.hid ho1.in_; have HF3 := Lib.hid ho1.form; have HB3 : Hid (Below w.heap.size w w3) := Lib.hid (bl_step (Below.refl _ _).drew hb1' (Nat.le_refl _)); clear ho1 hf1 hb1')
            | (go_at_call 28; (with_reducible refine (S1.out w3 HB3.out).mono ?_); rintro e w4 ⟨⟨u2, us2, rfl, ho2, hf2⟩, hb2'⟩; have HO4 := Lib.hid ho2.in_; have HP4 := Lib.hid (HO3.out.below hb2'); have HB4 : Hid (Below w.heap.size w w4) := Lib.hid (bl_step HB3.out hb2' (Nat.le_refl _)); clear ho2 hf2 hb2'))
          obtain ⟨A2, c2, rfl⟩ := HO4.out.form
          rcases HF3.out with ⟨rfl, _⟩ | ⟨g3, c3, rfl, hq1, hq2⟩
          · have HPT := Lib.hid (HP4.out.take_ (k := 0) (Nat.le_refl _))
            go_wp2_with fail
            refine (HC2.out _).mono ?_
            rintro e w' ⟨rfl, rfl⟩
            go_wp2_with fail
            refine (HC1.out _).mono ?_
            rintro e w' ⟨rfl, rfl⟩
            go_wp2_with fail
            refine (trSame_same _ _ _ w4 HPT.out HO4.out).mono ?_
            rintro e w5 ⟨rfl, hb5⟩
            have HB5 : Hid (Below w.heap.size w w5) := Lib.hid (bl_step HB4.out hb5 (Nat.le_refl _))
            clear hb5
            go_wp2_with fail
            refine (HW.out ⟨w5, HB5.out⟩).mono ?_
            rintro e w6 ⟨rfl, hb6⟩
            have HB6 : Hid (Below w.heap.size w w6) := Lib.hid (bl_step HB5.out hb6 (Nat.le_refl _))
            clear hb6
            go_wp2_with fail
            go_ret
            exact ⟨rfl, HB6.out⟩
          · have HPT := Lib.hid (HP4.out.take_ (k := 0) (Nat.le_refl _))
            go_wp2_with fail
            refine (HC2.out _).mono ?_
            rintro e w' ⟨rfl, rfl⟩
            go_wp2_with fail
            refine (HC1.out _).mono ?_
            rintro e w' ⟨rfl, rfl⟩
            go_wp2_with fail
            refine (trSame_same _ _ _ w4 HPT.out HO4.out).mono ?_
            rintro e w5 ⟨rfl, hb5⟩
            have HB5 : Hid (Below w.heap.size w w5) := Lib.hid (bl_step HB4.out hb5 (Nat.le_refl _))
            clear hb5
            go_wp2_with fail
            refine (HW.out ⟨w5, HB5.out⟩).mono ?_
            rintro e w6 ⟨rfl, hb6⟩
            have HB6 : Hid (Below w.heap.size w w6) := Lib.hid (bl_step HB5.out hb6 (Nat.le_refl _))
            clear hb6
            go_wp2_with fail
            go_ret
            exact ⟨rfl, HB6.out⟩
        · skip
          clear HST
          go_enter Tryd.func9, Tryd.ntmps9
          go_wp2_with fail
          refine (HAT.out _).mono ?_
          rintro e w' ⟨rfl, rfl⟩
          rw [HKE.out]
          go_upto_region 4 with fail
          go_region_with (first
            | (go_at_call 28; (with_reducible refine (S1.out w.drew (Below.refl _ _).drew).mono ?_); rintro e w3 ⟨⟨u1, us1, rfl, ho1, hf1⟩, hb1'⟩; have HO3 := Lib.hid ho1.in_; have HF3 := Lib.hid ho1.form; have HB3 : Hid (Below w.heap.size w w3) := Lib.hid (bl_step (Below.refl _ _).drew hb1' (Nat.le_refl _)); clear ho1 hf1 hb1')
            | (go_at_call 28; (with_reducible refine (S1.out w3 HB3.out).mono ?_); rintro e w4 ⟨⟨u2, us2, rfl, ho2, hf2⟩, hb2'⟩; have HO4 := Lib.hid ho2.in_; have HP4 := Lib.hid (HO3.out.below hb2'); have HB4 : Hid (Below w.heap.size w w4) := Lib.hid (bl_step HB3.out hb2' (Nat.le_refl _)); clear ho2 hf2 hb2'))
          obtain ⟨A2, c2, rfl⟩ := HO4.out.form
          rcases HF3.out with ⟨rfl, _⟩ | ⟨g3, c3, rfl, hq1, hq2⟩
          · have HPT := Lib.hid (HP4.out.take_ (k := 0) (Nat.le_refl _))
            go_wp2_with fail
            refine (HC2.out _).mono ?_
            rintro e w' ⟨rfl, rfl⟩
            go_wp2_with fail
            refine (HC1.out _).mono ?_
            rintro e w' ⟨rfl, rfl⟩
            go_wp2_with fail
            refine (trSame_same _ _ _ w4 HPT.out HO4.out).mono ?_
            rintro e w5 ⟨rfl, hb5⟩
            have HB5 : Hid (Below w.heap.size w w5) := Lib.hid (bl_step HB4.out hb5 (Nat.le_refl _))
            clear hb5
            go_wp2_with fail
            refine (HW.out ⟨w5, HB5.out⟩).mono ?_
            rintro e w6 ⟨rfl, hb6⟩
            have HB6 : Hid (Below w.heap.size w w6) := Lib.hid (bl_step HB5.out hb6 (Nat.le_refl _))
            clear hb6
            go_wp2_with fail
            go_ret
            exact ⟨rfl, HB6.out⟩
          · have HPT := Lib.hid (HP4.out.take_ (k := 0) (Nat.le_refl _))
            go_wp2_with fail
            refine (HC2.out _).mono ?_
            rintro e w' ⟨rfl, rfl⟩
            go_wp2_with fail
            refine (HC1.out _).mono ?_
            rintro e w' ⟨rfl, rfl⟩
            go_wp2_with fail
            refine (trSame_same _ _ _ w4 HPT.out HO4.out).mono ?_
            rintro e w5 ⟨rfl, hb5⟩
            have HB5 : Hid (Below w.heap.size w w5) := Lib.hid (bl_step HB4.out hb5 (Nat.le_refl _))
            clear hb5
            go_wp2_with fail
            refine (HW.out ⟨w5, HB5.out⟩).mono ?_
            rintro e w6 ⟨rfl, hb6⟩
            have HB6 : Hid (Below w.heap.size w w6) := Lib.hid (bl_step HB5.out hb6 (Nat.le_refl _))
            clear hb6
            go_wp2_with fail
            go_ret
            exact ⟨rfl, HB6.out⟩
    · obtain ⟨b, off, rfl⟩ : ∃ b off, A0 = some ⟨b, off, none⟩ := by
        obtain ⟨A, c, e, h1, h2, h3⟩ := HV0.out
        cases e
        rcases h3 with h3 | ⟨b, off, e, _⟩
        · omega
        · exact ⟨b, off, e⟩
      have hr2 := HV0.out.take_ (k := K) (by omega)
      have S2 := Lib.hid (fun w' hb => HST.out _ (rs.take K) w' hb (hr2.below hb) (by simp; omega) (fun p hp => hpl p (List.mem_of_mem_take hp)))
      have hl1 := stored_len ks rs
      have hl2 := stored_len ks (rs.take K)
      rw [show (rs.take K).length = K by simp; omega] at hl2
      have hw := Idx.wh_mono (show K ≤ rs.length by omega)
      have hw1 := Idx.le_wh rs.length
      have htk := stored_take (ks := ks) (show K ≤ rs.length by omega)
      have HC1 := Lib.hid (fun w => impl_StoredCount (M : Int) w)
      rw [show rem (M : Int) 1152921504606846976 = M from rem_self M _ (by omega)] at HC1
      have HC2 := Lib.hid (fun w => impl_StoredCount (K : Int) w)
      rw [show rem (K : Int) 1152921504606846976 = K from rem_self K _ (by omega)] at HC2
      rw [← hM] at S1 hl1 hw hw1 hc
      have hM0 : 1 ≤ M := by omega
      have hM20 : M ≤ 1048576 := by omega
      have hKM : K ≤ M := by omega
      generalize stored ks rs = st1 at *
      generalize stored ks (rs.take K) = st2 at *
      obtain ⟨L1, hL1⟩ : ∃ L1, L1 = Idx.wh M := ⟨_, rfl⟩
      obtain ⟨L2, hL2⟩ : ∃ L2, L2 = Idx.wh K := ⟨_, rfl⟩
      rw [← hL1] at HC1 hl1 hw hw1
      rw [← hL2] at HC2 hl2 hw htk
      have HL1 := Lib.hid hl1
      have HL2 := Lib.hid hl2
      have HTK := Lib.hid htk
      have hk2 : (K : Int) ≤ (M : Int) := by omega
      have hk3 : (K : Int) ≤ (c0 : Int) := by omega
      rw [← hM] at hb2 ⊢
      clear hnil hr1 hr2 h0 hpl hbig hl1 hl2 htk hL1 hL2 hM
      clear HST
      go_enter Tryd.func9, Tryd.ntmps9
      go_wp2_with fail
      refine (HAT.out _).mono ?_
      rintro e w' ⟨rfl, rfl⟩
      rw [HKE.out]
      go_upto_region 4 with fail
      go_region_with (first
        | (go_at_call 28; (with_reducible refine (S1.out w.drew (Below.refl _ _).drew).mono ?_); rintro e w3 ⟨⟨u1, us1, rfl, ho1, hf1⟩, hb1'⟩; have HO3 := Lib.hid ho1.in_; have HF3 := Lib.hid ho1.form; have HB3 : Hid (Below w.heap.size w w3) := Lib.hid (bl_step (Below.refl _ _).drew hb1' (Nat.le_refl _)); clear ho1 hf1 hb1')
        | (go_at_call 28; (with_reducible refine (S2.out w3 HB3.out).mono ?_); rintro e w4 ⟨⟨u2, us2, rfl, ho2, hf2⟩, hb2'⟩; have HO4 := Lib.hid ho2.in_; have HP4 := Lib.hid (HO3.out.below hb2'); have HB4 : Hid (Below w.heap.size w w4) := Lib.hid (bl_step HB3.out hb2' (Nat.le_refl _)); clear ho2 hf2 hb2'))
      obtain ⟨A2, c2, rfl⟩ : ∃ A2 c2, u2 = .slice A2 L2 c2 := by
        obtain ⟨A2, c2, e⟩ := HO4.out.form
        exact ⟨A2, c2, by rw [e, HL2.out]⟩
      rcases HF3.out with ⟨rfl, h00⟩ | ⟨g3, c3, hu, hq1, hq2⟩
      · exfalso
        have := HL1.out
        rw [h00] at this
        simp at this
        omega
      · rw [HL1.out] at hu hq1
        subst hu
        have HPT := Lib.hid (HP4.out.take_ (k := L2) (by omega))
        rw [← HTK.out] at HPT
        have hq3 : (L2 : Int) ≤ (c3 : Int) := by omega
        go_wp2_with fail
        refine (HC2.out _).mono ?_
        rintro e w' ⟨rfl, rfl⟩
        go_wp2_with fail
        refine (HC1.out _).mono ?_
        rintro e w' ⟨rfl, rfl⟩
        go_wp2_with fail
        refine (trSame_same _ _ _ w4 HPT.out HO4.out).mono ?_
        rintro e w5 ⟨rfl, hb5⟩
        have HB5 : Hid (Below w.heap.size w w5) := Lib.hid (bl_step HB4.out hb5 (Nat.le_refl _))
        clear hb5
        go_wp2_with fail
        refine (HW.out ⟨w5, HB5.out⟩).mono ?_
        rintro e w6 ⟨rfl, hb6⟩
        have HB6 : Hid (Below w.heap.size w w6) := Lib.hid (bl_step HB5.out hb6 (Nat.le_refl _))
        clear hb6
        go_wp2_with fail
        go_ret
        exact ⟨rfl, HB6.out⟩

end Go.Proofs.YtlmcoaidngnomaaDoor
