/- The walks of FnRecordPath and FnTreePath: they return true at every input, whatever words the table of SHA-256 holds. Conditions: errMissing holds an error; bits.deBruijn64tab holds its table. -/
import Derived.Test.YtokopcbmpnnkcaaDoorU2
namespace Go.Proofs.YtokopcbmpnnkcaaDoor
open Go.RowKit
set_option linter.unusedVariables false

theorem wpList_unguard {P : Program} {ops : Array Oper} {rest : List Oper} {o : Oper} {a : Act} {w : World} {Q : Exit → Act → World → Prop} (hw : Region.wanted o (yielded ops a.tmps) = true) (h : wpList P ops Q ({ o with guard := none } :: rest) a w) : wpList P ops Q (o :: rest) a w := by
  unfold wpList at h ⊢
  rw [if_pos hw]
  rw [if_pos (show Region.wanted { o with guard := none } (yielded ops a.tmps) = true from rfl)] at h
  exact h
theorem LP_take {ks : List Int} {rs : List (List Int)} {k n : Nat} : Tr.LP (nhK ks) (recF ks (rs.take k)) 0 k n = Tr.LP (nhK ks) (recF ks rs) 0 k n := Tr.LP_congr (nhK ks) _ (fun i _ hi => recF_take (by omega))
theorem TP_take {ks : List Int} {rs : List (List Int)} {k n : Nat} (hk : k ≠ 0) : Tr.TP (nhK ks) (recF ks (rs.take k)) 0 k n = Tr.TP (nhK ks) (recF ks rs) 0 k n := Tr.TP_congr (nhK ks) _ hk (fun i _ hi => recF_take (by omega))
theorem LP_drop {ks : List Int} {rs : List (List Int)} {k d n : Nat} : Tr.LP (nhK ks) (recF ks (rs.drop k)) 0 d n = Tr.LP (nhK ks) (recF ks rs) k d (n + k) := by
  rw [recF_drop, Tr.LP_shift, Nat.zero_add]
theorem HB.some_ {w : World} {base : Nat} {v : Value} {x : List Int} (h : HB w base v (some x)) : ∃ g c, v = .slice (some ⟨g, 0, none⟩) 32 c ∧ BIn w (.slice (some ⟨g, 0, none⟩) 32 c) x ∧ ∀ d, d < base → BOff (.slice (some ⟨g, 0, none⟩) 32 c) d := by
  have ho := fun d (hd : d < base) => h.off hd
  obtain ⟨g, c, rfl, h1, h2⟩ := h
  exact ⟨g, c, rfl, row_in h2, fun d hd => ho d hd⟩
set_option maxHeartbeats 4000000 in
set_option maxRecDepth 20000 in
theorem walk_FnTreePath (v0 : Value) (rs : List (List Int)) (a : Int) (w : World)
    (h0 : (RowsIn w v0 rs ∧ OctR rs) ∧ (rs.length ≤ 5864062014634 ∧ ∀ l ∈ rs, l.length ≤ 140737488351232)) (_ : (Lit.int .i64 a).wf = true) (hL : laidMetH Tryd.prog Rows.fnTreePathRow.laid w) (hsh : w.ShapedOpen Tryd.prog) :
    Calls Tryd.prog 7 #[v0, .int .i64 a] w fun e w' => e = .returned (.bool true) ∧ Below w.heap.size w w' := by
  rw [MakeChecks.laidMetH_plain _ _ _ (by kernel_rfl)] at hL
  have hT : Tab w := tab_of_laid hL
  obtain ⟨E0t, E0a, hE, hE0⟩ := missing_of rfl hL.tail.tail
  obtain ⟨ks, hK⟩ := table_of hsh
  have hk0 : 4 < w.heap.size := (Array.getElem?_eq_some_iff.1 hK.2.2).1
  have HW := Lib.hid (fun (p : BW w) => trWorks_any ks p.val (hK.below p.bel hk0))
  have hpl : ∀ p ∈ rs, p.length < 1125899906842624 := fun p hp => by have := h0.2.2 p hp; omega
  have HV0 := Lib.hid h0.1.1
  have HST := Lib.hid (fun (v : Value) (ms : List (List Int)) w' (hb : Below w.heap.size w w') (hv : RowsIn w' v ms) (hm : ms.length ≤ 1048576) (hp : ∀ p ∈ ms, p.length < 1125899906842624) => implStore_any ks ms v E0t E0a w' hv hm hp (hK.below hb hk0) (hT.below hb) ((hb.cell (p := ⟨0, 0, none⟩) hE0).trans hE) (Nat.lt_of_lt_of_le hE0 hb.size))
  have HTH := Lib.hid (fun (t : Nat) (v : Value) (ms : List (List Int)) w' (hb : Below w.heap.size w w') (ht : t ≤ 1048576) (ht0 : t ≠ 0) (hv : RowsIn w' v ms) => implTreeHash_any ks ms (t : Int) t v E0t E0a w' (Int.emod_eq_of_lt (by omega) (by omega)) ht0 hv (hK.below hb hk0) ((hb.cell (p := ⟨0, 0, none⟩) hE0).trans hE) (Nat.lt_of_lt_of_le hE0 hb.size))
  have HPR := Lib.hid (fun (t n : Nat) (v : Value) (ms : List (List Int)) w' (hb : Below w.heap.size w w') (ht : t ≤ 1048576) (hv : RowsIn w' v ms) => implProveRecord_any ks ms (t : Int) (n : Int) t v E0t E0a w' (Int.emod_eq_of_lt (by omega) (by omega)) hv (hK.below hb hk0) ((hb.cell (p := ⟨0, 0, none⟩) hE0).trans hE) (Nat.lt_of_lt_of_le hE0 hb.size))
  have HPT := Lib.hid (fun (t n : Nat) (v : Value) (ms : List (List Int)) w' (hb : Below w.heap.size w w') (ht : t ≤ 1048576) (hv : RowsIn w' v ms) => implProveTree_any ks ms (t : Int) (n : Int) t v E0t E0a w' (Int.emod_eq_of_lt (by omega) (by omega)) hv (hK.below hb hk0) ((hb.cell (p := ⟨0, 0, none⟩) hE0).trans hE) (Nat.lt_of_lt_of_le hE0 hb.size))
  have HK := Lib.hid hK
  obtain ⟨A0, c0, rfl⟩ := h0.1.1.form
  clear hL hsh hK hE hT
  have HB1 : Hid (Below w.heap.size w w) := Lib.hid (Below.refl _ _)
  by_cases hz : rs.length < 2
  · have hb1 : decide ((rs.length : Int) < 2) = true := by simp; omega
    clear h0 hpl hz
    go_enter Tryd.func7, Tryd.ntmps7
    go_wp2_with fail
    refine (HW.out ⟨w, HB1.out⟩).mono ?_
    rintro e w5 ⟨rfl, hb5⟩
    have HB5 := Lib.hid hb5
    clear hb5
    go_wp2_with fail
    go_ret
    exact ⟨rfl, HB5.out⟩
  · have hb1 : decide ((rs.length : Int) < 2) = false := by simp; omega
    by_cases hbig : 1048576 < rs.length
    · have hb2 : decide ((1048576 : Int) < (rs.length : Int)) = true := by simp; omega
      clear h0 hpl hbig hz
      go_enter Tryd.func7, Tryd.ntmps7
      go_wp2_with fail
      refine (HW.out ⟨w, HB1.out⟩).mono ?_
      rintro e w5 ⟨rfl, hb5⟩
      have HB5 := Lib.hid hb5
      clear hb5
      go_wp2_with fail
      go_ret
      exact ⟨rfl, HB5.out⟩
    · have hb2 : decide ((1048576 : Int) < (rs.length : Int)) = false := by simp; omega
      obtain ⟨b, off, rfl⟩ : ∃ b off, A0 = some ⟨b, off, none⟩ := by
        obtain ⟨A, c, e, h1, h2, h3⟩ := HV0.out
        cases e
        rcases h3 with h3 | ⟨b, off, e, _⟩
        · omega
        · exact ⟨b, off, e⟩
      have hc : rs.length ≤ c0 ∧ c0 ≤ 9223372036854775807 := by
        obtain ⟨A, c, e, h1, h2, h3⟩ := HV0.out
        cases e
        exact ⟨h1, h2⟩
      obtain ⟨M, hM⟩ : ∃ M, M = rs.length := ⟨_, rfl⟩
      have hhp := Tr.half_pos M
      have hhl := Tr.half_lt (d := M) (by omega)
      have HCUT := Lib.hid (fun w => trCut M w (by omega) (by omega))
      obtain ⟨K, hK'⟩ : ∃ K, K = Tr.half M := ⟨_, rfl⟩
      have hnl := rem_lt a (K : Int) (by omega)
      have HAT := Lib.hid (fun w => spec_At a (K : Int) w (by omega) (by omega))
      have HTE := Lib.hid (rem_eq a (K : Int) (by omega))
      obtain ⟨N, hNN⟩ : ∃ N, N = 1 + rem a (K : Int) := ⟨_, rfl⟩
      have hNc : (1 : Int) + ((rem a (K : Int) : Nat) : Int) = (N : Int) := by omega
      have hN1 : 1 ≤ N := by omega
      have hNK : N ≤ K := by omega
      rw [← hK'] at HCUT hhp hhl
      have T1 := Tr.TP_left (nhK ks) (recF ks rs) (lo := 0) (d := M) (n := N) (by omega) (by omega) (by omega)
      rw [← hK', Nat.zero_add] at T1
      have S1 := Lib.hid (fun w' hb => HST.out _ rs w' hb (HV0.out.below hb) (by omega) hpl)
      have SM := Lib.hid (fun w' hb => HST.out _ (rs.take K) w' hb ((HV0.out.take_ (k := K) (by omega)).below hb) (by simp; omega) (fun p hp => hpl p (List.mem_of_mem_take hp)))
      have SO := Lib.hid (fun w' hb => HST.out _ (rs.drop K) w' hb ((HV0.out.drop_ (k := K) (by omega)).below hb) (by simp; omega) (fun p hp => hpl p (List.mem_of_mem_drop hp)))
      have P1 := Lib.hid (fun v w' hb hv => HPT.out M N v (stored ks rs) w' hb (by omega) hv)
      rw [pfTree_stored (ks := ks) (rs := rs) hN1 (by omega) (by omega)] at P1
      have PM := Lib.hid (fun v w' hb hv => HPT.out K N v (stored ks (rs.take K)) w' hb (by omega) hv)
      rw [pfTree_stored (ks := ks) (rs := rs.take K) hN1 hNK (by simp; omega), TP_take (by omega)] at PM
      have TO := Lib.hid (fun v w' hb hv => HTH.out (M - K) v (stored ks (rs.drop K)) w' hb (by omega) (by omega) hv)
      have T3 := treeH_drop (ks := ks) (rs := rs) (k := K) (by omega)
      rw [← hM] at T3
      rw [T3] at TO
      have hll := pfTree_len (ks := ks) (ls := stored ks rs) (T := K) (n := (N : Int)) (m := 20) (by omega) (pfTree_stored hN1 hNK (by omega))
      rw [← hM] at S1 SO hc
      obtain ⟨l1, hl1⟩ : ∃ l1, l1 = Tr.TP (nhK ks) (recF ks rs) 0 M N := ⟨_, rfl⟩
      rw [← hl1] at P1 T1
      generalize stored ks rs = st1 at *
      generalize stored ks (rs.take K) = st2 at *
      generalize stored ks (rs.drop K) = st3 at *
      generalize Tr.TP (nhK ks) (recF ks rs) 0 K N = lq at *
      generalize Tr.T (nhK ks) (recF ks rs) K (M - K) = x5 at *
      generalize rem a (K : Int) = N0 at *
      have HL1 := Lib.hid T1
      have HLL := Lib.hid hll
      have hkc : ¬ c0 = K := by omega
      have hk1 : (0 : Int) ≤ (K : Int) := by omega
      have hk2 : (K : Int) ≤ (M : Int) := by omega
      have hk3 : (K : Int) ≤ (c0 : Int) := by omega
      have hk4 : (M : Int) ≤ (c0 : Int) := by omega
      have hk5 : ((M : Int) - (K : Int)) = ((M - K : Nat) : Int) := by omega
      have hM20 : M ≤ 1048576 := by omega
      rw [← hM] at hb1 hb2 ⊢
      clear hM hz hbig h0 hpl hNN hl1 T1 T3 hll hK' HST HTH HPR HPT hnl
      go_enter Tryd.func7, Tryd.ntmps7
      go_wp2_with fail
      refine (HCUT.out _).mono ?_
      rintro e w' ⟨rfl, rfl⟩
      go_wp2_with fail
      refine (HAT.out _).mono ?_
      rintro e w' ⟨rfl, rfl⟩
      rw [HTE.out]
      go_wp2_with fail
      refine (S1.out w (Below.refl _ _)).mono ?_
      rintro e w0 ⟨⟨u1, us1, rfl, ho1, hf1⟩, hb1'⟩
      have HO1 := Lib.hid ho1.in_
      have HB0 := Lib.hid hb1'
      clear ho1 hf1 hb1'
      go_wp2_with fail
      refine (P1.out u1 w0 HB0.out HO1.out).mono ?_
      rintro e w1 ⟨⟨a1, rfl, hr1⟩, hb1'⟩
      have HP1 : Hid (RowsIn w1 a1 l1) := Lib.hid hr1.in_
      have HB1 : Hid (Below w.heap.size w w1) := Lib.hid (bl_step HB0.out hb1' (Nat.le_refl _))
      clear hr1 hb1'
      go_wp2_with fail
      refine (SM.out w1 HB1.out).mono ?_
      rintro e w2 ⟨⟨u2, us2, rfl, ho2, hf2⟩, hb2'⟩
      have HO2 := Lib.hid ho2.in_
      have HP2 := Lib.hid (HP1.out.below hb2')
      have HB2 : Hid (Below w.heap.size w w2) := Lib.hid (bl_step HB1.out hb2' (Nat.le_refl _))
      clear ho2 hf2 hb2'
      go_wp2_with fail
      refine (PM.out u2 w2 HB2.out HO2.out).mono ?_
      rintro e w3 ⟨⟨a3, rfl, us3, ho3, hf3⟩, hb3'⟩
      have HQ3 := Lib.hid ho3
      have HC3 := Lib.hid hb3'
      have HB3 : Hid (Below w.heap.size w w3) := Lib.hid (bl_step HB2.out hb3' (Nat.le_refl _))
      clear ho3 hf3 hb3'
      go_wp2_with fail
      refine (SO.out w3 HB3.out).mono ?_
      rintro e w4 ⟨⟨u4, us4, rfl, ho4, hf4⟩, hb4'⟩
      have HO4 := Lib.hid ho4.in_
      have HQ4 := Lib.hid (HQ3.out.below hb4')
      have HC4 : Hid (Below w2.heap.size w2 w4) := Lib.hid (bl_step HC3.out hb4' (Nat.le_refl _))
      have HB4 : Hid (Below w.heap.size w w4) := Lib.hid (bl_step HB3.out hb4' (Nat.le_refl _))
      have HS34 := Lib.hid hb4'.size
      clear ho4 hf4 hb4'
      go_wp2_with fail
      refine (TO.out u4 w4 HB4.out HO4.out).mono ?_
      rintro e w5 ⟨⟨a5, rfl, hr5⟩, hb5'⟩
      obtain ⟨g5, c5, rfl, hx5, hoff5⟩ := hr5.some_
      have HX5 := Lib.hid hx5
      have HF5 := Lib.hid hoff5
      have HQ5 := Lib.hid (HQ4.out.below hb5')
      have HC5 : Hid (Below w2.heap.size w2 w5) := Lib.hid (bl_step HC4.out hb5' (Nat.le_refl _))
      have HB5 : Hid (Below w.heap.size w w5) := Lib.hid (bl_step HB4.out hb5' (Nat.le_refl _))
      have HS25 : Hid (w2.heap.size ≤ w5.heap.size) := Lib.hid HC5.out.size
      clear hr5 hx5 hoff5 hb5'
      have HSM := Lib.hid (fun v w' h1 h2 => trSame_same l1 a1 v w' h1 h2)
      go_wp2_with (first
        | (at_builtin; (refine wpList_unguard (by rfl) ?_); (refine app_rows rfl (.tmp 66) (.tmp 68) rfl w2.heap.size a3 us3 lq rfl (HQ5.out.alloc _) _ [.slice (some ⟨g5, 0, none⟩) 32 c5] [x5] rfl (RowsAt.one HX5.out) (fun g hg u hu => by
              obtain rfl : u = .slice (some ⟨g5, 0, none⟩) 32 c5 := by simpa using hu
              exact HF5.out g (Nat.lt_of_lt_of_le (HQ3.out.1.lt g hg).2 HS34.out)) (by have := HLL.out; simp; omega) (by have := HS25.out; simp; omega) ?_); intro v6 w6 hown6 hgrow6; have HO6 : Hid (RowsIn w6 v6 l1) := Lib.hid (by rw [HL1.out]; exact hown6.in_); have HC6 : Hid (Below w2.heap.size w2 w6) := Lib.hid ((HC5.out.alloc HC5.out.size _).grown hgrow6 (by have := HS25.out; simp; omega) (fun j hj => (HQ3.out.1.lt j hj).1)); have HP6 : Hid (RowsIn w6 a1 l1) := Lib.hid (HP2.out.below HC6.out); clear hown6 hgrow6)
        | (go_at_call 23; (with_reducible refine (HSM.out v6 w6 HP6.out HO6.out).mono ?_); rintro e w7 ⟨rfl, hb7'⟩; have HB7 : Hid (Below w2.heap.size w2 w7) := Lib.hid (bl_step HC6.out hb7' (Nat.le_refl _)); clear hb7'))
      go_ret
      exact ⟨rfl, HB2.out.trans (HB7.out.mono HB2.out.size)⟩

end Go.Proofs.YtokopcbmpnnkcaaDoor
