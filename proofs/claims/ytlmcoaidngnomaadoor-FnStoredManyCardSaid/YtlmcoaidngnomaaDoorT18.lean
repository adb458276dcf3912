/- What the stored hashes of records give: plain facts. The walks of FnStoredIsFor, FnStoreBegins, FnTreeParts: they return true at every input, whatever words the table of SHA-256 holds. Conditions: impl.errMissing holds an error; bits.deBruijn64tab holds its table. -/
import Derived.Test.YtlmcoaidngnomaaDoorT17
import Derived.Test.YtlmcoaidngnomaaDoorRec2
import Derived.Deep.RegionWith
namespace Go.Proofs.YtlmcoaidngnomaaDoor
open Go.RowKit
set_option linter.unusedVariables false

theorem treeH_stored {ks : List Int} {rs : List (List Int)} {t : Nat} (h1 : t ≠ 0) (h2 : t ≤ rs.length) : treeH ks (stored ks rs) t = some (Tr.T (nhK ks) (recF ks rs) 0 t) := by
  unfold treeH stored
  rw [rd_St (recF_len ks rs) (fun c hc => by have := Tr.parts_in (Tr.Al.zero t) hc; omega), Option.map_some, Tr.fold_parts _ _ (Tr.Al.zero t) h1]
theorem recF_take {ks : List Int} {rs : List (List Int)} {i k : Nat} (h : i < k) : recF ks (rs.take k) i = recF ks rs i := by
  simp [recF, List.getD, h]
theorem recF_drop (ks : List Int) (rs : List (List Int)) (k : Nat) : recF ks (rs.drop k) = fun i => recF ks rs (i + k) := by
  funext i
  simp [recF, List.getD, List.getElem?_drop, Nat.add_comm]
theorem treeH_take {ks : List Int} {rs : List (List Int)} {k : Nat} (h1 : k ≠ 0) (h2 : k ≤ rs.length) : treeH ks (stored ks (rs.take k)) k = some (Tr.T (nhK ks) (recF ks rs) 0 k) := by
  rw [treeH_stored h1 (by simp; omega), Tr.T_congr (nhK ks) (recF ks (rs.take k)) (g := recF ks rs) h1 (fun i _ hi => recF_take (by omega))]
theorem treeH_drop {ks : List Int} {rs : List (List Int)} {k : Nat} (h2 : k < rs.length) : treeH ks (stored ks (rs.drop k)) (rs.length - k) = some (Tr.T (nhK ks) (recF ks rs) k (rs.length - k)) := by
  rw [treeH_stored (by omega) (by simp), recF_drop, Tr.T_shift, Nat.zero_add]
theorem stored_len (ks : List Int) (rs : List (List Int)) : (stored ks rs).length = Idx.wh rs.length := Tr.St_len _ _ _
theorem stored_take {ks : List Int} {rs : List (List Int)} {k : Nat} (h : k ≤ rs.length) : stored ks (rs.take k) = (stored ks rs).take (Idx.wh k) := by
  unfold stored
  rw [Tr.St_take (nhK ks) (recF ks rs) h, show (rs.take k).length = k by simp; omega]
  exact Tr.St_congr (nhK ks) _ (fun i hi => recF_take hi)
theorem T_len {ks : List Int} {f : Nat → List Int} (hf : ∀ n, (f n).length = 32) (lo d : Nat) : (Tr.T (nhK ks) f lo d).length = 32 := by
  by_cases h : d ≤ 1
  · rw [Tr.T_one _ _ h]; exact hf _
  · rw [Tr.T_two _ _ (by omega)]; exact nhK_len _ _ _
theorem RowsIn.take_ {w : World} {A : Option Addr} {n c k : Nat} {ls : List (List Int)} (h : RowsIn w (.slice A n c) ls) (hk : k ≤ n) : RowsIn w (.slice A k c) (ls.take k) := by
  obtain ⟨A', c', e, h2, h3, h4⟩ := h
  cases e
  refine ⟨A, c, by rw [List.length_take, Nat.min_eq_left hk], by rw [List.length_take]; omega, h3, ?_⟩
  rcases h4 with h4 | ⟨b, off, e', hlt, hr⟩
  · exact .inl h4
  · refine .inr ⟨b, off, e', hlt, fun j l hj => hr j l ?_⟩
    have hj' := (List.getElem?_eq_some_iff.1 hj).1
    rw [List.length_take] at hj'
    rw [List.getElem?_take, if_pos (by omega)] at hj
    exact hj
theorem RowsIn.drop_ {w : World} {b off n c k : Nat} {ls : List (List Int)} (h : RowsIn w (.slice (some ⟨b, off, none⟩) n c) ls) (hk : k < n) : RowsIn w (.slice (some ⟨b, off + k, none⟩) (n - k) (c - k)) (ls.drop k) := by
  obtain ⟨A', c', e, h2, h3, h4⟩ := h
  cases e
  refine ⟨_, c - k, by rw [List.length_drop], by rw [List.length_drop]; omega, by omega, ?_⟩
  obtain ⟨b', off', e', hlt, hr⟩ := h4.resolve_left (by omega)
  cases e'
  refine .inr ⟨b, off + k, rfl, hlt, fun j l hj => ?_⟩
  rw [List.getElem?_drop] at hj
  have := hr (k + j) l hj
  rwa [← Nat.add_assoc] at this
set_option maxHeartbeats 1000000 in
set_option maxRecDepth 20000 in
theorem walk_FnStoredIsFor (n : Int) (v1 : Value) (p : List Int) (v2 : Value) (ls : List (List Int)) (w : World) (_ : (Lit.int .i64 n).wf = true) (h1 : (BIn w v1 p ∧ Oct p) ∧ p.length ≤ 140737488351232)
    (h2 : (RowsIn w v2 ls ∧ OctR ls) ∧ (ls.length ≤ 5864062014634 ∧ ∀ l ∈ ls, l.length ≤ 140737488351232)) (hL : laidMetH Tryd.prog Rows.fnStoredIsForRow.laid w) (hsh : w.ShapedOpen Tryd.prog) :
    Calls Tryd.prog 7 #[.int .i64 n, v1, v2] w fun e w' => e = .returned (.bool true) ∧ Below w.heap.size w w' := by
  rw [MakeChecks.laidMetH_plain _ _ _ (by kernel_rfl)] at hL
  have hT : Tab w := tab_of_laid hL
  obtain ⟨E0t, E0a, hE, hE0⟩ := missing_of rfl hL.tail
  obtain ⟨ks, hK⟩ := table_of hsh
  have hk0 : 4 < w.heap.size := (Array.getElem?_eq_some_iff.1 hK.2.2).1
  have HW := Lib.hid (fun (p : BW w) => trWorks_any ks p.val (hK.below p.bel hk0))
  have HN := rem_eq n 1099511627776 (by omega)
  have HS := Lib.hid (implStored_any ks ls p n (rem n 1099511627776) v1 v2 E0t E0a w HN h1.1.1 (by omega) h2.1.1 hK hT hE hE0)
  have HRH := Lib.hid (fun w' (hb : Below w.heap.size w w') => impl_RecordHash_any ks p v1 w' (hK.below hb hk0) (h1.1.1.below hb) (by omega))
  have HF := Lib.hid (fun v w' (hb : Below w.heap.size w w') (hv : BIn w' v (rH ks p)) => implStoredFor_any ks ls (rH ks p) n (rem n 1099511627776) v v2 E0t E0a w' HN hv (h2.1.1.below hb) (hK.below hb hk0) (hT.below hb) ((hb.cell (p := ⟨1, 0, none⟩) hE0).trans hE) (Nat.lt_of_lt_of_le hE0 hb.size))
  rw [show h32 (rH ks p) = rH ks p from h32_self (rH_len ks p)] at HF
  rw [show sha ks (0 :: p) = rH ks p from rfl] at HRH
  clear h1 h2 hL hsh hK hE hT HN
  generalize rem n 1099511627776 = N at *
  generalize rH ks p = x at *
  generalize stH ks ls N x = r at *
  have hbb : (r.isSome == r.isSome) = true := by simp
  have HSM := Lib.hid (fun v u w' hv hu => trSame_same (r.getD []) v u w' hv hu)
  generalize hrs : r.isSome = B at *
  clear hrs
  go_enter Tryd.func7, Tryd.ntmps7
  go_wp2_with fail
  refine HS.out.mono ?_
  rintro e w1 ⟨⟨u1, rfl, hr1⟩, hb1⟩
  have HR1 := Lib.hid hr1.in_
  have HB1 := Lib.hid hb1
  clear hr1 hb1
  go_wp2_with fail
  refine (HRH.out w1 HB1.out).mono ?_
  rintro e w2 ⟨⟨g2, c2, rfl, ho2⟩, hb2⟩
  have HX2 : Hid (BIn w2 (.slice (some ⟨g2, 0, none⟩) 32 c2) x) := Lib.hid (row_in ho2)
  have HR2 := Lib.hid (HR1.out.below hb2)
  have HB2 : Hid (Below w.heap.size w w2) := Lib.hid (bl_step HB1.out hb2 (Nat.le_refl _))
  clear ho2 hb2
  go_wp2_with fail
  refine (HF.out _ w2 HB2.out HX2.out).mono ?_
  rintro e w3 ⟨⟨u3, rfl, hr3⟩, hb3⟩
  have HR3 := Lib.hid hr3.in_
  have HR4 := Lib.hid (HR2.out.below hb3)
  have HB3 : Hid (Below w.heap.size w w3) := Lib.hid (bl_step HB2.out hb3 (Nat.le_refl _))
  clear hr3 hb3
  go_wp2_with fail
  refine (HSM.out _ _ w3 HR4.out HR3.out).mono ?_
  rintro e w4 ⟨rfl, hb4⟩
  have HB4 : Hid (Below w.heap.size w w4) := Lib.hid (bl_step HB3.out hb4 (Nat.le_refl _))
  clear hb4
  go_wp2_with fail
  refine (HW.out ⟨w4, HB4.out⟩).mono ?_
  rintro e w5 ⟨rfl, hb5⟩
  have HB5 : Hid (Below w.heap.size w w5) := Lib.hid (bl_step HB4.out hb5 (Nat.le_refl _))
  clear hb5
  go_wp2_with fail
  go_ret
  exact ⟨rfl, HB5.out⟩
set_option maxHeartbeats 2000000 in
set_option maxRecDepth 20000 in
theorem walk_FnTreeParts (v0 : Value) (rs : List (List Int)) (w : World)
    (h0 : (RowsIn w v0 rs ∧ OctR rs) ∧ (rs.length ≤ 5864062014634 ∧ ∀ l ∈ rs, l.length ≤ 140737488351232)) (hL : laidMetH Tryd.prog Rows.fnTreePartsRow.laid w) (hsh : w.ShapedOpen Tryd.prog) :
    Calls Tryd.prog 12 #[v0] w fun e w' => e = .returned (.bool true) ∧ Below w.heap.size w w' := by
  rw [MakeChecks.laidMetH_plain _ _ _ (by kernel_rfl)] at hL
  have hT : Tab w := tab_of_laid hL
  obtain ⟨E0t, E0a, hE, hE0⟩ := missing_of rfl hL.tail.tail
  obtain ⟨ks, hK⟩ := table_of hsh
  have hk0 : 4 < w.heap.size := (Array.getElem?_eq_some_iff.1 hK.2.2).1
  have HW := Lib.hid (fun (p : BW w) => trWorks_any ks p.val (hK.below p.bel hk0))
  have hpl : ∀ p ∈ rs, p.length < 1125899906842624 := fun p hp => by have := h0.2.2 p hp; omega
  have HV0 := Lib.hid h0.1.1
  have HST := Lib.hid (fun (v : Value) (ms : List (List Int)) w' (hb : Below w.heap.size w w') (hv : RowsIn w' v ms) (hm : ms.length ≤ 1048576) (hp : ∀ p ∈ ms, p.length < 1125899906842624) => implStore_any ks ms v E0t E0a w' hv hm hp (hK.below hb hk0) (hT.below hb) ((hb.cell (p := ⟨1, 0, none⟩) hE0).trans hE) (Nat.lt_of_lt_of_le hE0 hb.size))
  have HTH := Lib.hid (fun (t : Nat) (v : Value) (ms : List (List Int)) w' (hb : Below w.heap.size w w') (ht : t ≤ 1048576) (ht0 : t ≠ 0) (hv : RowsIn w' v ms) => implTreeHash_any ks ms (t : Int) t v E0t E0a w' (Int.emod_eq_of_lt (by omega) (by omega)) ht0 hv (hK.below hb hk0) ((hb.cell (p := ⟨1, 0, none⟩) hE0).trans hE) (Nat.lt_of_lt_of_le hE0 hb.size))
  have HK := Lib.hid hK
  obtain ⟨A0, c0, rfl⟩ := h0.1.1.form
  clear hL hsh hK hE hT
  by_cases hsm : rs.length < 2 ∨ 1048576 < rs.length
  · have HB1 : Hid (Below w.heap.size w w) := Lib.hid (Below.refl _ _)
    clear h0 hpl
    by_cases h2 : rs.length < 2
    · have hb1 : decide ((rs.length : Int) < 2) = true := by simp; omega
      clear hsm
      go_enter Tryd.func12, Tryd.ntmps12
      go_wp2_with fail
      refine (HW.out ⟨w, HB1.out⟩).mono ?_
      rintro e w5 ⟨rfl, hb5⟩
      have HB5 := Lib.hid hb5
      clear hb5
      go_wp2_with fail
      go_ret
      exact ⟨rfl, HB5.out⟩
    · have hb1 : decide ((rs.length : Int) < 2) = false := by simp; omega
      have hb2 : decide ((1048576 : Int) < (rs.length : Int)) = true := by simp; omega
      clear hsm
      go_enter Tryd.func12, Tryd.ntmps12
      go_wp2_with fail
      refine (HW.out ⟨w, HB1.out⟩).mono ?_
      rintro e w5 ⟨rfl, hb5⟩
      have HB5 := Lib.hid hb5
      clear hb5
      go_wp2_with fail
      go_ret
      exact ⟨rfl, HB5.out⟩
  · have hb1 : decide ((rs.length : Int) < 2) = false := by simp; omega
    have hb2 : decide ((1048576 : Int) < (rs.length : Int)) = false := by simp; omega
    obtain ⟨b, off, rfl⟩ : ∃ b off, A0 = some ⟨b, off, none⟩ := by
      obtain ⟨A, c, e, h1, h2, h3⟩ := HV0.out
      cases e
      rcases h3 with h3 | ⟨b, off, e, _⟩
      · omega
      · exact ⟨b, off, e⟩
    have hc : rs.length ≤ c0 ∧ c0 ≤ 9223372036854775807 := by
      obtain ⟨A, c, e, h1, h2, h3⟩ := HV0.out
      cases e
      exact ⟨h1, h2⟩
    obtain ⟨M, hM⟩ : ∃ M, M = rs.length := ⟨_, rfl⟩
    have hhp := Tr.half_pos M
    have hhl := Tr.half_lt (d := M) (by omega)
    have HCUT := Lib.hid (fun w => trCut M w (by omega) (by omega))
    have T1 := treeH_stored (ks := ks) (rs := rs) (t := M) (by omega) (by omega)
    have T2 := treeH_take (ks := ks) (rs := rs) (k := Tr.half M) (by omega) (by omega)
    have T3 := treeH_drop (ks := ks) (rs := rs) (k := Tr.half M) (by omega)
    rw [← hM] at T3
    have T4 := Tr.T_two (nhK ks) (recF ks rs) (lo := 0) (d := M) (by omega)
    rw [Nat.zero_add] at T4
    have L2 := T_len (ks := ks) (recF_len ks rs) 0 (Tr.half M)
    have L3 := T_len (ks := ks) (recF_len ks rs) (Tr.half M) (M - Tr.half M)
    have hr1 : RowsIn w (.slice (some ⟨b, off, none⟩) rs.length c0) rs := HV0.out
    have hr2 := HV0.out.take_ (k := Tr.half M) (by omega)
    have hr3 := HV0.out.drop_ (k := Tr.half M) (by omega)
    have S1 := Lib.hid (fun w' hb => HST.out _ rs w' hb (hr1.below hb) (by omega) hpl)
    have S2 := Lib.hid (fun w' hb => HST.out _ (rs.take (Tr.half M)) w' hb (hr2.below hb) (by simp; omega) (fun p hp => hpl p (List.mem_of_mem_take hp)))
    have S3 := Lib.hid (fun w' hb => HST.out _ (rs.drop (Tr.half M)) w' hb (hr3.below hb) (by simp; omega) (fun p hp => hpl p (List.mem_of_mem_drop hp)))
    have H1 := Lib.hid (fun v w' hb hv => HTH.out M v (stored ks rs) w' hb (by omega) (by omega) hv)
    have H2 := Lib.hid (fun v w' hb hv => HTH.out (Tr.half M) v (stored ks (rs.take (Tr.half M))) w' hb (by omega) (by omega) hv)
    have H3 := Lib.hid (fun v w' hb hv => HTH.out (M - Tr.half M) v (stored ks (rs.drop (Tr.half M))) w' hb (by omega) (by omega) hv)
    rw [T1] at H1
    rw [T2] at H2
    rw [T3] at H3
    rw [← hM] at S1 S3
    obtain ⟨K, hK'⟩ : ∃ K, K = Tr.half M := ⟨_, rfl⟩
    rw [← hK'] at HCUT S2 S3 H2 H3 T4 L2 L3 hhp hhl
    generalize stored ks rs = st1 at *
    generalize stored ks (rs.take K) = st2 at *
    generalize stored ks (rs.drop K) = st3 at *
    generalize Tr.T (nhK ks) (recF ks rs) 0 M = t1 at *
    generalize Tr.T (nhK ks) (recF ks rs) 0 K = t2 at *
    generalize Tr.T (nhK ks) (recF ks rs) K (M - K) = t3 at *
    have HNH := Lib.hid (fun v u w' (hb : Below w.heap.size w w') hv hu => impl_NodeHash_any ks t2 t3 v u w' (HK.out.below hb hk0) hv hu)
    rw [h32_self L2, h32_self L3, show sha ks (1 :: (t2 ++ t3)) = nhK ks t2 t3 from rfl, ← T4] at HNH
    have HQ := Lib.hid (fun v u w' hv hu => bytesEqual_same t1 t1 v u w' hv hu rfl)
    have hkc : ¬ c0 = K := by omega
    have hk1 : (0 : Int) ≤ (K : Int) := by omega
    have hk2 : (K : Int) ≤ (M : Int) := by omega
    have hk3 : (K : Int) ≤ (c0 : Int) := by omega
    have hk4 : (M : Int) ≤ (c0 : Int) := by omega
    have hk5 : ((M : Int) - (K : Int)) = ((M - K : Nat) : Int) := by omega
    have hk6 : ¬ c0 < K := by omega
    rw [← hM] at hb1 hb2 ⊢
    clear T1 T2 T3 T4 L2 L3 hr1 hr2 hr3 hM hK' h0 hpl hsm HST HTH
    go_enter Tryd.func12, Tryd.ntmps12
    go_wp2_with fail
    refine (HCUT.out _).mono ?_
    rintro e w' ⟨rfl, rfl⟩
    go_wp2_with fail
    refine (S1.out w (Below.refl _ _)).mono ?_
    rintro e w1 ⟨⟨u1, us1, rfl, ho1, hf1⟩, hb1'⟩
    have HO1 := Lib.hid ho1.in_
    have HB1 := Lib.hid hb1'
    clear ho1 hf1 hb1'
    go_wp2_with fail
    refine (H1.out u1 w1 HB1.out HO1.out).mono ?_
    rintro e w2 ⟨⟨a1, rfl, hr1⟩, hb2'⟩
    have HB2 : Hid (Below w.heap.size w w2) := Lib.hid (bl_step HB1.out hb2' (Nat.le_refl _))
    have HA2 : Hid (BIn w2 a1 t1) := Lib.hid hr1.in_
    clear hr1 hb2'
    go_wp2_with fail
    refine (S2.out w2 HB2.out).mono ?_
    rintro e w3 ⟨⟨u3, us3, rfl, ho3, hf3⟩, hb3'⟩
    have HO3 := Lib.hid ho3.in_
    have HA3 := Lib.hid (HA2.out.below hb3')
    have HB3 : Hid (Below w.heap.size w w3) := Lib.hid (bl_step HB2.out hb3' (Nat.le_refl _))
    clear ho3 hf3 hb3'
    go_wp2_with fail
    refine (H2.out u3 w3 HB3.out HO3.out).mono ?_
    rintro e w4 ⟨⟨a4, rfl, hr4⟩, hb4'⟩
    have HB4 : Hid (Below w.heap.size w w4) := Lib.hid (bl_step HB3.out hb4' (Nat.le_refl _))
    have HC4 : Hid (BIn w4 a4 t2) := Lib.hid hr4.in_
    have HA4 := Lib.hid (HA3.out.below hb4')
    clear hr4 hb4'
    go_wp2_with fail
    refine (S3.out w4 HB4.out).mono ?_
    rintro e w5 ⟨⟨u5, us5, rfl, ho5, hf5⟩, hb5'⟩
    have HO5 := Lib.hid ho5.in_
    have HA5 := Lib.hid (HA4.out.below hb5')
    have HC5 := Lib.hid (HC4.out.below hb5')
    have HB5 : Hid (Below w.heap.size w w5) := Lib.hid (bl_step HB4.out hb5' (Nat.le_refl _))
    clear ho5 hf5 hb5'
    go_wp2_with fail
    refine (H3.out u5 w5 HB5.out HO5.out).mono ?_
    rintro e w6 ⟨⟨a6, rfl, hr6⟩, hb6'⟩
    have HB6 : Hid (Below w.heap.size w w6) := Lib.hid (bl_step HB5.out hb6' (Nat.le_refl _))
    have HD6 : Hid (BIn w6 a6 t3) := Lib.hid hr6.in_
    have HA6 := Lib.hid (HA5.out.below hb6')
    have HC6 := Lib.hid (HC5.out.below hb6')
    clear hr6 hb6'
    go_wp2_with fail
    refine (HNH.out a4 a6 w6 HB6.out HC6.out HD6.out).mono ?_
    rintro e w7 ⟨⟨g7, c7, rfl, ho7⟩, hb7'⟩
    have HB7 : Hid (Below w.heap.size w w7) := Lib.hid (bl_step HB6.out hb7' (Nat.le_refl _))
    have HN7 := Lib.hid (row_in ho7)
    have HA7 := Lib.hid (HA6.out.below hb7')
    clear ho7 hb7'
    go_wp2_with fail
    refine (HQ.out _ _ w7 HA7.out HN7.out).mono ?_
    rintro e w8 ⟨rfl, rfl⟩
    go_wp2_with fail
    go_ret
    exact ⟨rfl, HB7.out⟩

end Go.Proofs.YtlmcoaidngnomaaDoor
