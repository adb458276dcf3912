/- The walk of FnRecordLong: it returns true at every input, whatever words the table of SHA-256 holds. Condition: tlog.errProofFailed holds an error. -/
import Derived.Test.YtlmcoaidngnomaaDoorRec
import Derived.Test.YtlmcoaidngnomaaDoorRows3
namespace Go.Proofs.YtlmcoaidngnomaaDoor
open Go.RowKit
set_option linter.unusedVariables false

theorem recOK_len {ks : List Int} {ls ls' : List (List Int)} {t n : Int} {th h : List Int} (h1 : recOK ks ls t n th h = true) (hl : ls.length ≠ ls'.length) : recOK ks ls' t n th h = false := by
  cases h2 : recOK ks ls' t n th h with
  | false => rfl
  | true =>
    exfalso
    unfold recOK at h1 h2
    obtain ⟨_, _, a⟩ := of_decide_eq_true h1
    obtain ⟨_, _, b⟩ := of_decide_eq_true h2
    have c := Tr.runRec_some (nhK ks) (ls.map h32) 0 (t % 1099511627776).toNat n.toNat (h32 h)
    have d := Tr.runRec_some (nhK ks) (ls'.map h32) 0 (t % 1099511627776).toNat n.toNat (h32 h)
    rw [a] at c
    rw [b] at d
    have c' := of_decide_eq_true c.symm
    have d' := of_decide_eq_true d.symm
    rw [List.length_map] at c' d'
    omega
theorem BIn.form {w : World} {v : Value} {p : List Int} (h : BIn w v p) : ∃ A c, v = .slice A p.length c := by
  obtain ⟨A, c, e, _⟩ := h
  exact ⟨A, c, e⟩
set_option maxHeartbeats 4000000 in
set_option maxRecDepth 20000 in
theorem walk_FnRecordLong (v0 : Value) (ls : List (List Int)) (t : Int) (v2 : Value) (th : List Int) (n : Int) (v4 : Value) (h : List Int) (v5 : Value) (o : List Int) (w : World)
    (h0 : (RowsIn w v0 ls ∧ OctR ls) ∧ (ls.length ≤ 5864062014634 ∧ ∀ l ∈ ls, l.length ≤ 140737488351232)) (_ : (Lit.int .i64 t).wf = true) (h2 : (BIn w v2 th ∧ Oct th) ∧ th.length ≤ 140737488351232) (_ : (Lit.int .i64 n).wf = true)
    (h4 : (BIn w v4 h ∧ Oct h) ∧ h.length ≤ 140737488351232) (h5 : (BIn w v5 o ∧ Oct o) ∧ o.length ≤ 140737488351232) (hL : laidMetH Tryd.prog Rows.fnRecordLongRow.laid w) (hsh : w.ShapedOpen Tryd.prog) :
    Calls Tryd.prog 3 #[v0, .int .i64 t, v2, .int .i64 n, v4, v5] w fun e w' => e = .returned (.bool true) ∧ Below w.heap.size w w' := by
  rw [MakeChecks.laidMetH_plain _ _ _ (by kernel_rfl)] at hL
  obtain ⟨E0t, E0a, hE, hE0⟩ := proofFailed_of rfl hL
  obtain ⟨ks, hK⟩ := table_of hsh
  have hk0 : 4 < w.heap.size := (Array.getElem?_eq_some_iff.1 hK.2.2).1
  have HW := Lib.hid (fun (p : BW w) => trWorks_any ks p.val (hK.below p.bel hk0))
  have HC := Lib.hid (fun w' (hb : Below w.heap.size w w') v (ms : List (List Int)) (hv : RowsIn w' v ms) (hl : ms.length ≤ 5864062014640) => implCheckRecord_any ks E0t E0a t n v v2 v4 ms th h w' hv hl (h2.1.1.below hb) (h4.1.1.below hb) (hK.below hb hk0) ((hb.cell (p := ⟨0, 0, none⟩) hE0).trans hE) (Nat.lt_of_lt_of_le hE0 hb.size))
  have HV0 := Lib.hid h0.1.1
  obtain ⟨vs, hvs⟩ := h0.1.1.at_
  have HVS := Lib.hid hvs
  have hll := h0.2.1
  have HB5 := Lib.hid h5.1.1
  obtain ⟨A5, c5, rfl⟩ := HB5.out.form
  obtain ⟨r, hr⟩ : ∃ r : List (List Int) → Bool, r = fun ms => recOK ks ms t n th h := ⟨_, rfl⟩
  have HF := Lib.hid (fun (hr : recOK ks ls t n th h = true) (ms : List (List Int)) (hl : ls.length ≠ ms.length) => recOK_len hr hl)
  have hrr : ∀ ms, recOK ks ms t n th h = r ms := fun ms => by rw [hr]
  simp only [hrr] at HC HF
  have HC0 := Lib.hid (HC.out w (Below.refl _ _) v0 ls h0.1.1 (by omega))
  clear h0 h2 h4 h5 hL hsh hK hE hr hrr hvs
  cases hr : r ls with
  | false =>
    rw [hr] at HC0
    clear hr
    go_enter Tryd.func3, Tryd.ntmps3
    go_wp2_with fail
    refine HC0.out.mono ?_
    rintro e w1 ⟨rfl, hb1⟩
    have HB1 := Lib.hid hb1
    clear hb1
    go_wp2_with fail
    refine (HW.out ⟨w1, HB1.out⟩).mono ?_
    rintro e w2 ⟨rfl, hb2⟩
    have HB2 : Hid (Below w.heap.size w w2) := Lib.hid (bl_step HB1.out hb2 (Nat.le_refl _))
    clear hb2
    go_wp2_with fail
    go_ret
    exact ⟨rfl, HB2.out⟩
  | true =>
    rw [hr] at HC0
    have HF := Lib.hid (fun ms hl => HF.out hr ms hl)
    clear hr
    obtain ⟨A0, c0, rfl⟩ := HV0.out.form
    go_enter Tryd.func3, Tryd.ntmps3
    go_wp2_with fail
    refine HC0.out.mono ?_
    rintro e w1 ⟨rfl, hb1⟩
    have HB1 := Lib.hid hb1
    clear hb1
    go_upto_region 4 with (first
      | (at_builtin; (refine app_rows rfl (.tmp 22) (.tmp 23) rfl w1.heap.size _ [] [] rfl (BRow.new_ w1) _ vs ls rfl (HVS.out.below (HB1.out.alloc HB1.out.size _)) (fun g hg => by
            have hg' : w1.heap.size = g := Option.some.inj hg
            exact HVS.out.off (by have := HB1.out.size; omega)) (by simp; omega) (by simp) ?_); intro v3 w3 hown3 hgrow3; have HO3 : Hid (BRow w3 w1.heap.size v3 vs ls) := Lib.hid (by simpa using hown3); have HG3 := Lib.hid hgrow3; clear hown3 hgrow3; have HB3 : Hid (Below w.heap.size w w3) := Lib.hid ((HB1.out.alloc HB1.out.size _).grown HG3.out (by have := HB1.out.size; simp; omega) (fun j hj => by have hj' : w1.heap.size = j := Option.some.inj hj; have := HB1.out.size; omega)))
      | (at_builtin; (refine app_rows rfl (.tmp 24) (.tmp 26) rfl w1.heap.size v3 vs ls rfl (HO3.out.alloc _) _ [.slice A5 o.length c5] [o] rfl (RowsAt.one (HB5.out.below HB3.out)) (fun g hg u hu => by
            obtain rfl : u = .slice A5 o.length c5 := by simpa using hu
            exact HB5.out.off (by have := (HO3.out.1.lt g hg).1; have := HB1.out.size; omega)) (by simp; omega) (by have := HG3.out.size; simp at this ⊢; omega) ?_); intro v4' w4 hown4 hgrow4; have HO4 := Lib.hid hown4; have HG4 := Lib.hid hgrow4; clear hown4 hgrow4; have HB4 : Hid (Below w.heap.size w w4) := Lib.hid ((HB3.out.alloc HB3.out.size _).grown HG4.out (by have := HB3.out.size; simp; omega) (fun j hj => by have := (HO3.out.1.lt j hj).1; have := HB1.out.size; omega))))
    have HC4 := Lib.hid (HC.out w4 HB4.out v4' (ls ++ [o]) HO4.out.in_ (by simp; omega))
    rw [HF.out (ls ++ [o]) (by simp)] at HC4
    by_cases hnil : ls.length = 0
    · have hb0 : ((ls.length : Int) == 0) = true := by rw [hnil]; rfl
      clear hnil
      go_wp2_with fail
      refine HC4.out.mono ?_
      rintro e w5 ⟨rfl, hb5⟩
      have HB5' : Hid (Below w.heap.size w w5) := Lib.hid (bl_step HB4.out hb5 (Nat.le_refl _))
      clear hb5
      go_wp2_with fail
      refine (HW.out ⟨w5, HB5'.out⟩).mono ?_
      rintro e w6 ⟨rfl, hb6⟩
      have HB6 : Hid (Below w.heap.size w w6) := Lib.hid (bl_step HB5'.out hb6 (Nat.le_refl _))
      clear hb6
      go_wp2_with fail
      go_ret
      exact ⟨rfl, HB6.out⟩
    · have hb0 : ((ls.length : Int) == 0) = false := by rw [beq_eq_false_iff_ne]; omega
      obtain ⟨b, off, rfl⟩ : ∃ b off, A0 = some ⟨b, off, none⟩ := by
        obtain ⟨A, c, e, h1, h2, h3⟩ := HV0.out
        cases e
        rcases h3 with h3 | ⟨b, off, e, _⟩
        · omega
        · exact ⟨b, off, e⟩
      have hc : ls.length ≤ c0 ∧ c0 ≤ 9223372036854775807 := by
        obtain ⟨A, c, e, h1, h2, h3⟩ := HV0.out
        cases e
        exact ⟨h1, h2⟩
      obtain ⟨M, hM⟩ : ∃ M, M = ls.length := ⟨_, rfl⟩
      have hlo1 : (1 : Int) ≤ (M : Int) := by omega
      have hlo2 : (M : Int) ≤ (c0 : Int) := by omega
      have hlo3 : (0 : Int) ≤ (M : Int) - 1 := by omega
      have hlo4 : (M : Int) - 1 ≤ (c0 : Int) := by omega
      have HC5 := Lib.hid (fun w' hb => HC.out w' hb _ ls.tail ((HV0.out.below hb).tail_ (by omega)) (by rw [List.length_tail]; omega))
      rw [HF.out ls.tail (by rw [List.length_tail]; omega)] at HC5
      have HC6 := Lib.hid (fun w' hb => HC.out w' hb _ ls.dropLast (HV0.out.below hb).init_ (by rw [List.length_dropLast]; omega))
      rw [HF.out ls.dropLast (by rw [List.length_dropLast]; omega)] at HC6
      rw [← hM] at HC5 HC6 hb0 ⊢
      clear hnil hM
      by_cases hc1 : c0 = 1
      · subst hc1
        rw [if_pos rfl] at HC5
        go_wp2_with fail
        refine HC4.out.mono ?_
        rintro e w5 ⟨rfl, hb5⟩
        have HB5' : Hid (Below w.heap.size w w5) := Lib.hid (bl_step HB4.out hb5 (Nat.le_refl _))
        clear hb5
        go_wp2_with fail
        refine (HC5.out w5 HB5'.out).mono ?_
        rintro e w6 ⟨rfl, hb6⟩
        have HB6 : Hid (Below w.heap.size w w6) := Lib.hid (bl_step HB5'.out hb6 (Nat.le_refl _))
        clear hb6
        go_wp2_with fail
        refine (HC6.out w6 HB6.out).mono ?_
        rintro e w7 ⟨rfl, hb7⟩
        have HB7 : Hid (Below w.heap.size w w7) := Lib.hid (bl_step HB6.out hb7 (Nat.le_refl _))
        clear hb7
        go_wp2_with fail
        refine (HW.out ⟨w7, HB7.out⟩).mono ?_
        rintro e w8 ⟨rfl, hb8⟩
        have HB8 : Hid (Below w.heap.size w w8) := Lib.hid (bl_step HB7.out hb8 (Nat.le_refl _))
        clear hb8
        go_wp2_with fail
        go_ret
        exact ⟨rfl, HB8.out⟩
      · rw [if_neg hc1] at HC5
        go_wp2_with fail
        refine HC4.out.mono ?_
        rintro e w5 ⟨rfl, hb5⟩
        have HB5' : Hid (Below w.heap.size w w5) := Lib.hid (bl_step HB4.out hb5 (Nat.le_refl _))
        clear hb5
        go_wp2_with fail
        refine (HC5.out w5 HB5'.out).mono ?_
        rintro e w6 ⟨rfl, hb6⟩
        have HB6 : Hid (Below w.heap.size w w6) := Lib.hid (bl_step HB5'.out hb6 (Nat.le_refl _))
        clear hb6
        go_wp2_with fail
        refine (HC6.out w6 HB6.out).mono ?_
        rintro e w7 ⟨rfl, hb7⟩
        have HB7 : Hid (Below w.heap.size w w7) := Lib.hid (bl_step HB6.out hb7 (Nat.le_refl _))
        clear hb7
        go_wp2_with fail
        refine (HW.out ⟨w7, HB7.out⟩).mono ?_
        rintro e w8 ⟨rfl, hb8⟩
        have HB8 : Hid (Below w.heap.size w w8) := Lib.hid (bl_step HB7.out hb8 (Nat.le_refl _))
        clear hb8
        go_wp2_with fail
        go_ret
        exact ⟨rfl, HB8.out⟩

end Go.Proofs.YtlmcoaidngnomaaDoor
