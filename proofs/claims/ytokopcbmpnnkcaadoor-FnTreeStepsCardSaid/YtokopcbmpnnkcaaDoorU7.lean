/- The walk of FnTreeSelf: it returns true at every input, whatever words the table of SHA-256 holds. Conditions: errProofFailed and errMissing hold errors. -/
import Derived.Test.YtokopcbmpnnkcaaDoorU6
namespace Go.Proofs.YtokopcbmpnnkcaaDoor
open Go.RowKit
set_option linter.unusedVariables false

theorem pfTree_self {ks : List Int} {ls : List (List Int)} {t : Nat} (h : 1 ≤ t) : pfTree ks ls t (t : Int) = some [] := by
  rw [pfTree_good ⟨h, Nat.le_refl _⟩, Tr.treeIx_self (by omega), if_pos rfl]
  show some (Tr.treePf (nhK ks) 0 t t []).1 = some []
  rw [Tr.treePf_self _ (by omega), if_pos rfl]
set_option maxHeartbeats 2000000 in
set_option maxRecDepth 20000 in
theorem walk_FnTreeSelf (t : Int) (v1 : Value) (th : List Int) (v2 : Value) (h : List Int) (v3 : Value) (ls : List (List Int)) (w : World) (_ : (Lit.int .i64 t).wf = true)
    (h1 : (BIn w v1 th ∧ Oct th) ∧ th.length ≤ 140737488351232) (h2 : (BIn w v2 h ∧ Oct h) ∧ h.length ≤ 140737488351232)
    (h3 : (RowsIn w v3 ls ∧ OctR ls) ∧ (ls.length ≤ 5864062014634 ∧ ∀ l ∈ ls, l.length ≤ 140737488351232)) (hL : laidMetH Tryd.prog Rows.fnTreeSelfRow.laid w) (hsh : w.ShapedOpen Tryd.prog) :
    Calls Tryd.prog 5 #[.int .i64 t, v1, v2, v3] w fun e w' => e = .returned (.bool true) ∧ Below w.heap.size w w' := by
  rw [MakeChecks.laidMetH_plain _ _ _ (by kernel_rfl)] at hL
  obtain ⟨P0t, P0a, hP, hP0⟩ := proofFailed_of rfl hL
  obtain ⟨E0t, E0a, hE, hE0⟩ := missing_of rfl hL.tail
  obtain ⟨ks, hK⟩ := table_of hsh
  have hk0 : 4 < w.heap.size := (Array.getElem?_eq_some_iff.1 hK.2.2).1
  have HW := Lib.hid (fun (p : BW w) => trWorks_any ks p.val (hK.below p.bel hk0))
  have ht := rem_lt t 1099511627776 (by omega)
  have HTE := rem_eq t 1099511627776 (by omega)
  have HSZ := Lib.hid (fun w => spec_Size t w)
  rw [HTE] at HSZ
  obtain ⟨N, hN⟩ : ∃ N : Nat, N = if rem t 1099511627776 = 0 then 1 else rem t 1099511627776 := ⟨_, rfl⟩
  have hN1 : 1 ≤ N := by rw [hN]; split <;> omega
  have hN2 : N < 1099511627776 := by rw [hN]; split <;> omega
  have HP := Lib.hid (fun w' (hb : Below w.heap.size w w') => implProveTree_any ks ls (N : Int) (N : Int) N v3 E0t E0a w' (Int.emod_eq_of_lt (by omega) (by omega)) (h3.1.1.below hb) (hK.below hb hk0) ((hb.cell (p := ⟨0, 0, none⟩) hE0).trans hE) (Nat.lt_of_lt_of_le hE0 hb.size))
  rw [pfTree_self (ks := ks) (ls := ls) hN1] at HP
  have HC := Lib.hid (fun v w' (hb : Below w.heap.size w w') (hv : RowsIn w' v []) => implCheckTree_of (decide (h32 th = h32 h)) (N : Int) (N : Int) v v1 v2 [] th h w' hv (by simp) (h1.1.1.below hb) (h2.1.1.below hb) (fun u w'' hb2 hu => by
    obtain ⟨A, c, rfl⟩ := hu.form
    have hb3 : Below w.heap.size w w'' := bl_step hb hb2 (Nat.le_refl _)
    rw [Int.emod_eq_of_lt (show (0 : Int) ≤ (N : Int) by omega) (by omega)]
    refine (checkTree_of (some (h32 h, h32 h)) P0t P0a N N (.slice A 0 c) (h32 th) (h32 h) w'' hN1 (Nat.le_refl _) (by omega) (h32_len _) (h32_len _) ((hb3.cell (p := ⟨1, 0, none⟩) hP0).trans hP) (Nat.lt_of_lt_of_le hP0 hb3.size)
      (fun w3 _ => runTree_self N A c (h32 h) w3 hN1 (by omega) (h32_len _)) (fun x hx => by cases hx; exact ⟨h32_len _, h32_len _⟩)).mono ?_
    rintro e w4 ⟨⟨u, he, hu⟩, hb4⟩
    refine ⟨⟨u, he, ?_⟩, hb4⟩
    rw [show decide (h32 th = h32 h) = decide (some (h32 h, h32 h) = some (h32 h, h32 th)) by
      apply decide_eq_decide.2
      simp [eq_comm]]
    exact hu))
  have HH1 := Lib.hid (fun w' (hb : Below w.heap.size w w') => spec_Hash32 th v1 w' (h1.1.1.below hb))
  have HH2 := Lib.hid (fun w' (hb : Below w.heap.size w w') => spec_Hash32 h v2 w' (h2.1.1.below hb))
  have HQ := Lib.hid (fun v u w' (hv : BIn w' v (h32 th)) (hu : BIn w' u (h32 h)) => bytesEqual_any (h32 th) (h32 h) v u w' hv hu (oct_h32 h1.1.2) (oct_h32 h2.1.2))
  clear h1 h2 h3 hL hsh hK hE hP HTE
  obtain ⟨B, hB⟩ : ∃ B, B = decide (h32 th = h32 h) := ⟨_, rfl⟩
  rw [← hB] at HC HQ
  have H1 := Lib.hid (h32_len th)
  have H2 := Lib.hid (h32_len h)
  clear hB
  generalize h32 th = P at *
  generalize h32 h = Q at *
  generalize rem t 1099511627776 = T at *
  have hBB : (B == B) = true := by cases B <;> rfl
  by_cases hT : T = 0
  · rw [if_pos hT] at hN
    subst hN
    subst hT
    go_enter Tryd.func5, Tryd.ntmps5
    go_wp2_with fail
    refine (HSZ.out _).mono ?_
    rintro e w' ⟨rfl, rfl⟩
    go_wp2_with fail
    refine (HP.out w (Below.refl _ _)).mono ?_
    rintro e w1 ⟨⟨u1, rfl, us1, ho1, hf1⟩, hb1'⟩
    have HO1 := Lib.hid ho1.in_
    obtain ⟨A1, c1, rfl⟩ := HO1.out.form
    have HB1 := Lib.hid hb1'
    clear ho1 hf1 hb1'
    go_wp2_with fail
    refine (HC.out _ w1 HB1.out HO1.out).mono ?_
    rintro e w2 ⟨rfl, hb2'⟩
    have HB2 : Hid (Below w.heap.size w w2) := Lib.hid (bl_step HB1.out hb2' (Nat.le_refl _))
    clear hb2'
    go_wp2_with fail
    refine (HH1.out w2 HB2.out).mono ?_
    rintro e w3 ⟨⟨rfl, hp3⟩, hb3⟩
    have HP3 : Hid (BIn w3 (.slice (some ⟨w2.heap.size, 0, none⟩) 32 32) P) := Lib.hid (bat_in hp3 H1.out)
    have HB3 : Hid (Below w.heap.size w w3) := Lib.hid (bl_step HB2.out hb3 (Nat.le_refl _))
    clear hb3 hp3
    go_wp2_with fail
    refine (HH2.out w3 HB3.out).mono ?_
    rintro e w4 ⟨⟨rfl, hp4⟩, hb4⟩
    have HP4 : Hid (BIn w4 (.slice (some ⟨w2.heap.size, 0, none⟩) 32 32) P) := Lib.hid (HP3.out.below hb4)
    have HQ4 : Hid (BIn w4 (.slice (some ⟨w3.heap.size, 0, none⟩) 32 32) Q) := Lib.hid (bat_in hp4 H2.out)
    have HB4 : Hid (Below w.heap.size w w4) := Lib.hid (bl_step HB3.out hb4 (Nat.le_refl _))
    clear hb4 hp4
    go_wp2_with fail
    refine (HQ.out _ _ w4 HP4.out HQ4.out).mono ?_
    rintro e w5 ⟨rfl, rfl⟩
    go_wp2_with fail
    refine (HW.out ⟨w4, HB4.out⟩).mono ?_
    rintro e w6 ⟨rfl, hb6⟩
    have HB6 : Hid (Below w.heap.size w w6) := Lib.hid (bl_step HB4.out hb6 (Nat.le_refl _))
    clear hb6
    go_wp2_with fail
    go_ret
    exact ⟨rfl, HB6.out⟩
  · rw [if_neg hT] at hN
    subst hN
    have hb0 : ((N : Int) == 0) = false := by rw [beq_eq_false_iff_ne]; omega
    clear hT
    go_enter Tryd.func5, Tryd.ntmps5
    go_wp2_with fail
    refine (HSZ.out _).mono ?_
    rintro e w' ⟨rfl, rfl⟩
    go_wp2_with fail
    refine (HP.out w (Below.refl _ _)).mono ?_
    rintro e w1 ⟨⟨u1, rfl, us1, ho1, hf1⟩, hb1'⟩
    have HO1 := Lib.hid ho1.in_
    obtain ⟨A1, c1, rfl⟩ := HO1.out.form
    have HB1 := Lib.hid hb1'
    clear ho1 hf1 hb1'
    go_wp2_with fail
    refine (HC.out _ w1 HB1.out HO1.out).mono ?_
    rintro e w2 ⟨rfl, hb2'⟩
    have HB2 : Hid (Below w.heap.size w w2) := Lib.hid (bl_step HB1.out hb2' (Nat.le_refl _))
    clear hb2'
    go_wp2_with fail
    refine (HH1.out w2 HB2.out).mono ?_
    rintro e w3 ⟨⟨rfl, hp3⟩, hb3⟩
    have HP3 : Hid (BIn w3 (.slice (some ⟨w2.heap.size, 0, none⟩) 32 32) P) := Lib.hid (bat_in hp3 H1.out)
    have HB3 : Hid (Below w.heap.size w w3) := Lib.hid (bl_step HB2.out hb3 (Nat.le_refl _))
    clear hb3 hp3
    go_wp2_with fail
    refine (HH2.out w3 HB3.out).mono ?_
    rintro e w4 ⟨⟨rfl, hp4⟩, hb4⟩
    have HP4 : Hid (BIn w4 (.slice (some ⟨w2.heap.size, 0, none⟩) 32 32) P) := Lib.hid (HP3.out.below hb4)
    have HQ4 : Hid (BIn w4 (.slice (some ⟨w3.heap.size, 0, none⟩) 32 32) Q) := Lib.hid (bat_in hp4 H2.out)
    have HB4 : Hid (Below w.heap.size w w4) := Lib.hid (bl_step HB3.out hb4 (Nat.le_refl _))
    clear hb4 hp4
    go_wp2_with fail
    refine (HQ.out _ _ w4 HP4.out HQ4.out).mono ?_
    rintro e w5 ⟨rfl, rfl⟩
    go_wp2_with fail
    refine (HW.out ⟨w4, HB4.out⟩).mono ?_
    rintro e w6 ⟨rfl, hb6⟩
    have HB6 : Hid (Below w.heap.size w w6) := Lib.hid (bl_step HB4.out hb6 (Nat.le_refl _))
    clear hb6
    go_wp2_with fail
    go_ret
    exact ⟨rfl, HB6.out⟩

end Go.Proofs.YtokopcbmpnnkcaaDoor
