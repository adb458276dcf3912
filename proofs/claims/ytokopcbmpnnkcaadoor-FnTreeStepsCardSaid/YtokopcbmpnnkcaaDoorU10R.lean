/- tlog.runTreeProof: the ways with a call of itself (to the right). Conditions: the numbers of records are below 2 to the power of 41; the hashes lie in memory. -/
import Derived.Test.YtokopcbmpnnkcaaDoorU9L
namespace Go.Proofs.YtokopcbmpnnkcaaDoor
open Go.RowKit
set_option linter.unusedVariables false
set_option linter.unusedSimpArgs false

set_option maxHeartbeats 4000000 in
set_option maxRecDepth 50000 in
theorem runTree_stepR (ks : List Int) (lo hi n : Nat) (v : Value) (ps : List (List Int)) (q old x1 x2 : List Int) (w : World) (h1 : lo < n) (h2 : n < hi) (hb : hi < 2199023255552) (hn : ¬ n ≤ lo + Tr.half (hi - lo)) (hv : HIn w v (ps ++ [q])) (hl : old.length = 32) (hK : WAt w 4 ks) (hx1 : x1.length = 32) (hx2 : x2.length = 32)
    (hC : ∀ v' w', HIn w' v' ps → Below w.heap.size w w' → Calls Tryd.prog 47 #[v', .int .i64 ((lo : Int) + (Tr.half (hi - lo) : Nat)), .int .i64 hi, .int .i64 n, .agg (hcs old).toArray] w' fun e w'' => e = .returned (treeOut .nilIface (some (x1, x2))) ∧ Below w'.heap.size w' w'') :
    Calls Tryd.prog 47 #[v, .int .i64 lo, .int .i64 hi, .int .i64 n, .agg (hcs old).toArray] w fun e w' => e = .returned (treeOut .nilIface (some (nhK ks q x1, nhK ks q x2))) ∧ Below w.heap.size w w' := by
  have hz := zh_zero
  rw [show ((List.replicate 32 (0 : Int)).map (Value.int .u8)).toArray = (hcs z32).toArray from rfl] at hz
  obtain ⟨zs, hzs⟩ : ∃ zs, zs = z32 := ⟨_, rfl⟩
  have HZS := Lib.hid hzs
  rw [← hzs] at hz
  have HZL : Hid (zs.length = 32) := Lib.hid (by rw [hzs]; rfl)
  have HLL := Lib.hid hl
  obtain ⟨W3, hW3⟩ : ∃ W3, W3 = ((w.alloc (Obj.cells (hcs old).toArray 54)).alloc (Obj.cells (hcs zs).toArray 54)).alloc (Obj.cells (hcs zs).toArray 54) := ⟨_, rfl⟩
  have HW3 := Lib.hid hW3
  have HB3 : Hid (Below w.heap.size w W3) := Lib.hid (by rw [hW3]; exact (((Below.refl w.heap.size w).alloc (Nat.le_refl _) _).alloc (by simp) _).alloc (by simp; omega) _)
  have HO3 : Hid (BAt W3 w.heap.size 54 old) := Lib.hid (by rw [hW3]; exact (Below.heap_alloc _ _ _ (by simp; omega)).trans ((Below.heap_alloc _ _ _ (by simp)).trans (heap_alloc_new w _)))
  have HP3 : Hid (BAt W3 (w.heap.size + 1) 54 zs) := Lib.hid (by
    have := heap_alloc_new (w.alloc (Obj.cells (hcs old).toArray 54)) (Obj.cells (hcs zs).toArray 54)
    rw [show (w.alloc (Obj.cells (hcs old).toArray 54)).heap.size = w.heap.size + 1 by simp] at this
    rw [hW3]; exact (Below.heap_alloc _ _ _ (by simp)).trans this)
  have HQ3 : Hid (BAt W3 (w.heap.size + 2) 54 zs) := Lib.hid (by
    have := heap_alloc_new ((w.alloc (Obj.cells (hcs old).toArray 54)).alloc (Obj.cells (hcs zs).toArray 54)) (Obj.cells (hcs zs).toArray 54)
    rw [show ((w.alloc (Obj.cells (hcs old).toArray 54)).alloc (Obj.cells (hcs zs).toArray 54)).heap.size = w.heap.size + 2 by simp] at this
    rw [hW3]; exact this)
  have HS3 : Hid (W3.heap.size = w.heap.size + 3) := Lib.hid (by rw [hW3]; simp)
  have HK := Lib.hid hK
  obtain ⟨b, off, c, rfl, hc1, hc2, hblt, hqr, hql, hvl⟩ := hv.last
  have HVL := Lib.hid hvl
  have hhp := Tr.half_pos (hi - lo)
  have hhl := Tr.half_lt (d := hi - lo) (by omega)
  have hmp := maxpow2_any (hi - lo - 1) (by omega) (by omega)
  rw [show 2 ^ (hi - lo - 1).log2 = Tr.half (hi - lo) from rfl] at hmp
  have hc3 : ((hi : Int) - lo) = ((hi - lo - 1 : Nat) : Int) + 1 := by omega
  obtain ⟨K, hKK⟩ : ∃ K, K = Tr.half (hi - lo) := ⟨_, rfl⟩
  rw [← hKK] at hC hmp hn hhl hhp
  have HMP := Lib.hid hmp
  have HQL := Lib.hid hql
  have HX1 := Lib.hid hx1
  have HX2 := Lib.hid hx2
  have HC := Lib.hid hC
  have HBL := Lib.hid hblt
  have HQR := Lib.hid hqr
  obtain ⟨M, hM⟩ : ∃ M, M = ps.length + 1 := ⟨_, rfl⟩
  rw [← hM] at hc1 ⊢
  have HM := Lib.hid hM
  have hMz : ((M : Int) == 0) = false := by simp; omega
  obtain ⟨N, hN⟩ : ∃ N, N = ps.length := ⟨_, rfl⟩
  rw [← hN] at hqr HQR
  have HN := Lib.hid hN
  obtain ⟨J, hJ⟩ : ∃ J : Int, J = (M : Int) - 1 := ⟨_, rfl⟩
  have hs1 : (0 : Int) ≤ J := by omega
  have hs2 : J ≤ (c : Int) := by omega
  have hs3 : J.toNat = N := by omega
  have hs6 : J < (M : Int) := by omega
  have HMW : Hid (IntKind.i64.wrap ((M : Int) - 1) = J) := Lib.hid (by rw [IntWalk.i64_in _ (by omega), hJ])
  have HKW : Hid (IntKind.i64.wrap ((lo : Int) + (K : Int)) = (lo : Int) + (K : Int)) := Lib.hid (IntWalk.i64_in _ (by omega))
  have hb1 : decide ((lo : Int) < (n : Int)) = true := by simp; omega
  have hb2 : decide (n ≤ hi) = true := by simp; omega
  have hb3 : ((n : Int) == (hi : Int)) = false := by rw [beq_eq_false_iff_ne]; omega
  clear hW3 hzs hl hK hv hvl hqr hblt hql hx1 hx2 hC hmp hKK hM hN hJ
  go_enter Tryd.func47, Tryd.ntmps47
  go_upto_region 1 with fail
  rw [← HW3.out]
  have hKw := HKW.out
  have hb4 : decide ((n : Int) ≤ (lo : Int) + (K : Int)) = false := by simp; omega
  have hb4n : decide (n ≤ lo + K) = false := by simp; omega
  go_upto_region 19 with (go_at_call 52; refine (HMP.out _).mono ?_; rintro e w' ⟨rfl, rfl⟩)
  go_cut [18, 19, 20] from 104 to 119 (fun p1 p2 e wx => ∃ g1 g2, p1 = .pointer (some ⟨g1, 0, none⟩) ∧ p2 = .pointer (some ⟨g2, 0, none⟩) ∧ e = .nilIface ∧ Hid (Below W3.heap.size W3 wx) ∧ Hid (wx.rangeAt g1 0 (hcs x1)) ∧ Hid (wx.rangeAt g2 0 (hcs x2)) ∧ Hid (W3.heap.size ≤ g1) ∧ Hid (W3.heap.size ≤ g2))
  case first =>
    have hr3 : W3.rangeAt w.heap.size 0 (hcs old) := b_range HO3.out
    have hinfo := info_hcs HLL.out
    have hinf1 := info_hcs HX1.out
    have hinf2 := info_hcs HX2.out
    have honeo := hcs_one old
    have hone1 := hcs_one x1
    have hone2 := hcs_one x2
    have hu := Tryd.underlying54
    have hMw := HMW.out
    have HCC : Hid (∀ w', Below W3.heap.size W3 w' → Calls Tryd.prog 47 #[.slice (some ⟨b, off, none⟩) N c, .int .i64 ((lo : Int) + (K : Nat)), .int .i64 (hi : Int), .int .i64 n, .agg (hcs old).toArray] w' fun e w'' => e = .returned (.tuple #[.agg (hcs x1).toArray, .agg (hcs x2).toArray, .nilIface]) ∧ Below w'.heap.size w' w'' ∧ w''.rangeAt w.heap.size 0 (hcs old) ∧ w.heap.size ≠ w''.heap.size ∧ w.heap.size ≠ w''.heap.size + 1 ∧ ∀ g n, g < w'.heap.size → w'.there g 0 n → w''.there g 0 n) := Lib.hid (fun w' hbb => by
      have hb' : Below w.heap.size w w' := HB3.out.trans (hbb.mono HB3.out.size)
      have := HC.out (.slice (some ⟨b, off, none⟩) N c) w' (by have := HVL.out; rw [← HN.out] at this; exact this.below hb') hb'
      refine this.mono ?_
      rintro e w'' ⟨he, hbel⟩
      exact ⟨he, hbel, rangeAt_below (rangeAt_below (b_range HO3.out) hbb (by rw [HS3.out]; omega)) hbel (by have := hbb.size; rw [HS3.out] at this; omega), (by have h5 := hbb.size; rw [HS3.out] at h5; have h6 := hbel.size; omega), (by have h5 := hbb.size; rw [HS3.out] at h5; have h6 := hbel.size; omega), fun g n hg ht => there_below ht hbel hg⟩)
    have hneW : w.heap.size ≠ W3.heap.size := by rw [HS3.out]; omega
    have hneW1 : w.heap.size ≠ W3.heap.size + 1 := by rw [HS3.out]; omega
    have gs : ∀ (X : World) (b o : Nat) (cs : List Value) (g m : Nat), X.there g 0 m → (X.setCells b o cs).there g 0 m := fun X b o cs g m h => World.there_setCells h _ _ _
    have ga : ∀ (X : World) (g m : Nat), X.there g 0 m → (X.alloc (Obj.cells (hcs zs).toArray 54)).there g 0 m := fun X g m h => World.there_alloc h _
    have m1 : (hcs x1).length ≤ zs.length := by rw [hcs_len, HX1.out, HZL.out]; exact Nat.le_refl _
    have m2 : (hcs x2).length ≤ zs.length := by rw [hcs_len, HX2.out, HZL.out]; exact Nat.le_refl _
    have g01 : ∀ X : World, (X.alloc (Obj.cells (hcs zs).toArray 54)).there X.heap.size 0 (hcs x1).length := fun X => there_new X zs _ _ m1
    have g02 : ∀ X : World, (X.alloc (Obj.cells (hcs zs).toArray 54)).there X.heap.size 0 (hcs x2).length := fun X => there_new X zs _ _ m2
    have gc1 : ∀ X : World, ((X.alloc (Obj.cells (hcs zs).toArray 54)).alloc (Obj.cells (hcs zs).toArray 54)).there (X.heap.size + 1) 0 (hcs x1).length := fun X => by have := g01 (X.alloc (Obj.cells (hcs zs).toArray 54)); rwa [show (X.alloc (Obj.cells (hcs zs).toArray 54)).heap.size = X.heap.size + 1 by simp] at this
    have gc2 : ∀ X : World, ((X.alloc (Obj.cells (hcs zs).toArray 54)).alloc (Obj.cells (hcs zs).toArray 54)).there (X.heap.size + 1) 0 (hcs x2).length := fun X => by have := g02 (X.alloc (Obj.cells (hcs zs).toArray 54)); rwa [show (X.alloc (Obj.cells (hcs zs).toArray 54)).heap.size = X.heap.size + 1 by simp] at this
    have l1 : W3.heap.size < (W3.drew.alloc (Obj.cells (hcs zs).toArray 54)).heap.size := by simp
    have l2 : W3.heap.size < ((W3.drew.alloc (Obj.cells (hcs zs).toArray 54)).alloc (Obj.cells (hcs zs).toArray 54)).heap.size := by simp; omega
    have l3 : W3.heap.size + 1 < ((W3.drew.alloc (Obj.cells (hcs zs).toArray 54)).alloc (Obj.cells (hcs zs).toArray 54)).heap.size := by simp
    have d1 : (W3.drew.alloc (Obj.cells (hcs zs).toArray 54)).there W3.heap.size 0 (hcs x1).length := g01 W3.drew
    have d2 : (W3.drew.alloc (Obj.cells (hcs zs).toArray 54)).there W3.heap.size 0 (hcs x2).length := g02 W3.drew
    have e1 := ga _ _ _ d1
    have e2 := ga _ _ _ d2
    have e3 : ((W3.drew.alloc (Obj.cells (hcs zs).toArray 54)).alloc (Obj.cells (hcs zs).toArray 54)).there (W3.heap.size + 1) 0 (hcs x1).length := gc1 W3.drew
    have e4 : ((W3.drew.alloc (Obj.cells (hcs zs).toArray 54)).alloc (Obj.cells (hcs zs).toArray 54)).there (W3.heap.size + 1) 0 (hcs x2).length := gc2 W3.drew
    go_region_held3 (fun w' => w'.rangeAt w.heap.size 0 (hcs old)) ((first | assumption | (exact World.rangeAt_setCells_apart (by assumption) _ _ _ (.inl (by assumption))) | (exact World.rangeAt_alloc (by assumption) _) | (simpa using hr3))) ((go_at_call 47; (with_reducible refine (HCC.out _ ?hcb).mono ?_); (case hcb => first | exact (Below.refl _ _).drew | exact (Below.refl _ _).drew.alloc (Nat.le_refl _) _ | exact ((Below.refl _ _).drew.alloc (Nat.le_refl _) _).alloc (by simp) _); rintro e w1 ⟨rfl, hb1', hk1, hne1, hne2, hth1⟩; (try have k1 := hth1 _ _ l1 d1); (try have k2 := hth1 _ _ l1 d2); (try have k3 := hth1 _ _ l2 e1); (try have k4 := hth1 _ _ l2 e2); (try have k5 := hth1 _ _ l3 e3); (try have k6 := hth1 _ _ l3 e4); clear hth1))
    all_goals (go_wp2_with fail; go_meet; refine ⟨_, _, rfl, rfl, rfl, Lib.hid ?_, Lib.hid ?_, Lib.hid ?_, Lib.hid ?_, Lib.hid ?_⟩)
    all_goals (clear l1 l2 l3)
    all_goals (have hsz := hb1'.size)
    all_goals (try simp at hsz)
    all_goals first
      | (refine below_set (below_set ?_ ?s1 (Nat.le_refl _) 0 _) ?s2 (Nat.le_refl _) 0 _
         (case s1 => (first | omega | (simp; done) | (simp; omega)))
         (case s2 => (first | omega | (simp; done) | (simp; omega)))
         first
           | exact ((((Below.refl _ _).drew).trans hb1').alloc (by simp; omega) _).alloc (by simp; omega) _
           | exact ((bl_step ((Below.refl _ _).drew.alloc (Nat.le_refl _) _) hb1' (Nat.le_refl _)).alloc (by simp; omega) _)
           | exact bl_step (((Below.refl _ _).drew.alloc (Nat.le_refl _) _).alloc (by simp) _) hb1' (Nat.le_refl _))
      | (refine World.rangeAt_setCells_apart (World.rangeAt_setCells_same _ _ _ _ ?q1) _ _ _ (.inl ?q2)
         (case q1 => (repeat (first | assumption | exact g01 _ | exact g02 _ | exact gc1 _ | exact gc2 _ | apply gs | apply ga)))
         (case q2 => (first | omega | (simp; done) | (simp; omega))))
      | (refine World.rangeAt_setCells_same _ _ _ _ ?r1
         (case r1 => (repeat (first | assumption | exact g01 _ | exact g02 _ | exact gc1 _ | exact gc2 _ | apply gs | apply ga))))
      | omega
      | (simp; done)
      | (simp; omega)
  case rest =>
    obtain ⟨g1, g2, rfl, rfl, rfl, HBX, HR1, HR2, HG1, HG2⟩ := hcut
    clear hc3 HC
    have HBW : Hid (Below w.heap.size w wc) := Lib.hid (HB3.out.trans (HBX.out.mono HB3.out.size))
    have HQD : Hid (wc.rangeAt b (off + N * 32) (hcs q)) := Lib.hid (rangeAt_below HQR.out HBW.out HBL.out)
    have HT1 : Hid (wc.there (w.heap.size + 1) 0 32) := Lib.hid (there_below (b_there HP3.out 32 (by rw [HZL.out]; exact Nat.le_refl _)) HBX.out (by rw [HS3.out]; omega))
    have HT2 : Hid (wc.there (w.heap.size + 2) 0 32) := Lib.hid (there_below (b_there HQ3.out 32 (by rw [HZL.out]; exact Nat.le_refl _)) HBX.out (by rw [HS3.out]; omega))
    have n11 : g1 ≠ w.heap.size + 1 := by have := HG1.out; rw [HS3.out] at this; omega
    have n12 : g1 ≠ w.heap.size + 2 := by have := HG1.out; rw [HS3.out] at this; omega
    have n21 : g2 ≠ w.heap.size + 1 := by have := HG2.out; rw [HS3.out] at this; omega
    have n22 : g2 ≠ w.heap.size + 2 := by have := HG2.out; rw [HS3.out] at this; omega
    have nb1 : b ≠ w.heap.size + 1 := by have := HBL.out; omega
    have nb2 : b ≠ w.heap.size + 2 := by have := HBL.out; omega
    have HKB := Lib.hid (fun w' (hb : Below w.heap.size w w') => HK.out.below hb (Array.getElem?_eq_some_iff.1 HK.out.2.2).1)
    obtain ⟨Y, hY⟩ : ∃ Y, Y = nhK ks q x1 := ⟨_, rfl⟩
    have HY := Lib.hid hY
    have HYL : Hid (Y.length = 32) := Lib.hid (by rw [hY]; exact nhK_len _ _ _)
    have HNY : Hid (∀ w', Below w.heap.size w w' → Calls Tryd.prog 53 #[.agg (hcs q).toArray, .agg (hcs x1).toArray] w' fun e w'' => e = .returned (.agg (hcs Y).toArray) ∧ Below w'.heap.size w' w'') := Lib.hid (fun w' hb => by
      refine (nodeHash_any ks q x1 HQL.out HX1.out w' (HKB.out w' hb)).mono ?_
      rintro e w'' ⟨he, hbel⟩
      exact ⟨by rw [he, hY]; rfl, hbel⟩)
    clear hY
    have tY : Hid (∀ (w' : World) (G : Nat), w'.there G 0 32 → w'.there G 0 (hcs Y).length) := Lib.hid (fun w' G h => by rw [hcs_len, HYL.out]; exact h)
    obtain ⟨Z, hZ⟩ : ∃ Z, Z = nhK ks q x2 := ⟨_, rfl⟩
    have HZ := Lib.hid hZ
    have HZL_ : Hid (Z.length = 32) := Lib.hid (by rw [hZ]; exact nhK_len _ _ _)
    have HNZ : Hid (∀ w', Below w.heap.size w w' → Calls Tryd.prog 53 #[.agg (hcs q).toArray, .agg (hcs x2).toArray] w' fun e w'' => e = .returned (.agg (hcs Z).toArray) ∧ Below w'.heap.size w' w'') := Lib.hid (fun w' hb => by
      refine (nodeHash_any ks q x2 HQL.out HX2.out w' (HKB.out w' hb)).mono ?_
      rintro e w'' ⟨he, hbel⟩
      exact ⟨by rw [he, hZ]; rfl, hbel⟩)
    clear hZ
    have tZ : Hid (∀ (w' : World) (G : Nat), w'.there G 0 32 → w'.there G 0 (hcs Z).length) := Lib.hid (fun w' G h => by rw [hcs_len, HZL_.out]; exact h)
    go_upto_region 22 with fail
    have hMw := HMW.out
    have hS0 : Below w.heap.size w wc.drew ∧ wc.drew.rangeAt g1 0 (hcs x1) ∧ wc.drew.rangeAt g2 0 (hcs x2) ∧ wc.drew.rangeAt b (off + N * 32) (hcs q) ∧ wc.drew.there (w.heap.size + 1) 0 32 ∧ wc.drew.there (w.heap.size + 2) 0 32 := ⟨HBW.out.drew, by simpa using HR1.out, by simpa using HR2.out, by simpa using HQD.out, by simpa using HT1.out, by simpa using HT2.out⟩
    refine wp_region_noPanic ?_
    refine wp_region_held_drew (S := fun w' => Below w.heap.size w w' ∧ w'.rangeAt g1 0 (hcs x1) ∧ w'.rangeAt g2 0 (hcs x2) ∧ w'.rangeAt b (off + N * 32) (hcs q) ∧ w'.there (w.heap.size + 1) 0 32 ∧ w'.there (w.heap.size + 2) 0 32) (by kernel_rfl) hS0 (fun hHeld => ?_)
    refine' wpAnyH_take (i := 0) (v := .slice (some ⟨b, off, none⟩) M c) ?hiv22 (by kernel_rfl) ?hfv22 (by kernel_rfl) ?hQv22 ?hyv22 (by assumption) ?restv22
    case hiv22 => (simp only [List.getElem?_toArray, List.getElem?_cons_succ, List.getElem?_cons_zero]; exact rfl)
    case hfv22 => kernel_rfl
    case hQv22 => exact fun _ _ _ h => h
    case hyv22 => exact (Or.inl ⟨by rfl, fun w hSw => by first | rfl | go_simp⟩)
    try simp only [Act.put, List.setIfInBounds_toArray, List.set_cons_zero, List.set_cons_succ]
    refine' wpAnyH_take (i := 1) (v := .slice (some ⟨b, off, none⟩) M c) ?hiv23 (by kernel_rfl) ?hfv23 (by kernel_rfl) ?hQv23 ?hyv23 (by assumption) ?restv23
    case hiv23 => (simp only [List.getElem?_toArray, List.getElem?_cons_succ, List.getElem?_cons_zero]; exact rfl)
    case hfv23 => kernel_rfl
    case hQv23 => exact fun _ _ _ h => h
    case hyv23 => exact (Or.inl ⟨by rfl, fun w hSw => by first | rfl | go_simp⟩)
    try simp only [Act.put, List.setIfInBounds_toArray, List.set_cons_zero, List.set_cons_succ]
    refine' wpAnyH_take (i := 2) (v := .int .i64 M) ?hiv24 (by kernel_rfl) ?hfv24 (by kernel_rfl) ?hQv24 ?hyv24 (by assumption) ?restv24
    case hiv24 => (simp only [List.getElem?_toArray, List.getElem?_cons_succ, List.getElem?_cons_zero]; exact rfl)
    case hfv24 => kernel_rfl
    case hQv24 => exact fun _ _ _ h => h
    case hyv24 => exact (Or.inl ⟨by rfl, fun w hSw => by first | rfl | go_simp⟩)
    try simp only [Act.put, List.setIfInBounds_toArray, List.set_cons_zero, List.set_cons_succ]
    refine' wpAnyH_take (i := 3) (v := .int .i64 J) ?hiv25 (by kernel_rfl) ?hfv25 (by kernel_rfl) ?hQv25 ?hyv25 (by assumption) ?restv25
    case hiv25 => (simp only [List.getElem?_toArray, List.getElem?_cons_succ, List.getElem?_cons_zero]; exact rfl)
    case hfv25 => kernel_rfl
    case hQv25 => exact fun _ _ _ h => h
    case hyv25 => exact (Or.inl ⟨by rfl, fun w hSw => by first | rfl | go_simp⟩)
    try simp only [Act.put, List.setIfInBounds_toArray, List.set_cons_zero, List.set_cons_succ]
    refine' wpAnyH_take (i := 4) (v := .pointer (some ⟨b, off + N * 32, none⟩)) ?hiv26 (by kernel_rfl) ?hfv26 (by kernel_rfl) ?hQv26 ?hyv26 (by assumption) ?restv26
    case hiv26 => (simp only [List.getElem?_toArray, List.getElem?_cons_succ, List.getElem?_cons_zero]; exact rfl)
    case hfv26 => kernel_rfl
    case hQv26 => exact fun _ _ _ h => h
    case hyv26 => exact (Or.inl ⟨by rfl, fun w hSw => by first | rfl | go_simp⟩)
    try simp only [Act.put, List.setIfInBounds_toArray, List.set_cons_zero, List.set_cons_succ]
    refine' wpAnyH_take (i := 5) ?hiv27 (by kernel_rfl) ?hfv27 (by kernel_rfl) ?hQv27 ?hyv27 (by assumption) ?restv27
    case hiv27 => (simp only [List.getElem?_toArray, List.getElem?_cons_succ, List.getElem?_cons_zero]; exact rfl)
    case hfv27 => kernel_rfl
    case hQv27 => exact fun _ _ _ h => h
    case hyv27 => exact (yieldsIf_load_mid (by rfl) 54 (.tmp 129) rfl (b) (off + N * 32) rfl (hcs q) _ (fun w h => h.2.2.2.1) Tryd.underlying54 rfl (info_hcs HQL.out))
    try simp only [Act.put, List.setIfInBounds_toArray, List.set_cons_zero, List.set_cons_succ]
    refine' wpAnyH_take (i := 6) ?hiv28 (by kernel_rfl) ?hfv28 (by kernel_rfl) ?hQv28 ?hyv28 (by assumption) ?restv28
    case hiv28 => (simp only [List.getElem?_toArray, List.getElem?_cons_succ, List.getElem?_cons_zero]; exact rfl)
    case hfv28 => kernel_rfl
    case hQv28 => exact fun _ _ _ h => h
    case hyv28 => exact (yieldsIf_load_mid (by rfl) 54 (.tmp 18) rfl (g1) (0) rfl (hcs x1) _ (fun w h => h.2.1) Tryd.underlying54 rfl (info_hcs HX1.out))
    try simp only [Act.put, List.setIfInBounds_toArray, List.set_cons_zero, List.set_cons_succ]
    refine' wpAnyH_take (i := 8) (v := .slice (some ⟨b, off, none⟩) M c) ?hiv29 (by kernel_rfl) ?hfv29 (by kernel_rfl) ?hQv29 ?hyv29 (by assumption) ?restv29
    case hiv29 => (simp only [List.getElem?_toArray, List.getElem?_cons_succ, List.getElem?_cons_zero]; exact rfl)
    case hfv29 => kernel_rfl
    case hQv29 => exact fun _ _ _ h => h
    case hyv29 => exact (Or.inl ⟨by rfl, fun w hSw => by first | rfl | go_simp⟩)
    try simp only [Act.put, List.setIfInBounds_toArray, List.set_cons_zero, List.set_cons_succ]
    refine' wpAnyH_take (i := 9) (v := .slice (some ⟨b, off, none⟩) M c) ?hiv30 (by kernel_rfl) ?hfv30 (by kernel_rfl) ?hQv30 ?hyv30 (by assumption) ?restv30
    case hiv30 => (simp only [List.getElem?_toArray, List.getElem?_cons_succ, List.getElem?_cons_zero]; exact rfl)
    case hfv30 => kernel_rfl
    case hQv30 => exact fun _ _ _ h => h
    case hyv30 => exact (Or.inl ⟨by rfl, fun w hSw => by first | rfl | go_simp⟩)
    try simp only [Act.put, List.setIfInBounds_toArray, List.set_cons_zero, List.set_cons_succ]
    refine' wpAnyH_take (i := 10) (v := .int .i64 M) ?hiv31 (by kernel_rfl) ?hfv31 (by kernel_rfl) ?hQv31 ?hyv31 (by assumption) ?restv31
    case hiv31 => (simp only [List.getElem?_toArray, List.getElem?_cons_succ, List.getElem?_cons_zero]; exact rfl)
    case hfv31 => kernel_rfl
    case hQv31 => exact fun _ _ _ h => h
    case hyv31 => exact (Or.inl ⟨by rfl, fun w hSw => by first | rfl | go_simp⟩)
    try simp only [Act.put, List.setIfInBounds_toArray, List.set_cons_zero, List.set_cons_succ]
    refine' wpAnyH_take (i := 11) (v := .int .i64 J) ?hiv32 (by kernel_rfl) ?hfv32 (by kernel_rfl) ?hQv32 ?hyv32 (by assumption) ?restv32
    case hiv32 => (simp only [List.getElem?_toArray, List.getElem?_cons_succ, List.getElem?_cons_zero]; exact rfl)
    case hfv32 => kernel_rfl
    case hQv32 => exact fun _ _ _ h => h
    case hyv32 => exact (Or.inl ⟨by rfl, fun w hSw => by first | rfl | go_simp⟩)
    try simp only [Act.put, List.setIfInBounds_toArray, List.set_cons_zero, List.set_cons_succ]
    refine' wpAnyH_take (i := 12) (v := .pointer (some ⟨b, off + N * 32, none⟩)) ?hiv33 (by kernel_rfl) ?hfv33 (by kernel_rfl) ?hQv33 ?hyv33 (by assumption) ?restv33
    case hiv33 => (simp only [List.getElem?_toArray, List.getElem?_cons_succ, List.getElem?_cons_zero]; exact rfl)
    case hfv33 => kernel_rfl
    case hQv33 => exact fun _ _ _ h => h
    case hyv33 => exact (Or.inl ⟨by rfl, fun w hSw => by first | rfl | go_simp⟩)
    try simp only [Act.put, List.setIfInBounds_toArray, List.set_cons_zero, List.set_cons_succ]
    refine' wpAnyH_take (i := 13) ?hiv34 (by kernel_rfl) ?hfv34 (by kernel_rfl) ?hQv34 ?hyv34 (by assumption) ?restv34
    case hiv34 => (simp only [List.getElem?_toArray, List.getElem?_cons_succ, List.getElem?_cons_zero]; exact rfl)
    case hfv34 => kernel_rfl
    case hQv34 => exact fun _ _ _ h => h
    case hyv34 => exact (yieldsIf_load_mid (by rfl) 54 (.tmp 137) rfl (b) (off + N * 32) rfl (hcs q) _ (fun w h => h.2.2.2.1) Tryd.underlying54 rfl (info_hcs HQL.out))
    try simp only [Act.put, List.setIfInBounds_toArray, List.set_cons_zero, List.set_cons_succ]
    refine' wpAnyH_take (i := 14) ?hiv35 (by kernel_rfl) ?hfv35 (by kernel_rfl) ?hQv35 ?hyv35 (by assumption) ?restv35
    case hiv35 => (simp only [List.getElem?_toArray, List.getElem?_cons_succ, List.getElem?_cons_zero]; exact rfl)
    case hfv35 => kernel_rfl
    case hQv35 => exact fun _ _ _ h => h
    case hyv35 => exact (yieldsIf_load_mid (by rfl) 54 (.tmp 19) rfl (g2) (0) rfl (hcs x2) _ (fun w h => h.2.2.1) Tryd.underlying54 rfl (info_hcs HX2.out))
    try simp only [Act.put, List.setIfInBounds_toArray, List.set_cons_zero, List.set_cons_succ]
    clear hMw
    refine wpAnyH_ready (rs := [7]) (by kernel_rfl) (by simp) ?_
    refine' AllReadyH.cons ?hov36 ?stepv36 AllReadyH.nil
    case hov36 => (simp only [List.getElem?_toArray, List.getElem?_cons_succ, List.getElem?_cons_zero]; exact rfl)
    intro K hK
    rw [if_pos (by rfl)]
    go_simp
    refine (HNY.out _ hHeld.1).mono ?_
    rintro e wn ⟨rfl, hbN⟩
    try go_wp2_with fail
    refine hK.out _ _ ⟨bl_step hHeld.1 hbN (Nat.le_refl _), rangeAt_bel hHeld.2.1 hbN, rangeAt_bel hHeld.2.2.1 hbN, rangeAt_bel hHeld.2.2.2.1 hbN, there_bel hHeld.2.2.2.2.1 hbN, there_bel hHeld.2.2.2.2.2 hbN⟩ (fun hHeld => ?_)
    clear hK K
    try simp only [Act.put, List.setIfInBounds_toArray, List.set_cons_zero, List.set_cons_succ]
    refine wpAnyH_ready (rs := [15]) (by kernel_rfl) (by simp) ?_
    refine' AllReadyH.cons ?hov37 ?stepv37 AllReadyH.nil
    case hov37 => (simp only [List.getElem?_toArray, List.getElem?_cons_succ, List.getElem?_cons_zero]; exact rfl)
    intro K hK
    rw [if_pos (by rfl)]
    go_simp
    refine (HNZ.out _ hHeld.1).mono ?_
    rintro e wn ⟨rfl, hbN⟩
    try go_wp2_with fail
    refine hK.out _ _ ⟨bl_step hHeld.1 hbN (Nat.le_refl _), rangeAt_bel hHeld.2.1 hbN, rangeAt_bel hHeld.2.2.1 hbN, rangeAt_bel hHeld.2.2.2.1 hbN, there_bel hHeld.2.2.2.2.1 hbN, there_bel hHeld.2.2.2.2.2 hbN⟩ (fun hHeld => ?_)
    clear hK K
    try simp only [Act.put, List.setIfInBounds_toArray, List.set_cons_zero, List.set_cons_succ]
    refine wpAnyH_ready (rs := [16]) (by kernel_rfl) (by simp) ?_
    refine' AllReadyH.cons ?hov38 ?stepv38 AllReadyH.nil
    case hov38 => (simp only [List.getElem?_toArray, List.getElem?_cons_succ, List.getElem?_cons_zero]; exact rfl)
    intro K hK
    rw [if_pos (by rfl)]
    have hW1 := World.rangeAt_setCells_same _ (w.heap.size + 1) 0 (hcs Y) (tY.out _ _ hHeld.2.2.2.2.1)
    refine wp_store_mid 54 (.tmp 10) (.tmp 132) rfl (w.heap.size + 1) 0 (hcs Y).toArray rfl rfl (tY.out _ _ hHeld.2.2.2.2.1) (info_hcs HYL.out) (all_oneCell_toArray (hcs_one Y)) ?_
    refine hK.out _ _ ⟨below_set hHeld.1 (by omega) (Nat.le_refl _) 0 _, World.rangeAt_setCells_apart hHeld.2.1 _ _ _ (.inl n11), World.rangeAt_setCells_apart hHeld.2.2.1 _ _ _ (.inl n21), World.rangeAt_setCells_apart hHeld.2.2.2.1 _ _ _ (.inl nb1), World.there_setCells hHeld.2.2.2.2.1 _ _ _, World.there_setCells hHeld.2.2.2.2.2 _ _ _⟩ (fun hHeld => ?_)
    clear hK K
    refine wpAnyH_ready (rs := [17]) (by kernel_rfl) (by simp) ?_
    refine' AllReadyH.cons ?hov39 ?stepv39 AllReadyH.nil
    case hov39 => (simp only [List.getElem?_toArray, List.getElem?_cons_succ, List.getElem?_cons_zero]; exact rfl)
    intro K hK
    rw [if_pos (by rfl)]
    have hW2 := World.rangeAt_setCells_same _ (w.heap.size + 2) 0 (hcs Z) (tZ.out _ _ hHeld.2.2.2.2.2)
    have hR1 := World.rangeAt_setCells_apart hW1 (w.heap.size + 2) 0 (hcs Z) (.inl (by omega))
    refine wp_store_mid 54 (.tmp 11) (.tmp 140) rfl (w.heap.size + 2) 0 (hcs Z).toArray rfl rfl (tZ.out _ _ hHeld.2.2.2.2.2) (info_hcs HZL_.out) (all_oneCell_toArray (hcs_one Z)) ?_
    refine hK.out _ _ ⟨below_set hHeld.1 (by omega) (Nat.le_refl _) 0 _, World.rangeAt_setCells_apart hHeld.2.1 _ _ _ (.inl n12), World.rangeAt_setCells_apart hHeld.2.2.1 _ _ _ (.inl n22), World.rangeAt_setCells_apart hHeld.2.2.2.1 _ _ _ (.inl nb2), World.there_setCells hHeld.2.2.2.2.1 _ _ _, World.there_setCells hHeld.2.2.2.2.2 _ _ _⟩ (fun hHeld => ?_)
    clear hK K
    refine' wpAnyH_take (i := 18) (v := .nilIface) ?hiv40 (by kernel_rfl) ?hfv40 (by kernel_rfl) ?hQv40 ?hyv40 (by assumption) ?restv40
    case hiv40 => (simp only [List.getElem?_toArray, List.getElem?_cons_succ, List.getElem?_cons_zero]; exact rfl)
    case hfv40 => kernel_rfl
    case hQv40 => exact fun _ _ _ h => h
    case hyv40 => exact (Or.inl ⟨by rfl, fun w hSw => by first | rfl | go_simp⟩)
    try simp only [Act.put, List.setIfInBounds_toArray, List.set_cons_zero, List.set_cons_succ]
    refine wpAnyH_done (by kernel_rfl) ?_ _
    refine NoPanic.normal ?_
    go_wp2_with fail
    try simp only [Exit.inBlock, Exit.then]
    refine bodyPost_ret (results_cc_tmp rfl _ _ (w.heap.size + 1) (w.heap.size + 2) (hcs Y) (hcs Z) _ rfl rfl hR1 hW2 Tryd.underlying54 rfl (info_hcs HYL.out) (info_hcs HZL_.out)) rfl ?_
    exact ⟨by rw [← HZ.out, ← HY.out]; rfl, hHeld.1⟩

end Go.Proofs.YtokopcbmpnnkcaaDoor
