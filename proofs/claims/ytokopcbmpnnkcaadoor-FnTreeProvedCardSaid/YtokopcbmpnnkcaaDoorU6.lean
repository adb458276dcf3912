/- tlog.CheckTree over what runTreeProof gives. The walk of FnTreeSelf: it returns true at every input, whatever words the table of SHA-256 holds. Conditions: errProofFailed and errMissing hold errors. -/
import Derived.Test.YtokopcbmpnnkcaaDoorU5
import Derived.Test.YtokopcbmpnnkcaaDoorU3
namespace Go.Proofs.YtokopcbmpnnkcaaDoor
open Go.RowKit
set_option linter.unusedVariables false

set_option maxHeartbeats 4000000 in
set_option maxRecDepth 50000 in
theorem checkTree_of (r : Option (List Int × List Int)) (E0t : TypeId) (E0a : Addr) (t n : Nat) (v : Value) (th h : List Int) (w : World) (h1 : 1 ≤ n) (hn : n ≤ t) (ht : t < 2199023255552) (hth : th.length = 32) (hh : h.length = 32)
    (hE : w.cell? ⟨1, 0, none⟩ = some (.iface E0t (.pointer (some E0a)))) (hE0 : 1 < w.heap.size)
    (hR : ∀ w', Below w.heap.size w w' → Calls Tryd.prog 47 #[v, .int .i64 0, .int .i64 t, .int .i64 n, .agg (hcs h).toArray] w' fun e w'' => e = .returned (treeOut (.iface E0t (.pointer (some E0a))) r) ∧ Below w'.heap.size w' w'')
    (hr : ∀ x, r = some x → x.1.length = 32 ∧ x.2.length = 32) :
    Calls Tryd.prog 33 #[v, .int .i64 t, .agg (hcs th).toArray, .int .i64 n, .agg (hcs h).toArray] w fun e w' => (∃ u, e = .returned u ∧ ErrIf (decide (r = some (h, th))) u) ∧ Below w.heap.size w w' := by
  have hb1 : decide ((t : Int) < 1) = false := by simp; omega
  have hb2 : decide ((n : Int) < 1) = false := by simp; omega
  have hb3 : decide ((t : Int) < n) = false := by simp; omega
  obtain ⟨W2, hW2⟩ : ∃ W2, W2 = (w.alloc (Obj.cells (hcs th).toArray 54)).alloc (Obj.cells (hcs h).toArray 54) := ⟨_, rfl⟩
  have HW2 := Lib.hid hW2
  have HB2 : Hid (Below w.heap.size w W2) := Lib.hid (by rw [hW2]; exact ((Below.refl w.heap.size w).alloc (Nat.le_refl _) _).alloc (by simp) _)
  have HT2 : Hid (BAt W2 w.heap.size 54 th) := Lib.hid (by rw [hW2]; exact (Below.heap_alloc _ _ _ (by simp)).trans (heap_alloc_new w _))
  have HH2 : Hid (BAt W2 (w.heap.size + 1) 54 h) := Lib.hid (by
    have := heap_alloc_new (w.alloc (Obj.cells (hcs th).toArray 54)) (Obj.cells (hcs h).toArray 54)
    rw [show (w.alloc (Obj.cells (hcs th).toArray 54)).heap.size = w.heap.size + 1 by simp] at this
    rw [hW2]; exact this)
  have hs2 : W2.heap.size = w.heap.size + 2 := by rw [hW2]; simp
  have HS2 := Lib.hid hs2
  have HE2 : Hid (W2.cell? ⟨1, 0, none⟩ = some (.iface E0t (.pointer (some E0a)))) := Lib.hid ((HB2.out.cell (p := ⟨1, 0, none⟩) hE0).trans hE)
  have HE := Lib.hid hE
  have HR := Lib.hid hR
  have HHL := Lib.hid hh
  have HTL := Lib.hid hth
  have hz := zh_zero
  rw [show ((List.replicate 32 (0 : Int)).map (Value.int .u8)).toArray = (hcs z32).toArray from rfl] at hz
  obtain ⟨zs, hzs⟩ : ∃ zs, zs = z32 := ⟨_, rfl⟩
  have HZS := Lib.hid hzs
  rw [← hzs] at hz
  have HZL : Hid (zs.length = 32) := Lib.hid (by rw [hzs]; rfl)
  cases r with
  | none =>
    have HR := Lib.hid hR
    simp only [treeOut] at HR
    rw [show z32 = zs from HZS.out.symm] at HR
    clear hW2 hs2 hE hzs hth hh hR hr
    go_enter Tryd.func33, Tryd.ntmps33
    go_upto_region 1 with fail
    rw [← HW2.out]
    go_wp2_with (first
      | (refine wpList_load_mid rfl 54 (.tmp 9) rfl (w.heap.size + 1) 0 rfl (hcs h) _ (b_range HH2.out) Tryd.underlying54 rfl (info_hcs HHL.out) ?_))
    refine (HR.out W2 HB2.out).mono ?_
    rintro e w1 ⟨rfl, hb1'⟩
    have HB1 := Lib.hid hb1'
    clear hb1'
    have HB12 : Hid (Below w.heap.size w w1) := Lib.hid (HB2.out.trans (HB1.out.mono HB2.out.size))
    have HS1 : Hid (w.heap.size + 2 ≤ w1.heap.size) := Lib.hid (by have := HB1.out.size; rw [HS2.out] at this; exact this)
    have HG1 : Hid (BAt ((w1.alloc (Obj.cells (hcs zs).toArray 54)).alloc (Obj.cells (hcs zs).toArray 54)) w1.heap.size 54 zs) := Lib.hid ((Below.heap_alloc _ _ _ (by simp)).trans (heap_alloc_new w1 _))
    have HG2 : Hid (BAt ((w1.alloc (Obj.cells (hcs zs).toArray 54)).alloc (Obj.cells (hcs zs).toArray 54)) (w1.heap.size + 1) 54 zs) := Lib.hid (by
      have := heap_alloc_new (w1.alloc (Obj.cells (hcs zs).toArray 54)) (Obj.cells (hcs zs).toArray 54)
      rw [show (w1.alloc (Obj.cells (hcs zs).toArray 54)).heap.size = w1.heap.size + 1 by simp] at this
      exact this)
    have HBA : Hid (Below w.heap.size w ((w1.alloc (Obj.cells (hcs zs).toArray 54)).alloc (Obj.cells (hcs zs).toArray 54))) := Lib.hid ((HB12.out.alloc HB12.out.size _).alloc (by simp; have := HB12.out.size; omega) _)
    go_wp2_with (first
      | (refine wpList_storeH rfl (.tmp 11) (.tmp 32) rfl w1.heap.size zs rfl rfl 54 zs HG1.out HZL.out HZL.out ?_; intro w3 HR3 HX3; have HG3 : Hid (BAt w3 (w1.heap.size + 1) 54 zs) := Lib.hid (HG2.out.but HX3.out (by omega)))
      | (refine wpList_storeH rfl (.tmp 12) (.tmp 33) rfl (w1.heap.size + 1) zs rfl rfl 54 zs HG3.out HZL.out HZL.out ?_; intro w4 HR4 HX4))
    go_ret
    refine ⟨⟨_, rfl, by rw [decide_eq_false (by simp)]; exact ⟨_, _, rfl⟩⟩, ?_⟩
    exact below_but (below_but HBA.out HX3.out (by have := HB12.out.size; omega)) HX4.out (by have := HB12.out.size; omega)
  | some x =>
    obtain ⟨a, b⟩ := x
    have HAL : Hid (a.length = 32) := Lib.hid (hr _ rfl).1
    have HBL : Hid (b.length = 32) := Lib.hid (hr _ rfl).2
    have HR := Lib.hid hR
    simp only [treeOut] at HR
    have HBB : Hid (decide (some (a, b) = some (h, th)) = (decide (a = h) && decide (b = th))) := Lib.hid (by simp)
    have HQ1 := Lib.hid (fun w => run_eql_hash b th HBL.out hth w)
    have HQ2 := Lib.hid (fun w => run_eql_hash a h HAL.out hh w)
    have HRB := HBB
    clear hW2 hs2 hE hzs hth hh hR hr
    by_cases hbt : b = th
    · have heq1 := fun w => HQ1.out w
      rw [decide_eq_true hbt] at heq1
      have HBT := Lib.hid hbt
      clear hbt
      by_cases hah : a = h
      · have heq2 := fun w => HQ2.out w
        rw [decide_eq_true hah] at heq2
        have HAH := Lib.hid hah
        clear hah
        go_enter Tryd.func33, Tryd.ntmps33
        go_upto_region 1 with fail
        rw [← HW2.out]
        go_wp2_with (first
          | (refine wpList_load_mid rfl 54 (.tmp 9) rfl (w.heap.size + 1) 0 rfl (hcs h) _ (b_range HH2.out) Tryd.underlying54 rfl (info_hcs HHL.out) ?_))
        refine (HR.out W2 HB2.out).mono ?_
        rintro e w1 ⟨rfl, hb1'⟩
        have HB1 := Lib.hid hb1'
        clear hb1'
        have HB12 : Hid (Below w.heap.size w w1) := Lib.hid (HB2.out.trans (HB1.out.mono HB2.out.size))
        have HS1 : Hid (w.heap.size + 2 ≤ w1.heap.size) := Lib.hid (by have := HB1.out.size; rw [HS2.out] at this; exact this)
        have HG1 : Hid (BAt ((w1.alloc (Obj.cells (hcs zs).toArray 54)).alloc (Obj.cells (hcs zs).toArray 54)) w1.heap.size 54 zs) := Lib.hid ((Below.heap_alloc _ _ _ (by simp)).trans (heap_alloc_new w1 _))
        have HG2 : Hid (BAt ((w1.alloc (Obj.cells (hcs zs).toArray 54)).alloc (Obj.cells (hcs zs).toArray 54)) (w1.heap.size + 1) 54 zs) := Lib.hid (by
          have := heap_alloc_new (w1.alloc (Obj.cells (hcs zs).toArray 54)) (Obj.cells (hcs zs).toArray 54)
          rw [show (w1.alloc (Obj.cells (hcs zs).toArray 54)).heap.size = w1.heap.size + 1 by simp] at this
          exact this)
        have HBA : Hid (Below w.heap.size w ((w1.alloc (Obj.cells (hcs zs).toArray 54)).alloc (Obj.cells (hcs zs).toArray 54))) := Lib.hid ((HB12.out.alloc HB12.out.size _).alloc (by simp; have := HB12.out.size; omega) _)
        go_upto_region 6 with (first
          | (refine wpList_storeH rfl (.tmp 11) (.tmp 32) rfl w1.heap.size a rfl rfl 54 zs HG1.out HZL.out HAL.out ?_; intro w3 HR3 HX3; have HG3 : Hid (BAt w3 (w1.heap.size + 1) 54 zs) := Lib.hid (HG2.out.but HX3.out (by omega)))
          | (refine wpList_storeH rfl (.tmp 12) (.tmp 33) rfl (w1.heap.size + 1) b rfl rfl 54 zs HG3.out HZL.out HBL.out ?_; intro w4 HR4 HX4))
        have HR34 : Hid (BAt w4 w1.heap.size 54 a) := Lib.hid (HR3.out.but HX4.out (by omega))
        have HB4 : Hid (Below w.heap.size w w4) := Lib.hid (below_but (below_but HBA.out HX3.out (by have := HB12.out.size; omega)) HX4.out (by have := HB12.out.size; omega))
        have HBW : Hid (Below w1.heap.size w1 w4) := Lib.hid (below_but (below_but (((Below.refl _ w1).alloc (Nat.le_refl _) _).alloc (by simp) _) HX3.out (Nat.le_refl _)) HX4.out (by omega))
        have HT4 : Hid (BAt w4 w.heap.size 54 th) := Lib.hid ((HT2.out.below HB1.out (by rw [HS2.out]; omega)).below HBW.out (by have := HS1.out; omega))
        have HH4 : Hid (BAt w4 (w.heap.size + 1) 54 h) := Lib.hid ((HH2.out.below HB1.out (by rw [HS2.out]; omega)).below HBW.out (by have := HS1.out; omega))
        have hE4 : w4.cell? ⟨1, 0, none⟩ = some (.iface E0t (.pointer (some E0a))) := (HB4.out.cell (p := ⟨1, 0, none⟩) hE0).trans HE.out
        go_wp2_with (first
          | (refine wpList_load_mid rfl 54 (.tmp 12) rfl (w1.heap.size + 1) 0 rfl (hcs b) _ (b_range HR4.out) Tryd.underlying54 rfl (info_hcs HBL.out) ?_)
          | (refine wpList_load_mid rfl 54 (.tmp 7) rfl w.heap.size 0 rfl (hcs th) _ (b_range HT4.out) Tryd.underlying54 rfl (info_hcs HTL.out) ?_)
          | ((refine wpList_unguard (by rfl) ?_); refine wpList_load_mid rfl 54 (.tmp 11) rfl w1.heap.size 0 rfl (hcs a) _ (b_range HR34.out) Tryd.underlying54 rfl (info_hcs HAL.out) ?_)
          | ((refine wpList_unguard (by rfl) ?_); refine wpList_load_mid rfl 54 (.tmp 9) rfl (w.heap.size + 1) 0 rfl (hcs h) _ (b_range HH4.out) Tryd.underlying54 rfl (info_hcs HHL.out) ?_))
        go_ret
        exact ⟨⟨_, rfl, by rw [HBB.out, decide_eq_true HAH.out, decide_eq_true HBT.out]; rfl⟩, HB4.out⟩
      · have heq2 := fun w => HQ2.out w
        rw [decide_eq_false hah] at heq2
        have HAH := Lib.hid hah
        clear hah
        go_enter Tryd.func33, Tryd.ntmps33
        go_upto_region 1 with fail
        rw [← HW2.out]
        go_wp2_with (first
          | (refine wpList_load_mid rfl 54 (.tmp 9) rfl (w.heap.size + 1) 0 rfl (hcs h) _ (b_range HH2.out) Tryd.underlying54 rfl (info_hcs HHL.out) ?_))
        refine (HR.out W2 HB2.out).mono ?_
        rintro e w1 ⟨rfl, hb1'⟩
        have HB1 := Lib.hid hb1'
        clear hb1'
        have HB12 : Hid (Below w.heap.size w w1) := Lib.hid (HB2.out.trans (HB1.out.mono HB2.out.size))
        have HS1 : Hid (w.heap.size + 2 ≤ w1.heap.size) := Lib.hid (by have := HB1.out.size; rw [HS2.out] at this; exact this)
        have HG1 : Hid (BAt ((w1.alloc (Obj.cells (hcs zs).toArray 54)).alloc (Obj.cells (hcs zs).toArray 54)) w1.heap.size 54 zs) := Lib.hid ((Below.heap_alloc _ _ _ (by simp)).trans (heap_alloc_new w1 _))
        have HG2 : Hid (BAt ((w1.alloc (Obj.cells (hcs zs).toArray 54)).alloc (Obj.cells (hcs zs).toArray 54)) (w1.heap.size + 1) 54 zs) := Lib.hid (by
          have := heap_alloc_new (w1.alloc (Obj.cells (hcs zs).toArray 54)) (Obj.cells (hcs zs).toArray 54)
          rw [show (w1.alloc (Obj.cells (hcs zs).toArray 54)).heap.size = w1.heap.size + 1 by simp] at this
          exact this)
        have HBA : Hid (Below w.heap.size w ((w1.alloc (Obj.cells (hcs zs).toArray 54)).alloc (Obj.cells (hcs zs).toArray 54))) := Lib.hid ((HB12.out.alloc HB12.out.size _).alloc (by simp; have := HB12.out.size; omega) _)
        go_upto_region 6 with (first
          | (refine wpList_storeH rfl (.tmp 11) (.tmp 32) rfl w1.heap.size a rfl rfl 54 zs HG1.out HZL.out HAL.out ?_; intro w3 HR3 HX3; have HG3 : Hid (BAt w3 (w1.heap.size + 1) 54 zs) := Lib.hid (HG2.out.but HX3.out (by omega)))
          | (refine wpList_storeH rfl (.tmp 12) (.tmp 33) rfl (w1.heap.size + 1) b rfl rfl 54 zs HG3.out HZL.out HBL.out ?_; intro w4 HR4 HX4))
        have HR34 : Hid (BAt w4 w1.heap.size 54 a) := Lib.hid (HR3.out.but HX4.out (by omega))
        have HB4 : Hid (Below w.heap.size w w4) := Lib.hid (below_but (below_but HBA.out HX3.out (by have := HB12.out.size; omega)) HX4.out (by have := HB12.out.size; omega))
        have HBW : Hid (Below w1.heap.size w1 w4) := Lib.hid (below_but (below_but (((Below.refl _ w1).alloc (Nat.le_refl _) _).alloc (by simp) _) HX3.out (Nat.le_refl _)) HX4.out (by omega))
        have HT4 : Hid (BAt w4 w.heap.size 54 th) := Lib.hid ((HT2.out.below HB1.out (by rw [HS2.out]; omega)).below HBW.out (by have := HS1.out; omega))
        have HH4 : Hid (BAt w4 (w.heap.size + 1) 54 h) := Lib.hid ((HH2.out.below HB1.out (by rw [HS2.out]; omega)).below HBW.out (by have := HS1.out; omega))
        have hE4 : w4.cell? ⟨1, 0, none⟩ = some (.iface E0t (.pointer (some E0a))) := (HB4.out.cell (p := ⟨1, 0, none⟩) hE0).trans HE.out
        go_wp2_with (first
          | (refine wpList_load_mid rfl 54 (.tmp 12) rfl (w1.heap.size + 1) 0 rfl (hcs b) _ (b_range HR4.out) Tryd.underlying54 rfl (info_hcs HBL.out) ?_)
          | (refine wpList_load_mid rfl 54 (.tmp 7) rfl w.heap.size 0 rfl (hcs th) _ (b_range HT4.out) Tryd.underlying54 rfl (info_hcs HTL.out) ?_)
          | ((refine wpList_unguard (by rfl) ?_); refine wpList_load_mid rfl 54 (.tmp 11) rfl w1.heap.size 0 rfl (hcs a) _ (b_range HR34.out) Tryd.underlying54 rfl (info_hcs HAL.out) ?_)
          | ((refine wpList_unguard (by rfl) ?_); refine wpList_load_mid rfl 54 (.tmp 9) rfl (w.heap.size + 1) 0 rfl (hcs h) _ (b_range HH4.out) Tryd.underlying54 rfl (info_hcs HHL.out) ?_))
        go_ret
        exact ⟨⟨_, rfl, by rw [HBB.out, decide_eq_false HAH.out, Bool.false_and]; exact ⟨_, _, rfl⟩⟩, HB4.out⟩
    · have heq1 := fun w => HQ1.out w
      rw [decide_eq_false hbt] at heq1
      have HBT := Lib.hid hbt
      clear hbt
      go_enter Tryd.func33, Tryd.ntmps33
      go_upto_region 1 with fail
      rw [← HW2.out]
      go_wp2_with (first
        | (refine wpList_load_mid rfl 54 (.tmp 9) rfl (w.heap.size + 1) 0 rfl (hcs h) _ (b_range HH2.out) Tryd.underlying54 rfl (info_hcs HHL.out) ?_))
      refine (HR.out W2 HB2.out).mono ?_
      rintro e w1 ⟨rfl, hb1'⟩
      have HB1 := Lib.hid hb1'
      clear hb1'
      have HB12 : Hid (Below w.heap.size w w1) := Lib.hid (HB2.out.trans (HB1.out.mono HB2.out.size))
      have HS1 : Hid (w.heap.size + 2 ≤ w1.heap.size) := Lib.hid (by have := HB1.out.size; rw [HS2.out] at this; exact this)
      have HG1 : Hid (BAt ((w1.alloc (Obj.cells (hcs zs).toArray 54)).alloc (Obj.cells (hcs zs).toArray 54)) w1.heap.size 54 zs) := Lib.hid ((Below.heap_alloc _ _ _ (by simp)).trans (heap_alloc_new w1 _))
      have HG2 : Hid (BAt ((w1.alloc (Obj.cells (hcs zs).toArray 54)).alloc (Obj.cells (hcs zs).toArray 54)) (w1.heap.size + 1) 54 zs) := Lib.hid (by
        have := heap_alloc_new (w1.alloc (Obj.cells (hcs zs).toArray 54)) (Obj.cells (hcs zs).toArray 54)
        rw [show (w1.alloc (Obj.cells (hcs zs).toArray 54)).heap.size = w1.heap.size + 1 by simp] at this
        exact this)
      have HBA : Hid (Below w.heap.size w ((w1.alloc (Obj.cells (hcs zs).toArray 54)).alloc (Obj.cells (hcs zs).toArray 54))) := Lib.hid ((HB12.out.alloc HB12.out.size _).alloc (by simp; have := HB12.out.size; omega) _)
      go_upto_region 6 with (first
        | (refine wpList_storeH rfl (.tmp 11) (.tmp 32) rfl w1.heap.size a rfl rfl 54 zs HG1.out HZL.out HAL.out ?_; intro w3 HR3 HX3; have HG3 : Hid (BAt w3 (w1.heap.size + 1) 54 zs) := Lib.hid (HG2.out.but HX3.out (by omega)))
        | (refine wpList_storeH rfl (.tmp 12) (.tmp 33) rfl (w1.heap.size + 1) b rfl rfl 54 zs HG3.out HZL.out HBL.out ?_; intro w4 HR4 HX4))
      have HR34 : Hid (BAt w4 w1.heap.size 54 a) := Lib.hid (HR3.out.but HX4.out (by omega))
      have HB4 : Hid (Below w.heap.size w w4) := Lib.hid (below_but (below_but HBA.out HX3.out (by have := HB12.out.size; omega)) HX4.out (by have := HB12.out.size; omega))
      have HBW : Hid (Below w1.heap.size w1 w4) := Lib.hid (below_but (below_but (((Below.refl _ w1).alloc (Nat.le_refl _) _).alloc (by simp) _) HX3.out (Nat.le_refl _)) HX4.out (by omega))
      have HT4 : Hid (BAt w4 w.heap.size 54 th) := Lib.hid ((HT2.out.below HB1.out (by rw [HS2.out]; omega)).below HBW.out (by have := HS1.out; omega))
      have HH4 : Hid (BAt w4 (w.heap.size + 1) 54 h) := Lib.hid ((HH2.out.below HB1.out (by rw [HS2.out]; omega)).below HBW.out (by have := HS1.out; omega))
      have hE4 : w4.cell? ⟨1, 0, none⟩ = some (.iface E0t (.pointer (some E0a))) := (HB4.out.cell (p := ⟨1, 0, none⟩) hE0).trans HE.out
      go_wp2_with (first
        | (refine wpList_load_mid rfl 54 (.tmp 12) rfl (w1.heap.size + 1) 0 rfl (hcs b) _ (b_range HR4.out) Tryd.underlying54 rfl (info_hcs HBL.out) ?_)
        | (refine wpList_load_mid rfl 54 (.tmp 7) rfl w.heap.size 0 rfl (hcs th) _ (b_range HT4.out) Tryd.underlying54 rfl (info_hcs HTL.out) ?_)
        | ((refine wpList_unguard (by rfl) ?_); refine wpList_load_mid rfl 54 (.tmp 11) rfl w1.heap.size 0 rfl (hcs a) _ (b_range HR34.out) Tryd.underlying54 rfl (info_hcs HAL.out) ?_)
        | ((refine wpList_unguard (by rfl) ?_); refine wpList_load_mid rfl 54 (.tmp 9) rfl (w.heap.size + 1) 0 rfl (hcs h) _ (b_range HH4.out) Tryd.underlying54 rfl (info_hcs HHL.out) ?_))
      go_ret
      exact ⟨⟨_, rfl, by rw [HBB.out, decide_eq_false HBT.out, Bool.and_false]; exact ⟨_, _, rfl⟩⟩, HB4.out⟩

end Go.Proofs.YtokopcbmpnnkcaaDoor
