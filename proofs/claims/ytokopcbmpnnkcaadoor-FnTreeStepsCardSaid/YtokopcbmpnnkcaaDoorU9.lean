/- tlog.runTreeProof: the ways that end well. Conditions: the numbers of records are below 2 to the power of 41; the hashes lie in memory. -/
import Derived.Test.YtokopcbmpnnkcaaDoorU8
namespace Go.Proofs.YtokopcbmpnnkcaaDoor
open Go.RowKit
set_option linter.unusedVariables false
set_option linter.unusedSimpArgs false

set_option maxHeartbeats 2000000 in
set_option maxRecDepth 50000 in
/-- a part that is whole, and one hash is left -/
theorem runTree_ten (lo n : Nat) (v : Value) (q old : List Int) (w : World) (h0 : lo ≠ 0) (h1 : lo < n) (hb : n < 2199023255552) (hv : HIn w v [q]) (hl : old.length = 32) :
    Calls Tryd.prog 47 #[v, .int .i64 lo, .int .i64 n, .int .i64 n, .agg (hcs old).toArray] w fun e w' => e = .returned (treeOut .nilIface (some (q, q))) ∧ Below w.heap.size w w' := by
  have hz := zh_zero
  rw [show ((List.replicate 32 (0 : Int)).map (Value.int .u8)).toArray = (hcs z32).toArray from rfl] at hz
  obtain ⟨zs, hzs⟩ : ∃ zs, zs = z32 := ⟨_, rfl⟩
  have HZS := Lib.hid hzs
  rw [← hzs] at hz
  have HZL : Hid (zs.length = 32) := Lib.hid (by rw [hzs]; rfl)
  have HLL := Lib.hid hl
  obtain ⟨W3, hW3⟩ : ∃ W3, W3 = ((w.alloc (Obj.cells (hcs old).toArray 54)).alloc (Obj.cells (hcs zs).toArray 54)).alloc (Obj.cells (hcs zs).toArray 54) := ⟨_, rfl⟩
  have HW3 := Lib.hid hW3
  have HB3 : Hid (Below w.heap.size w W3) := Lib.hid (by rw [hW3]; exact (((Below.refl w.heap.size w).alloc (Nat.le_refl _) _).alloc (by simp) _).alloc (by simp; omega) _)
  have HO3 : Hid (BAt W3 w.heap.size 54 old) := Lib.hid (by rw [hW3]; exact (Below.heap_alloc _ _ _ (by simp; omega)).trans ((Below.heap_alloc _ _ _ (by simp)).trans (heap_alloc_new w _)))
  have HP3 : Hid (BAt W3 (w.heap.size + 1) 54 zs) := Lib.hid (by
    have := heap_alloc_new (w.alloc (Obj.cells (hcs old).toArray 54)) (Obj.cells (hcs zs).toArray 54)
    rw [show (w.alloc (Obj.cells (hcs old).toArray 54)).heap.size = w.heap.size + 1 by simp] at this
    rw [hW3]; exact (Below.heap_alloc _ _ _ (by simp)).trans this)
  have HQ3 : Hid (BAt W3 (w.heap.size + 2) 54 zs) := Lib.hid (by
    have := heap_alloc_new ((w.alloc (Obj.cells (hcs old).toArray 54)).alloc (Obj.cells (hcs zs).toArray 54)) (Obj.cells (hcs zs).toArray 54)
    rw [show ((w.alloc (Obj.cells (hcs old).toArray 54)).alloc (Obj.cells (hcs zs).toArray 54)).heap.size = w.heap.size + 2 by simp] at this
    rw [hW3]; exact this)
  have HS3 : Hid (W3.heap.size = w.heap.size + 3) := Lib.hid (by rw [hW3]; simp)
  obtain ⟨b, off, c, rfl, hc1, hc2, hblt, hqr, hql, _⟩ := HIn.last (hs := []) hv
  simp only [List.length_nil, Nat.zero_mul, Nat.add_zero, Nat.zero_add] at hqr hc1 ⊢
  have hl0 : ((lo : Int) == 0) = false := by rw [beq_eq_false_iff_ne]; omega
  have hb1 : decide ((lo : Int) < (n : Int)) = true := by simp; omega
  have HQL := Lib.hid hql
  have HQR : Hid (W3.rangeAt b off (hcs q)) := Lib.hid (rangeAt_below hqr HB3.out hblt)
  have HBL := Lib.hid hblt
  clear hW3 hzs hl hql hqr hblt
  go_enter Tryd.func47, Tryd.ntmps47
  go_upto_region 1 with fail
  rw [← HW3.out]
  go_upto_region 10 with fail
  have hS0 : W3.drew.rangeAt b off (hcs q) ∧ W3.drew.there (w.heap.size + 1) 0 (hcs q).toArray.size ∧ W3.drew.there (w.heap.size + 2) 0 (hcs q).toArray.size := by
    have e : (hcs q).toArray.size = 32 := by rw [List.size_toArray, hcs_len, HQL.out]
    rw [e]
    exact ⟨by simpa using HQR.out, by simpa using b_there HP3.out 32 (by rw [HZL.out]; exact Nat.le_refl _), by simpa using b_there HQ3.out 32 (by rw [HZL.out]; exact Nat.le_refl _)⟩
  have hn1 : b ≠ w.heap.size + 1 := by have := HBL.out; omega
  have hn2 : b ≠ w.heap.size + 2 := by have := HBL.out; omega
  refine wp_region_noPanic ?_
  refine wp_region_held_drew (S := fun w' => w'.rangeAt b off (hcs q) ∧ w'.there (w.heap.size + 1) 0 (hcs q).toArray.size ∧ w'.there (w.heap.size + 2) 0 (hcs q).toArray.size) (by kernel_rfl) hS0 (fun hHeld => ?_)
  refine' wpAnyH_take (i := 0) (v := .slice (some ⟨b, off, none⟩) 1 c) ?hiv1 (by kernel_rfl) ?hfv1 (by kernel_rfl) ?hQv1 ?hyv1 (by assumption) ?restv1
  case hiv1 => (simp only [List.getElem?_toArray, List.getElem?_cons_succ, List.getElem?_cons_zero]; exact rfl)
  case hfv1 => kernel_rfl
  case hQv1 => exact fun _ _ _ h => h
  case hyv1 => exact (Or.inl ⟨by rfl, fun w hSw => by first | rfl | go_simp⟩)
  try simp only [Act.put, List.setIfInBounds_toArray, List.set_cons_zero, List.set_cons_succ]
  refine' wpAnyH_take (i := 1) (v := .pointer (some ⟨b, off, none⟩)) ?hiv2 (by kernel_rfl) ?hfv2 (by kernel_rfl) ?hQv2 ?hyv2 (by assumption) ?restv2
  case hiv2 => (simp only [List.getElem?_toArray, List.getElem?_cons_succ, List.getElem?_cons_zero]; exact rfl)
  case hfv2 => kernel_rfl
  case hQv2 => exact fun _ _ _ h => h
  case hyv2 => exact (Or.inl ⟨by rfl, fun w hSw => by first | rfl | go_simp⟩)
  try simp only [Act.put, List.setIfInBounds_toArray, List.set_cons_zero, List.set_cons_succ]
  refine' wpAnyH_take (i := 2) ?hiv3 (by kernel_rfl) ?hfv3 (by kernel_rfl) ?hQv3 ?hyv3 (by assumption) ?restv3
  case hiv3 => (simp only [List.getElem?_toArray, List.getElem?_cons_succ, List.getElem?_cons_zero]; exact rfl)
  case hfv3 => kernel_rfl
  case hQv3 => exact fun _ _ _ h => h
  case hyv3 => exact (yieldsIf_load_mid (by rfl) 54 (.tmp 51) rfl (b) (off) rfl (hcs q) _ (fun w h => h.1) Tryd.underlying54 rfl (info_hcs HQL.out))
  try simp only [Act.put, List.setIfInBounds_toArray, List.set_cons_zero, List.set_cons_succ]
  refine' wpAnyH_take (i := 3) (v := .slice (some ⟨b, off, none⟩) 1 c) ?hiv4 (by kernel_rfl) ?hfv4 (by kernel_rfl) ?hQv4 ?hyv4 (by assumption) ?restv4
  case hiv4 => (simp only [List.getElem?_toArray, List.getElem?_cons_succ, List.getElem?_cons_zero]; exact rfl)
  case hfv4 => kernel_rfl
  case hQv4 => exact fun _ _ _ h => h
  case hyv4 => exact (Or.inl ⟨by rfl, fun w hSw => by first | rfl | go_simp⟩)
  try simp only [Act.put, List.setIfInBounds_toArray, List.set_cons_zero, List.set_cons_succ]
  refine' wpAnyH_take (i := 4) (v := .pointer (some ⟨b, off, none⟩)) ?hiv5 (by kernel_rfl) ?hfv5 (by kernel_rfl) ?hQv5 ?hyv5 (by assumption) ?restv5
  case hiv5 => (simp only [List.getElem?_toArray, List.getElem?_cons_succ, List.getElem?_cons_zero]; exact rfl)
  case hfv5 => kernel_rfl
  case hQv5 => exact fun _ _ _ h => h
  case hyv5 => exact (Or.inl ⟨by rfl, fun w hSw => by first | rfl | go_simp⟩)
  try simp only [Act.put, List.setIfInBounds_toArray, List.set_cons_zero, List.set_cons_succ]
  refine' wpAnyH_take (i := 5) ?hiv6 (by kernel_rfl) ?hfv6 (by kernel_rfl) ?hQv6 ?hyv6 (by assumption) ?restv6
  case hiv6 => (simp only [List.getElem?_toArray, List.getElem?_cons_succ, List.getElem?_cons_zero]; exact rfl)
  case hfv6 => kernel_rfl
  case hQv6 => exact fun _ _ _ h => h
  case hyv6 => exact (yieldsIf_load_mid (by rfl) 54 (.tmp 54) rfl (b) (off) rfl (hcs q) _ (fun w h => h.1) Tryd.underlying54 rfl (info_hcs HQL.out))
  try simp only [Act.put, List.setIfInBounds_toArray, List.set_cons_zero, List.set_cons_succ]
  refine wpAnyH_ready (rs := [6]) (by kernel_rfl) (by simp) ?_
  refine' AllReadyH.cons ?hov7 ?stepv7 AllReadyH.nil
  case hov7 => (simp only [List.getElem?_toArray, List.getElem?_cons_succ, List.getElem?_cons_zero]; exact rfl)
  intro K hK
  rw [if_pos (by rfl)]
  refine wp_store_mid 54 (.tmp 10) (.tmp 52) rfl (w.heap.size + 1) 0 (hcs q).toArray rfl rfl (hHeld.2.1) (info_hcs HQL.out) (all_oneCell_toArray (hcs_one q)) ?_
  refine hK.out _ _ (⟨World.rangeAt_setCells_apart hHeld.1 _ _ _ (.inl hn1), World.there_setCells hHeld.2.1 _ _ _, World.there_setCells hHeld.2.2 _ _ _⟩) (fun hHeld => ?_)
  clear hK K
  refine wpAnyH_ready (rs := [7]) (by kernel_rfl) (by simp) ?_
  refine' AllReadyH.cons ?hov8 ?stepv8 AllReadyH.nil
  case hov8 => (simp only [List.getElem?_toArray, List.getElem?_cons_succ, List.getElem?_cons_zero]; exact rfl)
  intro K hK
  rw [if_pos (by rfl)]
  refine wp_store_mid 54 (.tmp 11) (.tmp 55) rfl (w.heap.size + 2) 0 (hcs q).toArray rfl rfl (hHeld.2.2) (info_hcs HQL.out) (all_oneCell_toArray (hcs_one q)) ?_
  refine hK.out _ _ (⟨World.rangeAt_setCells_apart hHeld.1 _ _ _ (.inl hn2), World.there_setCells hHeld.2.1 _ _ _, World.there_setCells hHeld.2.2 _ _ _⟩) (fun hHeld => ?_)
  clear hK K
  refine' wpAnyH_take (i := 8) (v := .nilIface) ?hiv9 (by kernel_rfl) ?hfv9 (by kernel_rfl) ?hQv9 ?hyv9 (by assumption) ?restv9
  case hiv9 => (simp only [List.getElem?_toArray, List.getElem?_cons_succ, List.getElem?_cons_zero]; exact rfl)
  case hfv9 => kernel_rfl
  case hQv9 => exact fun _ _ _ h => h
  case hyv9 => exact (Or.inl ⟨by rfl, fun w hSw => by first | rfl | go_simp⟩)
  try simp only [Act.put, List.setIfInBounds_toArray, List.set_cons_zero, List.set_cons_succ]
  refine wpAnyH_done (by kernel_rfl) ?_ _
  refine NoPanic.normal ?_
  have hR1 := World.rangeAt_setCells_same W3.drew (w.heap.size + 1) 0 (hcs q) (by have := hS0.2.1; simpa using this)
  have hR2 := World.rangeAt_setCells_apart hR1 (w.heap.size + 2) 0 (hcs q) (.inl (by omega))
  have hR3 := World.rangeAt_setCells_same (W3.drew.setCells (w.heap.size + 1) 0 (hcs q)) (w.heap.size + 2) 0 (hcs q) (World.there_setCells (by have := hS0.2.2; simpa using this) _ _ _)
  go_wp2_with fail
  try simp only [Exit.inBlock, Exit.then]
  refine bodyPost_ret (results_cc_tmp rfl _ _ (w.heap.size + 1) (w.heap.size + 2) (hcs q) (hcs q) _ rfl rfl hR2 hR3 Tryd.underlying54 rfl (info_hcs HQL.out) (info_hcs HQL.out)) rfl ?_
  exact ⟨rfl, below_set (below_set HB3.out.drew (by omega) (Nat.le_refl _) 0 _) (by omega) (Nat.le_refl _) 0 _⟩

end Go.Proofs.YtokopcbmpnnkcaaDoor
