/- tlog.runTreeProof: the ways out with an error. Conditions: the numbers of records are below 2 to the power of 41; the hashes lie in memory; the variable errProofFailed holds an error. -/
import Derived.Test.YtokopcbmpnnkcaaDoorU5
namespace Go.Proofs.YtokopcbmpnnkcaaDoor
open Go.RowKit
set_option linter.unusedVariables false

set_option maxHeartbeats 2000000 in
set_option maxRecDepth 50000 in
/-- the whole tree, and hashes are left -/
theorem runTree_fail6 (t : Nat) (v : Value) (ps : List (List Int)) (old : List Int) (w : World) (ht : 1 ≤ t) (hb : t < 2199023255552) (hv : HIn w v ps) (hp : ps ≠ []) (hl : old.length = 32) (E : Value) (hE : w.cell? ⟨1, 0, none⟩ = some E) (hE0 : 1 < w.heap.size) :
    Calls Tryd.prog 47 #[v, .int .i64 0, .int .i64 t, .int .i64 t, .agg (hcs old).toArray] w fun e w' => e = .returned (treeOut E none) ∧ Below w.heap.size w w' := by
  have hz := zh_zero
  rw [show ((List.replicate 32 (0 : Int)).map (Value.int .u8)).toArray = (hcs z32).toArray from rfl] at hz
  obtain ⟨zs, hzs⟩ : ∃ zs, zs = z32 := ⟨_, rfl⟩
  have HZS := Lib.hid hzs
  rw [← hzs] at hz
  have HZL : Hid (zs.length = 32) := Lib.hid (by rw [hzs]; rfl)
  have HLL := Lib.hid hl
  obtain ⟨W3, hW3⟩ : ∃ W3, W3 = ((w.alloc (Obj.cells (hcs old).toArray 54)).alloc (Obj.cells (hcs zs).toArray 54)).alloc (Obj.cells (hcs zs).toArray 54) := ⟨_, rfl⟩
  have HW3 := Lib.hid hW3
  have HB3 : Hid (Below w.heap.size w W3) := Lib.hid (by rw [hW3]; exact (((Below.refl w.heap.size w).alloc (Nat.le_refl _) _).alloc (by simp) _).alloc (by simp; omega) _)
  have HO3 : Hid (BAt W3 w.heap.size 54 old) := Lib.hid (by rw [hW3]; exact (Below.heap_alloc _ _ _ (by simp; omega)).trans ((Below.heap_alloc _ _ _ (by simp)).trans (heap_alloc_new w _)))
  have HP3 : Hid (BAt W3 (w.heap.size + 1) 54 zs) := Lib.hid (by
    have := heap_alloc_new (w.alloc (Obj.cells (hcs old).toArray 54)) (Obj.cells (hcs zs).toArray 54)
    rw [show (w.alloc (Obj.cells (hcs old).toArray 54)).heap.size = w.heap.size + 1 by simp] at this
    rw [hW3]; exact (Below.heap_alloc _ _ _ (by simp)).trans this)
  have HQ3 : Hid (BAt W3 (w.heap.size + 2) 54 zs) := Lib.hid (by
    have := heap_alloc_new ((w.alloc (Obj.cells (hcs old).toArray 54)).alloc (Obj.cells (hcs zs).toArray 54)) (Obj.cells (hcs zs).toArray 54)
    rw [show ((w.alloc (Obj.cells (hcs old).toArray 54)).alloc (Obj.cells (hcs zs).toArray 54)).heap.size = w.heap.size + 2 by simp] at this
    rw [hW3]; exact this)
  have HS3 : Hid (W3.heap.size = w.heap.size + 3) := Lib.hid (by rw [hW3]; simp)
  obtain ⟨_, A, c, rfl, hc1, hc2, hc3⟩ := hv
  have hpl : ((ps.length : Int) != 0) = true := by
    have := List.length_pos_iff.2 hp
    simp; omega
  have hb1 : decide ((0 : Int) < (t : Int)) = true := by simp; omega
  clear hW3 hzs hl hp hc3
  go_enter Tryd.func47, Tryd.ntmps47
  go_upto_region 1 with fail
  rw [← HW3.out]
  go_upto_region 6 with fail
  have hcE : W3.cell? ⟨1, 0, none⟩ = some E := (HB3.out.cell (p := ⟨1, 0, none⟩) hE0).trans hE
  have hth1 : W3.there (w.heap.size + 1) 0 (hcs zs).length := b_there HP3.out _ (by rw [hcs_len]; exact Nat.le_refl _)
  have hth2 : W3.there (w.heap.size + 2) 0 (hcs zs).length := b_there HQ3.out _ (by rw [hcs_len]; exact Nat.le_refl _)
  have hu := Tryd.underlying54
  have hinf := info_hcs HZL.out
  have hone := hcs_one zs
  go_region_held3 (fun w' => w'.cell? ⟨1, 0, none⟩ = some E ∧ w'.there (w.heap.size + 1) 0 (hcs zs).length ∧ w'.there (w.heap.size + 2) 0 (hcs zs).length) ((first | (exact ⟨by simpa using hcE, by simpa using hth1, by simpa using hth2⟩) | (go_split_ands; exact ⟨cell_setCells (by assumption) (by omega), by apply World.there_setCells; assumption, by apply World.there_setCells; assumption⟩))) (fail)
  clear hu hone
  have hd1 : W3.drew.there (w.heap.size + 1) 0 (hcs zs).length := by simpa using hth1
  have hR1 := World.rangeAt_setCells_same W3.drew (w.heap.size + 1) 0 (hcs zs) hd1
  have hR2 := World.rangeAt_setCells_apart hR1 (w.heap.size + 2) 0 (hcs zs) (.inl (by omega))
  have hR3 := World.rangeAt_setCells_same (W3.drew.setCells (w.heap.size + 1) 0 (hcs zs)) (w.heap.size + 2) 0 (hcs zs) (World.there_setCells (by simpa using hth2) _ _ _)
  go_wp2_with fail
  try simp only [Exit.inBlock, Exit.then]
  refine bodyPost_ret (results_cc_tmp rfl _ _ (w.heap.size + 1) (w.heap.size + 2) (hcs zs) (hcs zs) _ rfl rfl hR2 hR3 Tryd.underlying54 rfl hinf hinf) rfl ?_
  exact ⟨by rw [HZS.out]; rfl, below_set (below_set HB3.out.drew (by omega) (Nat.le_refl _) 0 _) (by omega) (Nat.le_refl _) 0 _⟩
set_option maxHeartbeats 2000000 in
set_option maxRecDepth 50000 in
/-- a part that is whole, and not one hash is left -/
theorem runTree_fail9 (lo n : Nat) (v : Value) (ps : List (List Int)) (old : List Int) (w : World) (h0 : lo ≠ 0) (h1 : lo < n) (hb : n < 2199023255552) (hv : HIn w v ps) (hp : ps.length ≠ 1) (hl : old.length = 32) (E : Value) (hE : w.cell? ⟨1, 0, none⟩ = some E) (hE0 : 1 < w.heap.size) :
    Calls Tryd.prog 47 #[v, .int .i64 lo, .int .i64 n, .int .i64 n, .agg (hcs old).toArray] w fun e w' => e = .returned (treeOut E none) ∧ Below w.heap.size w w' := by
  have hz := zh_zero
  rw [show ((List.replicate 32 (0 : Int)).map (Value.int .u8)).toArray = (hcs z32).toArray from rfl] at hz
  obtain ⟨zs, hzs⟩ : ∃ zs, zs = z32 := ⟨_, rfl⟩
  have HZS := Lib.hid hzs
  rw [← hzs] at hz
  have HZL : Hid (zs.length = 32) := Lib.hid (by rw [hzs]; rfl)
  have HLL := Lib.hid hl
  obtain ⟨W3, hW3⟩ : ∃ W3, W3 = ((w.alloc (Obj.cells (hcs old).toArray 54)).alloc (Obj.cells (hcs zs).toArray 54)).alloc (Obj.cells (hcs zs).toArray 54) := ⟨_, rfl⟩
  have HW3 := Lib.hid hW3
  have HB3 : Hid (Below w.heap.size w W3) := Lib.hid (by rw [hW3]; exact (((Below.refl w.heap.size w).alloc (Nat.le_refl _) _).alloc (by simp) _).alloc (by simp; omega) _)
  have HO3 : Hid (BAt W3 w.heap.size 54 old) := Lib.hid (by rw [hW3]; exact (Below.heap_alloc _ _ _ (by simp; omega)).trans ((Below.heap_alloc _ _ _ (by simp)).trans (heap_alloc_new w _)))
  have HP3 : Hid (BAt W3 (w.heap.size + 1) 54 zs) := Lib.hid (by
    have := heap_alloc_new (w.alloc (Obj.cells (hcs old).toArray 54)) (Obj.cells (hcs zs).toArray 54)
    rw [show (w.alloc (Obj.cells (hcs old).toArray 54)).heap.size = w.heap.size + 1 by simp] at this
    rw [hW3]; exact (Below.heap_alloc _ _ _ (by simp)).trans this)
  have HQ3 : Hid (BAt W3 (w.heap.size + 2) 54 zs) := Lib.hid (by
    have := heap_alloc_new ((w.alloc (Obj.cells (hcs old).toArray 54)).alloc (Obj.cells (hcs zs).toArray 54)) (Obj.cells (hcs zs).toArray 54)
    rw [show ((w.alloc (Obj.cells (hcs old).toArray 54)).alloc (Obj.cells (hcs zs).toArray 54)).heap.size = w.heap.size + 2 by simp] at this
    rw [hW3]; exact this)
  have HS3 : Hid (W3.heap.size = w.heap.size + 3) := Lib.hid (by rw [hW3]; simp)
  obtain ⟨_, A, c, rfl, hc1, hc2, hc3⟩ := hv
  have hpl : ((ps.length : Int) != 1) = true := by
    rw [bne_iff_ne]; omega
  have hl0 : ((lo : Int) == 0) = false := by rw [beq_eq_false_iff_ne]; omega
  have hb1 : decide ((lo : Int) < (n : Int)) = true := by simp; omega
  clear hW3 hzs hl hp hc3
  go_enter Tryd.func47, Tryd.ntmps47
  go_upto_region 1 with fail
  rw [← HW3.out]
  go_upto_region 9 with fail
  have hcE : W3.cell? ⟨1, 0, none⟩ = some E := (HB3.out.cell (p := ⟨1, 0, none⟩) hE0).trans hE
  have hth1 : W3.there (w.heap.size + 1) 0 (hcs zs).length := b_there HP3.out _ (by rw [hcs_len]; exact Nat.le_refl _)
  have hth2 : W3.there (w.heap.size + 2) 0 (hcs zs).length := b_there HQ3.out _ (by rw [hcs_len]; exact Nat.le_refl _)
  have hu := Tryd.underlying54
  have hinf := info_hcs HZL.out
  have hone := hcs_one zs
  go_region_held3 (fun w' => w'.cell? ⟨1, 0, none⟩ = some E ∧ w'.there (w.heap.size + 1) 0 (hcs zs).length ∧ w'.there (w.heap.size + 2) 0 (hcs zs).length) ((first | (exact ⟨by simpa using hcE, by simpa using hth1, by simpa using hth2⟩) | (go_split_ands; exact ⟨cell_setCells (by assumption) (by omega), by apply World.there_setCells; assumption, by apply World.there_setCells; assumption⟩))) (fail)
  clear hu hone
  have hd1 : W3.drew.there (w.heap.size + 1) 0 (hcs zs).length := by simpa using hth1
  have hR1 := World.rangeAt_setCells_same W3.drew (w.heap.size + 1) 0 (hcs zs) hd1
  have hR2 := World.rangeAt_setCells_apart hR1 (w.heap.size + 2) 0 (hcs zs) (.inl (by omega))
  have hR3 := World.rangeAt_setCells_same (W3.drew.setCells (w.heap.size + 1) 0 (hcs zs)) (w.heap.size + 2) 0 (hcs zs) (World.there_setCells (by simpa using hth2) _ _ _)
  go_wp2_with fail
  try simp only [Exit.inBlock, Exit.then]
  refine bodyPost_ret (results_cc_tmp rfl _ _ (w.heap.size + 1) (w.heap.size + 2) (hcs zs) (hcs zs) _ rfl rfl hR2 hR3 Tryd.underlying54 rfl hinf hinf) rfl ?_
  exact ⟨by rw [HZS.out]; rfl, below_set (below_set HB3.out.drew (by omega) (Nat.le_refl _) 0 _) (by omega) (Nat.le_refl _) 0 _⟩
set_option maxHeartbeats 2000000 in
set_option maxRecDepth 50000 in
/-- a part that is not whole, and no hash is left -/
theorem runTree_fail12 (lo hi n : Nat) (v : Value) (old : List Int) (w : World) (h1 : lo < n) (h2 : n < hi) (hb : hi < 2199023255552) (hv : HIn w v []) (hl : old.length = 32) (E : Value) (hE : w.cell? ⟨1, 0, none⟩ = some E) (hE0 : 1 < w.heap.size) :
    Calls Tryd.prog 47 #[v, .int .i64 lo, .int .i64 hi, .int .i64 n, .agg (hcs old).toArray] w fun e w' => e = .returned (treeOut E none) ∧ Below w.heap.size w w' := by
  have hz := zh_zero
  rw [show ((List.replicate 32 (0 : Int)).map (Value.int .u8)).toArray = (hcs z32).toArray from rfl] at hz
  obtain ⟨zs, hzs⟩ : ∃ zs, zs = z32 := ⟨_, rfl⟩
  have HZS := Lib.hid hzs
  rw [← hzs] at hz
  have HZL : Hid (zs.length = 32) := Lib.hid (by rw [hzs]; rfl)
  have HLL := Lib.hid hl
  obtain ⟨W3, hW3⟩ : ∃ W3, W3 = ((w.alloc (Obj.cells (hcs old).toArray 54)).alloc (Obj.cells (hcs zs).toArray 54)).alloc (Obj.cells (hcs zs).toArray 54) := ⟨_, rfl⟩
  have HW3 := Lib.hid hW3
  have HB3 : Hid (Below w.heap.size w W3) := Lib.hid (by rw [hW3]; exact (((Below.refl w.heap.size w).alloc (Nat.le_refl _) _).alloc (by simp) _).alloc (by simp; omega) _)
  have HO3 : Hid (BAt W3 w.heap.size 54 old) := Lib.hid (by rw [hW3]; exact (Below.heap_alloc _ _ _ (by simp; omega)).trans ((Below.heap_alloc _ _ _ (by simp)).trans (heap_alloc_new w _)))
  have HP3 : Hid (BAt W3 (w.heap.size + 1) 54 zs) := Lib.hid (by
    have := heap_alloc_new (w.alloc (Obj.cells (hcs old).toArray 54)) (Obj.cells (hcs zs).toArray 54)
    rw [show (w.alloc (Obj.cells (hcs old).toArray 54)).heap.size = w.heap.size + 1 by simp] at this
    rw [hW3]; exact (Below.heap_alloc _ _ _ (by simp)).trans this)
  have HQ3 : Hid (BAt W3 (w.heap.size + 2) 54 zs) := Lib.hid (by
    have := heap_alloc_new ((w.alloc (Obj.cells (hcs old).toArray 54)).alloc (Obj.cells (hcs zs).toArray 54)) (Obj.cells (hcs zs).toArray 54)
    rw [show ((w.alloc (Obj.cells (hcs old).toArray 54)).alloc (Obj.cells (hcs zs).toArray 54)).heap.size = w.heap.size + 2 by simp] at this
    rw [hW3]; exact this)
  have HS3 : Hid (W3.heap.size = w.heap.size + 3) := Lib.hid (by rw [hW3]; simp)
  obtain ⟨_, A, c, rfl, hc1, hc2, hc3⟩ := hv
  have hb1 : decide ((lo : Int) < (n : Int)) = true := by simp; omega
  have hb2 : decide (n ≤ hi) = true := by simp; omega
  have hb3 : ((n : Int) == (hi : Int)) = false := by rw [beq_eq_false_iff_ne]; omega
  simp only [List.length_nil] at hc1 hc2 ⊢
  clear hW3 hzs hl hc3
  go_enter Tryd.func47, Tryd.ntmps47
  go_upto_region 1 with fail
  rw [← HW3.out]
  go_upto_region 12 with fail
  have hcE : W3.cell? ⟨1, 0, none⟩ = some E := (HB3.out.cell (p := ⟨1, 0, none⟩) hE0).trans hE
  have hth1 : W3.there (w.heap.size + 1) 0 (hcs zs).length := b_there HP3.out _ (by rw [hcs_len]; exact Nat.le_refl _)
  have hth2 : W3.there (w.heap.size + 2) 0 (hcs zs).length := b_there HQ3.out _ (by rw [hcs_len]; exact Nat.le_refl _)
  have hu := Tryd.underlying54
  have hinf := info_hcs HZL.out
  have hone := hcs_one zs
  go_region_held3 (fun w' => w'.cell? ⟨1, 0, none⟩ = some E ∧ w'.there (w.heap.size + 1) 0 (hcs zs).length ∧ w'.there (w.heap.size + 2) 0 (hcs zs).length) ((first | (exact ⟨by simpa using hcE, by simpa using hth1, by simpa using hth2⟩) | (go_split_ands; exact ⟨cell_setCells (by assumption) (by omega), by apply World.there_setCells; assumption, by apply World.there_setCells; assumption⟩))) (fail)
  clear hu hone
  have hd1 : W3.drew.there (w.heap.size + 1) 0 (hcs zs).length := by simpa using hth1
  have hR1 := World.rangeAt_setCells_same W3.drew (w.heap.size + 1) 0 (hcs zs) hd1
  have hR2 := World.rangeAt_setCells_apart hR1 (w.heap.size + 2) 0 (hcs zs) (.inl (by omega))
  have hR3 := World.rangeAt_setCells_same (W3.drew.setCells (w.heap.size + 1) 0 (hcs zs)) (w.heap.size + 2) 0 (hcs zs) (World.there_setCells (by simpa using hth2) _ _ _)
  go_wp2_with fail
  try simp only [Exit.inBlock, Exit.then]
  refine bodyPost_ret (results_cc_tmp rfl _ _ (w.heap.size + 1) (w.heap.size + 2) (hcs zs) (hcs zs) _ rfl rfl hR2 hR3 Tryd.underlying54 rfl hinf hinf) rfl ?_
  exact ⟨by rw [HZS.out]; rfl, below_set (below_set HB3.out.drew (by omega) (Nat.le_refl _) 0 _) (by omega) (Nat.le_refl _) 0 _⟩

end Go.Proofs.YtokopcbmpnnkcaaDoor
