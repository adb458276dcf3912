/- tlog.TreeHash, impl.TreeHash: the hash of a tree out of stored hashes, or that one is missing. Conditions: at least one record, fewer than 2 to the power of 41; the stored hashes lie in memory; the variable errMissing holds an error. -/
import Derived.Test.YtokopcbmpnnkcaaDoorT7
import Derived.Test.YtokopcbmpnnkcaaDoorT6
import Derived.Test.YtokopcbmpnnkcaaDoorTree3
namespace Go.Proofs.YtokopcbmpnnkcaaDoor
open Go.RowKit
set_option linter.unusedVariables false

theorem ixs_small {cs : List (Nat × Nat)} {n : Nat} (h : ∀ c ∈ cs, (c.2 + 1) * 2 ^ c.1 ≤ n) (hn : n ≤ 2199023255552) : ∀ x ∈ ixs cs, x ≤ 9223372036854775807 := by
  intro x hx
  obtain ⟨c, hc, rfl⟩ := List.mem_map.1 hx
  have h1 := (Idx.idx_lt_count (l := c.1) (n := c.2) (m := n)).2 (h c hc)
  have h2 := Idx.wh_le n
  omega
/-- the hash of a tree out of stored hashes -/
def treeH (ks : List Int) (ls : List (List Int)) (n : Nat) : Option (List Int) := (rd ls (ixs (Tr.parts 0 n))).map (Tr.fold1 (nhK ks))
theorem fold1_len {ks : List Int} {os : List (List Int)} (hn : os ≠ []) (h : ∀ h ∈ os, h.length = 32) : (Tr.fold1 (nhK ks) os).length = 32 := by
  match os, hn, h with
  | [], hn, _ => exact absurd rfl hn
  | [a], _, h => exact h a (by simp)
  | a :: b :: r, _, h =>
    rw [Tr.fold1_cons _ _ (by simp)]
    exact nhK_len _ _ _
theorem treeH_len {ks : List Int} {ls : List (List Int)} {n : Nat} {x : List Int} (hn : n ≠ 0) (h : treeH ks ls n = some x) : x.length = 32 := by
  obtain ⟨os, ho, rfl⟩ := Option.map_eq_some_iff.1 h
  refine fold1_len ?_ (rd_32 ho)
  intro e
  have := rd_len ho
  rw [e, ixs_len, Tr.parts_pos _ hn] at this
  simp at this
set_option maxHeartbeats 4000000 in
set_option maxRecDepth 50000 in
theorem treeHash_any (ks : List Int) (ls : List (List Int)) (g n : Nat) (E0t : TypeId) (E0a : Addr) (w : World) (hn0 : n ≠ 0) (hn : n < 2199023255552) (hs : Rdr w g ls (.iface E0t (.pointer (some E0a)))) (hK : WAt w 4 ks) :
    Calls Tryd.prog 36 #[.int .i64 n, RV g] w fun e w' => e = .returned (recOut (.iface E0t (.pointer (some E0a))) (treeH ks ls n)) ∧ Below w.heap.size w w' := by
  have hz := zh_zero
  rw [show ((List.replicate 32 (0 : Int)).map (Value.int .u8)).toArray = (hcs z32).toArray from rfl] at hz
  obtain ⟨zs, hzs⟩ : ∃ zs, zs = z32 := ⟨_, rfl⟩
  have HZS := Lib.hid hzs
  rw [← hzs] at hz
  have HZL : Hid (zs.length = 32) := Lib.hid (by rw [hzs]; rfl)
  have hk0 : 4 < w.heap.size := (Array.getElem?_eq_some_iff.1 hK.2.2).1
  obtain ⟨W1, hW1⟩ : ∃ W1, W1 = w.alloc (Obj.cells (hcs zs).toArray 54) := ⟨_, rfl⟩
  have HW1 := Lib.hid hW1
  have HB1 : Hid (Below w.heap.size w W1) := Lib.hid (by rw [hW1]; exact (Below.refl w.heap.size w).alloc (Nat.le_refl _) _)
  have HR1 : Hid (BAt W1 w.heap.size 54 zs) := Lib.hid (by rw [hW1]; exact heap_alloc_new w _)
  have hs1 : W1.heap.size = w.heap.size + 1 := by rw [hW1]; simp
  have HS1 := Lib.hid hs1
  have HK1 : Hid (WAt W1 4 ks) := Lib.hid (hK.below HB1.out hk0)
  have HRD1 : Hid (Rdr W1 g ls (.iface E0t (.pointer (some E0a)))) := Lib.hid (hs.below HB1.out)
  have hal : Tr.Al 0 n := Tr.Al.zero n
  have HSI := Lib.hid (subTreeIndex_any 0 n W1.heap.size (.slice none 0 0) [] W1 (Nat.zero_le _) (by rw [Nat.sub_zero]; exact hal) hn (World.ownsRow_nil _ _ _ _) (Nat.le_refl _) (by simp; omega))
  rw [Nat.sub_zero, List.nil_append, show ((0 : Nat) : Int) = 0 from rfl] at HSI
  have hplen := Tr.parts_len_log (m := 41) 0 n (by omega)
  have HRH := Lib.hid (fun v w' h1 h2 => readHashes_any ls (ixs (Tr.parts 0 n)) v g (.iface E0t (.pointer (some E0a))) w' h1 (ixs_small (n := n) (fun c hc => by have := Tr.parts_in hal hc; omega) (by omega)) (by rw [ixs_len]; omega) h2)
  have hil : (ixs (Tr.parts 0 n)).length = (Tr.parts 0 n).length := ixs_len _
  have hpp : 0 < (Tr.parts 0 n).length := by rw [Tr.parts_pos _ hn0]; simp
  have HMR := Lib.hid (m_read g)
  cases hr : rd ls (ixs (Tr.parts 0 n)) with
  | none =>
    rw [hr] at HRH
    have HT : Hid (treeH ks ls n = none) := Lib.hid (by unfold treeH; rw [hr]; rfl)
    clear hW1 hs1 hs hK hr hzs hal hil hpp hplen
    generalize ixs (Tr.parts 0 n) = xs at *
    go_enter Tryd.func36, Tryd.ntmps36
    go_upto_region 1 with fail
    rw [← HW1.out]
    go_wp2_with fail
    refine HSI.out.mono ?_
    rintro e w1 ⟨⟨v1, rfl, ho1⟩, hb1⟩
    have HO1 := Lib.hid ho1.in_
    have HB2 : Hid (Below W1.heap.size W1 w1) := Lib.hid hb1
    have HMR := HMR.out
    unfold RV
    clear ho1 hb1
    go_wp2_with fail
    refine (HRH.out v1 w1 HO1.out (HRD1.out.below HB2.out)).mono ?_
    rintro e w2 ⟨h1, hb2⟩
    obtain rfl : e = .returned (.tuple #[.slice none 0 0, .iface E0t (.pointer (some E0a))]) := h1
    have HB3 : Hid (Below W1.heap.size W1 w2) := Lib.hid (bl_step HB2.out hb2 (Nat.le_refl _))
    have HR2 : Hid (BAt w2 w.heap.size 54 zs) := Lib.hid (HR1.out.below HB3.out (by rw [HS1.out]; omega))
    clear hb2
    go_wp2_with (refine wpList_storeH rfl (.tmp 4) (.tmp 23) rfl w.heap.size zs rfl rfl 54 zs HR2.out HZL.out HZL.out ?_; intro w3 HR3 HX3)
    try simp only [Exit.inBlock, Exit.then]
    refine bodyPost_ret (results_cell_tmp_mid rfl _ _ w.heap.size 0 (hcs zs) _ rfl (b_range HR3.out) Tryd.underlying54 rfl (info_hcs HZL.out)) rfl ?_
    exact ⟨by rw [HT.out, HZS.out]; rfl, below_but (HB1.out.trans (HB3.out.mono HB1.out.size)) HX3.out (Nat.le_refl _)⟩
  | some os =>
    rw [hr] at HRH
    have HT : Hid (treeH ks ls n = some (Tr.fold1 (nhK ks) os)) := Lib.hid (by unfold treeH; rw [hr]; rfl)
    have hol : os.length = (ixs (Tr.parts 0 n)).length := rd_len hr
    have HFL : Hid ((Tr.fold1 (nhK ks) os).length = 32) := Lib.hid (treeH_len hn0 HT.out)
    have HSH := Lib.hid (fun v w' h1 h2 => subTreeHash_any ks 0 n v os w' (by omega) (by rw [Nat.sub_zero]; exact hal) hn h1 (by rw [Nat.sub_zero]; omega) h2)
    rw [Nat.sub_zero, show Tr.sub (nhK ks) 0 n os = (Tr.fold1 (nhK ks) os, []) by
      unfold Tr.sub
      rw [List.take_of_length_le (by omega), List.drop_eq_nil_of_le (by omega)], show ((0 : Nat) : Int) = 0 from rfl] at HSH
    clear hW1 hs1 hs hK hr hzs hal hil hpp hplen
    have HOL := Lib.hid hol
    generalize Tr.fold1 (nhK ks) os = x at *
    generalize ixs (Tr.parts 0 n) = xs at *
    go_enter Tryd.func36, Tryd.ntmps36
    go_upto_region 1 with fail
    rw [← HW1.out]
    go_wp2_with fail
    refine HSI.out.mono ?_
    rintro e w1 ⟨⟨v1, rfl, ho1⟩, hb1⟩
    have HO1 := Lib.hid ho1.in_
    have HB2 : Hid (Below W1.heap.size W1 w1) := Lib.hid hb1
    have HMR := HMR.out
    unfold RV
    obtain ⟨A1, c1, rfl, _⟩ := HO1.out
    clear ho1 hb1
    go_wp2_with fail
    refine (HRH.out _ w1 HO1.out (HRD1.out.below HB2.out)).mono ?_
    rintro e w2 ⟨h1, hb2⟩
    obtain ⟨v2, rfl, ho2⟩ := h1
    have HB3 : Hid (Below W1.heap.size W1 w2) := Lib.hid (bl_step HB2.out hb2 (Nat.le_refl _))
    have HO2 := Lib.hid ho2.in_
    obtain ⟨_, A2, c2, rfl, _⟩ := HO2.out
    have hb3 : ((os.length : Int) != (xs.length : Int)) = false := by rw [HOL.out]; simp
    have HK2 : Hid (WAt w2 4 ks) := Lib.hid (HK1.out.below HB3.out (by rw [HS1.out]; omega))
    clear hb2 ho2 hol
    go_wp2_with fail
    refine (HSH.out _ w2 HO2.out HK2.out).mono ?_
    rintro e w3 ⟨⟨v3, rfl, ho3⟩, hb4⟩
    obtain ⟨_, A3, c3, rfl, _⟩ := ho3 w2 HO2.out
    have HB4 : Hid (Below W1.heap.size W1 w3) := Lib.hid (bl_step HB3.out hb4 (Nat.le_refl _))
    have HG3 : Hid (BAt (w3.alloc (Obj.cells (hcs zs).toArray 54)) w3.heap.size 54 zs) := Lib.hid (heap_alloc_new w3 _)
    have hlt3 : w.heap.size < w3.heap.size := by have := HB4.out.size; rw [HS1.out] at this; omega
    have HL3 := Lib.hid hlt3
    have HXI := Lib.hid (info_hcs HFL.out)
    clear hb4
    go_wp2_with (first
      | (refine wpList_storeH rfl (.tmp 9) (.tmp 36) rfl w3.heap.size x rfl rfl 54 zs HG3.out HZL.out HFL.out ?_; intro w4 HR4 HX4; have HR4R : Hid (BAt w4 w.heap.size 54 zs) := Lib.hid (((HR1.out.below HB4.out (by rw [HS1.out]; omega)).below ((Below.refl _ _).alloc (Nat.le_refl _) _) HL3.out).but HX4.out (by omega)))
      | (refine wpList_load_mid rfl 54 (.tmp 9) rfl w3.heap.size 0 rfl (hcs x) _ (b_range HR4.out) Tryd.underlying54 rfl HXI.out ?_)
      | (refine wpList_storeH rfl (.tmp 4) (.tmp 42) rfl w.heap.size x rfl rfl 54 zs HR4R.out HZL.out HFL.out ?_; intro w5 HR5 HX5))
    try simp only [Exit.inBlock, Exit.then]
    refine bodyPost_ret (results_cell_tmp_mid rfl _ _ w.heap.size 0 (hcs x) _ rfl (b_range HR5.out) Tryd.underlying54 rfl (info_hcs HFL.out)) rfl ?_
    have hbw : Below w.heap.size w w3 := HB1.out.trans (HB4.out.mono HB1.out.size)
    exact ⟨by rw [HT.out]; rfl, below_but (below_but (hbw.alloc hbw.size _) HX4.out (by omega)) HX5.out (Nat.le_refl _)⟩

end Go.Proofs.YtokopcbmpnnkcaaDoor
