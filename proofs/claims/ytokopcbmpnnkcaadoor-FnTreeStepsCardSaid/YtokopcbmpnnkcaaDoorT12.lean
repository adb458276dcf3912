/- tlog.treeProof: the proof for a beginning of a tree out of stored hashes. Conditions: fewer than 2 to the power of 41 records; the hashes lie in memory. -/
import Derived.Test.YtokopcbmpnnkcaaDoorT10
namespace Go.Proofs.YtokopcbmpnnkcaaDoor
open Go.RowKit
set_option linter.unusedVariables false

theorem HOwn.one (w : World) {x : List Int} (h : x.length = 32) : HOwn (w.alloc (Obj.cells (hcs x).toArray 54)) w.heap.size (.slice (some ⟨w.heap.size, 0, none⟩) 1 1) [x] :=
  ⟨fun y hy => by obtain rfl : y = x := (by simpa using hy); exact h, by simp [hcs_len, h], .inr ⟨w.heap.size, 1, _, rfl, Nat.le_refl _, heap_alloc_new w _, Nat.le_refl _, by simp [maxLen], by simp [hcs_len, h], by simp [hcs_len, h, List.take_of_length_le]⟩⟩
set_option maxHeartbeats 8000000 in
set_option maxRecDepth 50000 in
theorem treeProof_any (ks : List Int) (d : Nat) : ∀ (lo hi n : Nat) (v : Value) (hs : List (List Int)) (w : World), hi - lo = d → lo < n → n ≤ hi → Tr.Al lo (hi - lo) → hi < 2199023255552 → HIn w v hs → (Tr.treeIx lo (hi - lo) n).length ≤ hs.length → WAt w 4 ks →
    Calls Tryd.prog 46 #[.int .i64 lo, .int .i64 hi, .int .i64 n, v] w fun e w' => (∃ v1 v2, e = .returned (.tuple #[v1, v2]) ∧ HOwn w' w.heap.size v1 (Tr.treePf (nhK ks) lo (hi - lo) n hs).1 ∧ ∀ w0, HIn w0 v hs → HIn w0 v2 (Tr.treePf (nhK ks) lo (hi - lo) n hs).2) ∧ Below w.heap.size w w' := by
  induction d using Nat.strongRecOn with
  | ind d ih =>
    intro lo hi n v hs w hd h1 h2 hal hb hv hlen hK
    have hb1 : decide ((lo : Int) < n) = true := by simp; omega
    have hb2 : decide ((n : Int) ≤ hi) = true := by simp; omega
    have hk0 : 4 < w.heap.size := (Array.getElem?_eq_some_iff.1 hK.2.2).1
    by_cases h : n = hi
    · subst h
      have hb3 : ((n : Int) == n) = true := by simp
      have HI := Lib.hid (Tr.treePf_self (nhK ks) (lo := lo) (d := n - lo) (n := n) (hs := hs) (by omega))
      by_cases h0 : lo = 0
      · subst h0
        rw [if_pos rfl] at HI
        clear hd ih hal hv hlen hK
        go_enter Tryd.func46, Tryd.ntmps46
        go_wp2_with fail
        go_ret2
        exact ⟨⟨_, _, rfl, by rw [HI.out]; exact HOwn.new_ w, fun w0 h0 => by rw [HI.out]; exact h0⟩, (Below.refl _ _).alloc (Nat.le_refl _) _⟩
      · rw [if_neg h0] at HI
        have hb4 : ((lo : Int) == 0) = false := by simp; omega
        rw [Tr.treeIx_self (by omega), if_neg h0] at hlen
        have HS := Lib.hid (subTreeHash_any ks lo n v hs w (by omega) hal hb hv hlen hK)
        have hxl := sub_len (ks := ks) (lo := lo) (d := n - lo) (hs := hs) (by omega) hv.1 hlen
        obtain ⟨SB, hSB⟩ : ∃ SB, SB = Tr.sub (nhK ks) lo (n - lo) hs := ⟨_, rfl⟩
        rw [← hSB] at HI HS hxl
        have HXL := Lib.hid hxl
        have hz := zh_zero
        rw [show ((List.replicate 32 (0 : Int)).map (Value.int .u8)).toArray = (hcs z32).toArray from rfl] at hz
        obtain ⟨zs, hzs⟩ : ∃ zs, zs = z32 := ⟨_, rfl⟩
        rw [← hzs] at hz
        have HZL : Hid (zs.length = 32) := Lib.hid (by rw [hzs]; rfl)
        clear hd ih hal hv hlen hK hzs hSB hxl h0
        obtain ⟨x, rt⟩ := SB
        simp only at HI HS HXL
        have HXI := Lib.hid (info_hcs HXL.out)
        have hfold := fold32h x HXL.out
        have hxl' : (hcs x).length = 32 := by rw [hcs_len, HXL.out]
        go_enter Tryd.func46, Tryd.ntmps46
        go_wp2_with fail
        refine HS.out.mono ?_
        rintro e w1 ⟨⟨v2, rfl, hr1⟩, hb1'⟩
        have HQ := Lib.hid hr1
        have HB1 := Lib.hid hb1'
        have HG1 : Hid (BAt (w1.alloc (Obj.cells (hcs zs).toArray 54)) w1.heap.size 54 zs) := Lib.hid (heap_alloc_new w1 _)
        clear hr1 hb1'
        go_upto_region 7 with (refine wpList_storeH rfl (.tmp 10) (.tmp 38) rfl w1.heap.size x rfl rfl 54 zs HG1.out HZL.out HXL.out ?_; intro w2 HX2 HXb)
        clear hz
        go_wp2_with ((refine wpList_load_mid rfl 54 (.tmp 10) rfl w1.heap.size 0 rfl (hcs x) _ (b_range HX2.out) Tryd.underlying54 rfl HXI.out ?_))
        clear hfold hxl'
        go_ret2
        have hb2 : Below w.heap.size w w2 := below_but (HB1.out.alloc HB1.out.size _) HXb.out HB1.out.size
        refine ⟨⟨_, _, rfl, ?_, ?_⟩, hb2.alloc hb2.size _⟩
        · rw [HI.out]
          exact (HOwn.one w2 HXL.out).mono hb2.size
        · rw [HI.out]
          exact HQ.out
    · have hb3 : ((n : Int) == hi) = false := by simp; omega
      obtain ⟨i0, hi0, hz0, hz1, hz2⟩ := info_parts info_hash
      have HI0 := Lib.hid hi0
      have HZ0 := Lib.hid hz0
      have HZ1 := Lib.hid hz1
      have HZ2 := Lib.hid hz2
      have hz := zh_zero
      rw [show ((List.replicate 32 (0 : Int)).map (Value.int .u8)).toArray = (hcs z32).toArray from rfl] at hz
      obtain ⟨zs, hzs⟩ : ∃ zs, zs = z32 := ⟨_, rfl⟩
      rw [← hzs] at hz
      have HZL : Hid (zs.length = 32) := Lib.hid (by rw [hzs]; rfl)
      obtain ⟨W1, hW1⟩ : ∃ W1, W1 = w.alloc (Obj.cells (hcs zs).toArray 54) := ⟨_, rfl⟩
      have HW1 := Lib.hid hW1
      have HB1 : Hid (Below w.heap.size w W1) := Lib.hid (by rw [hW1]; exact (Below.refl w.heap.size w).alloc (Nat.le_refl _) _)
      have HR1 : Hid (BAt W1 w.heap.size 54 zs) := Lib.hid (by rw [hW1]; exact heap_alloc_new w _)
      have hs1 : W1.heap.size = w.heap.size + 1 := by rw [hW1]; simp
      have HS1 := Lib.hid hs1
      have HK1 : Hid (WAt W1 4 ks) := Lib.hid (hK.below HB1.out hk0)
      have HV1 : Hid (HIn W1 v hs) := Lib.hid (hv.below HB1.out)
      have HV0 := Lib.hid hv
      have hhp := Tr.half_pos (hi - lo)
      have hhl := Tr.half_lt (d := hi - lo) (by omega)
      have hmp := maxpow2_any (hi - lo - 1) (by omega) (by omega)
      have hall := hal.left (by omega)
      have halr := hal.right (by omega)
      have hc1 : ((hi : Int) - lo) = ((hi - lo - 1 : Nat) : Int) + 1 := by omega
      clear hi0 hz0 hz1 hz2 hzs hW1 hs1
      by_cases hn : n ≤ lo + Tr.half (hi - lo)
      · have HI := Lib.hid (Tr.treePf_left (nhK ks) (lo := lo) (d := hi - lo) (n := n) (hs := hs) (by omega) (by omega) hn)
        have hrest := Tr.treePf_rest (nhK ks) lo (Tr.half (hi - lo)) n hs
        have hplen := Tr.treePf_len (nhK ks) (lo := lo) (d := Tr.half (hi - lo)) (n := n) (m := 41) hs (by omega)
        rw [Tr.treeIx_left (by omega) (by omega) hn, List.length_append] at hlen
        have HR := Lib.hid (fun w' hv hk => ih (Tr.half (hi - lo)) (by omega) lo (lo + Tr.half (hi - lo)) n v hs w' (by omega) h1 hn (by rw [Nat.add_sub_cancel_left]; exact hall) (by omega) hv (by rw [Nat.add_sub_cancel_left]; omega) hk)
        have HS := Lib.hid (fun v' w' hv hk => subTreeHash_any ks (lo + Tr.half (hi - lo)) hi v' (Tr.treePf (nhK ks) lo (Tr.half (hi - lo)) n hs).2 w' (by omega) (by rw [← Nat.sub_sub]; exact halr) hb hv (by rw [hrest, List.length_drop, ← Nat.sub_sub]; omega) hk)
        have hxl := sub_len (ks := ks) (lo := lo + Tr.half (hi - lo)) (d := hi - lo - Tr.half (hi - lo)) (hs := (Tr.treePf (nhK ks) lo (Tr.half (hi - lo)) n hs).2) (by omega) (fun h hm => by rw [hrest] at hm; exact hv.1 h (List.mem_of_mem_drop hm)) (by rw [hrest, List.length_drop]; omega)
        rw [Nat.add_sub_cancel_left] at HR
        rw [← Nat.sub_sub] at HS
        rw [show 2 ^ (hi - lo - 1).log2 = Tr.half (hi - lo) from rfl] at hmp
        obtain ⟨PF, hPF⟩ : ∃ PF, PF = Tr.treePf (nhK ks) lo (Tr.half (hi - lo)) n hs := ⟨_, rfl⟩
        rw [← hPF] at HI HR HS hxl hplen
        obtain ⟨SB, hSB⟩ : ∃ SB, SB = Tr.sub (nhK ks) (lo + Tr.half (hi - lo)) (hi - lo - Tr.half (hi - lo)) PF.2 := ⟨_, rfl⟩
        rw [← hSB] at HI HS hxl
        have HPL : Hid (PF.1.length ≤ 100) := Lib.hid (by omega)
        obtain ⟨K, hK'⟩ : ∃ K, K = Tr.half (hi - lo) := ⟨_, rfl⟩
        rw [← hK'] at HR HS hmp hn hhl
        have HMP := Lib.hid hmp
        have HXL := Lib.hid hxl
        clear hd ih hal hmp hall halr hPF hSB hrest hplen hlen hxl hv hK' hK
        obtain ⟨ps, rs⟩ := PF
        obtain ⟨x, rt⟩ := SB
        simp only at HI HR HS HPL HXL
        go_enter Tryd.func46, Tryd.ntmps46
        go_upto_region 10 with fail
        rw [← HW1.out]
        go_wp2_with fail
        refine (HMP.out _).mono ?_
        rintro e w' ⟨rfl, rfl⟩
        go_wp2_with fail
        refine (HR.out W1 HV1.out HK1.out).mono ?_
        rintro e w1 ⟨⟨v1, v2, rfl, ho1, hr1⟩, hb1'⟩
        have HO1 : Hid (HOwn w1 (w.heap.size + 1) v1 ps) := Lib.hid (by rw [← HS1.out]; exact ho1)
        have HB2 := Lib.hid hb1'
        have HQ1 := Lib.hid hr1
        have HK2 : Hid (WAt w1 4 ks) := Lib.hid (HK1.out.below hb1' (by rw [HS1.out]; omega))
        clear ho1 hb1' hr1
        go_wp2_with fail
        refine (HS.out v2 w1 (HQ1.out w1 (HV1.out.below HB2.out)) HK2.out).mono ?_
        rintro e w2 ⟨⟨v3, rfl, hr2⟩, hb2'⟩
        have HB3 : Hid (Below W1.heap.size W1 w2) := Lib.hid (bl_step HB2.out hb2' (Nat.le_refl _))
        have HO2 : Hid (HOwn w2 (w.heap.size + 1) v1 ps) := Lib.hid (HO1.out.below hb2')
        have HRS : Hid (∀ w0, HIn w0 v hs → HIn w0 v3 rt) := Lib.hid (fun w0 h0 => hr2 w0 (HQ1.out w0 h0))
        have HRZ : Hid (BAt w2 w.heap.size 54 zs) := Lib.hid (HR1.out.below HB3.out (by rw [HS1.out]; omega))
        clear hr2 hb2'
        go_upto_region 16 with (refine wpList_storeH rfl (.tmp 13) (.tmp 72) rfl w.heap.size x rfl rfl 54 zs HRZ.out HZL.out HXL.out ?_; intro wf HXR HXb)
        have HP : Hid (HOwn wf (w.heap.size + 1) v1 ps) := Lib.hid (HO2.out.but HXb.out (by omega))
        have HBF : Hid (Below w.heap.size w wf) := Lib.hid (below_but (HB1.out.trans (HB3.out.mono HB1.out.size)) HXb.out (Nat.le_refl _))
        have HSF : Hid (w.heap.size + 1 ≤ wf.heap.size) := Lib.hid (by have h1 := HB3.out.size; rw [HS1.out] at h1; have h2 := HXb.out.2.2.2.1; omega)
        have hHNC : ps.length ≤ 100 := HPL.out
        clear hz
        have HXI := Lib.hid (info_hcs HXL.out)
        have hfold := fold32h x HXL.out
        have hxl' : (hcs x).length = 32 := by rw [hcs_len, HXL.out]
        have hszf : w.heap.size + 1 ≤ wf.heap.size := HSF.out
        go_wp2_with (first
          | (refine wpList_load_mid rfl 54 (.tmp 13) rfl w.heap.size 0 rfl (hcs x) _ (b_range HXR.out) Tryd.underlying54 rfl HXI.out ?_)
          | (at_builtin; (refine wpList_append_own_wide _ rfl (.tmp 93) (.tmp 95) 56 rfl (w.heap.size + 1) 54 i0 _ 32 32 Tryd.underlying56 HI0.out HZ0.out HZ1.out HZ2.out zh_cells (by omega) _ ps.length (ps.flatMap hcs) rfl (World.ownsRow.alloc HP.out.2 _) ⟨wf.heap.size, 0, none⟩ 1 1 (hcs x) rfl (by rw [hcs_len, HXL.out]) (hash_src _ _ _) (hcs_one x) (by unfold maxLen; omega) (by omega) (by simp; omega) ?_); intro v9 w9 hown9 hgrow9 hnil9; have HO9 := Lib.hid hown9; have HG9 := Lib.hid hgrow9; clear hown9 hgrow9 hnil9))
        clear hfold hxl'
        go_ret2
        have hb9 : Below w.heap.size w w9 := (HBF.out.alloc HBF.out.size _).grown HG9.out (by have := HBF.out.size; simp; omega) (fun j hj => by have := (HP.out.2.lt j hj).1; omega)
        refine ⟨⟨_, _, rfl, ?_, ?_⟩, hb9⟩
        · rw [HI.out]
          exact (HOwn.snoc HP.out.1 HXL.out HO9.out).mono (by omega)
        · rw [HI.out]
          exact HRS.out
      · have HI := Lib.hid (Tr.treePf_right (nhK ks) (lo := lo) (d := hi - lo) (n := n) (hs := hs) (by omega) (by omega) hn)
        have hplen := Tr.treePf_len (nhK ks) (lo := lo + Tr.half (hi - lo)) (d := hi - lo - Tr.half (hi - lo)) (n := n) (m := 41) (Tr.sub (nhK ks) lo (Tr.half (hi - lo)) hs).2 (by omega)
        rw [Tr.treeIx_right (by omega) (by omega) hn, List.length_append] at hlen
        have HS := Lib.hid (fun w' hv hk => subTreeHash_any ks lo (lo + Tr.half (hi - lo)) v hs w' (by omega) (by rw [Nat.add_sub_cancel_left]; exact hall) (by omega) hv (by rw [Nat.add_sub_cancel_left]; omega) hk)
        have HR := Lib.hid (fun v' w' hv hk => ih (hi - lo - Tr.half (hi - lo)) (by omega) (lo + Tr.half (hi - lo)) hi n v' (Tr.sub (nhK ks) lo (Tr.half (hi - lo)) hs).2 w' (by omega) (by omega) h2 (by rw [← Nat.sub_sub]; exact halr) hb hv (by rw [← Nat.sub_sub, Tr.sub, List.length_drop]; omega) hk)
        have hxl := sub_len (ks := ks) (lo := lo) (d := Tr.half (hi - lo)) (hs := hs) (by omega) hv.1 (by omega)
        rw [Nat.add_sub_cancel_left] at HS
        rw [← Nat.sub_sub] at HR
        rw [show 2 ^ (hi - lo - 1).log2 = Tr.half (hi - lo) from rfl] at hmp
        obtain ⟨SB, hSB⟩ : ∃ SB, SB = Tr.sub (nhK ks) lo (Tr.half (hi - lo)) hs := ⟨_, rfl⟩
        rw [← hSB] at HI HS HR hxl hplen
        obtain ⟨PF, hPF⟩ : ∃ PF, PF = Tr.treePf (nhK ks) (lo + Tr.half (hi - lo)) (hi - lo - Tr.half (hi - lo)) n SB.2 := ⟨_, rfl⟩
        rw [← hPF] at HI HR hplen
        have HPL : Hid (PF.1.length ≤ 100) := Lib.hid (by omega)
        obtain ⟨K, hK'⟩ : ∃ K, K = Tr.half (hi - lo) := ⟨_, rfl⟩
        rw [← hK'] at HR HS hmp hn hhl
        have HMP := Lib.hid hmp
        have HXL := Lib.hid hxl
        clear hd ih hal hmp hall halr hPF hSB hplen hlen hxl hv hK' hK
        obtain ⟨ps, rs⟩ := PF
        obtain ⟨x, rt⟩ := SB
        simp only at HI HR HS HPL HXL
        go_enter Tryd.func46, Tryd.ntmps46
        go_upto_region 10 with fail
        rw [← HW1.out]
        go_wp2_with fail
        refine (HMP.out _).mono ?_
        rintro e w' ⟨rfl, rfl⟩
        go_wp2_with fail
        refine (HS.out W1 HV1.out HK1.out).mono ?_
        rintro e w1 ⟨⟨v2, rfl, hr2⟩, hb1'⟩
        have HB2 := Lib.hid hb1'
        have HQ1 := Lib.hid hr2
        have HRZ : Hid (BAt w1 w.heap.size 54 zs) := Lib.hid (HR1.out.below HB2.out (by rw [HS1.out]; omega))
        clear hb1' hr2
        go_upto_region 15 with (refine wpList_storeH rfl (.tmp 13) (.tmp 81) rfl w.heap.size x rfl rfl 54 zs HRZ.out HZL.out HXL.out ?_; intro w2 HX2 HXb)
        have HBW2 : Hid (Below w.heap.size w w2) := Lib.hid (below_but (HB1.out.trans (HB2.out.mono HB1.out.size)) HXb.out (Nat.le_refl _))
        have HS2 : Hid (w.heap.size + 1 ≤ w2.heap.size) := Lib.hid (by have h1 := HB2.out.size; rw [HS1.out] at h1; have h2 := HXb.out.2.2.2.1; omega)
        have HK2 : Hid (WAt w2 4 ks) := Lib.hid ((HK1.out.below HB2.out (by rw [HS1.out]; omega)).but HXb.out (by omega))
        have HV2 : Hid (HIn w2 v2 rt) := Lib.hid (HQ1.out w2 (HV0.out.below HBW2.out))
        go_wp2_with fail
        refine (HR.out v2 w2 HV2.out HK2.out).mono ?_
        rintro e wf ⟨⟨v1, v3, rfl, ho1, hr1⟩, hb3'⟩
        have HP : Hid (HOwn wf (w.heap.size + 1) v1 ps) := Lib.hid (ho1.mono HS2.out)
        have HRS : Hid (∀ w0, HIn w0 v hs → HIn w0 v3 rs) := Lib.hid (fun w0 h0 => hr1 w0 (HQ1.out w0 h0))
        have HBF : Hid (Below w.heap.size w wf) := Lib.hid (bl_step HBW2.out hb3' (Nat.le_refl _))
        have HXR : Hid (BAt wf w.heap.size 54 x) := Lib.hid (HX2.out.below hb3' (by have := HS2.out; omega))
        have HSF : Hid (w.heap.size + 1 ≤ wf.heap.size) := Lib.hid (by have := hb3'.size; have := HS2.out; omega)
        clear ho1 hr1 hb3'
        have hHNC : ps.length ≤ 100 := HPL.out
        clear hz
        have HXI := Lib.hid (info_hcs HXL.out)
        have hfold := fold32h x HXL.out
        have hxl' : (hcs x).length = 32 := by rw [hcs_len, HXL.out]
        have hszf : w.heap.size + 1 ≤ wf.heap.size := HSF.out
        go_wp2_with (first
          | (refine wpList_load_mid rfl 54 (.tmp 13) rfl w.heap.size 0 rfl (hcs x) _ (b_range HXR.out) Tryd.underlying54 rfl HXI.out ?_)
          | (at_builtin; (refine wpList_append_own_wide _ rfl (.tmp 93) (.tmp 95) 56 rfl (w.heap.size + 1) 54 i0 _ 32 32 Tryd.underlying56 HI0.out HZ0.out HZ1.out HZ2.out zh_cells (by omega) _ ps.length (ps.flatMap hcs) rfl (World.ownsRow.alloc HP.out.2 _) ⟨wf.heap.size, 0, none⟩ 1 1 (hcs x) rfl (by rw [hcs_len, HXL.out]) (hash_src _ _ _) (hcs_one x) (by unfold maxLen; omega) (by omega) (by simp; omega) ?_); intro v9 w9 hown9 hgrow9 hnil9; have HO9 := Lib.hid hown9; have HG9 := Lib.hid hgrow9; clear hown9 hgrow9 hnil9))
        clear hfold hxl'
        go_ret2
        have hb9 : Below w.heap.size w w9 := (HBF.out.alloc HBF.out.size _).grown HG9.out (by have := HBF.out.size; simp; omega) (fun j hj => by have := (HP.out.2.lt j hj).1; omega)
        refine ⟨⟨_, _, rfl, ?_, ?_⟩, hb9⟩
        · rw [HI.out]
          exact (HOwn.snoc HP.out.1 HXL.out HO9.out).mono (by omega)
        · rw [HI.out]
          exact HRS.out

end Go.Proofs.YtokopcbmpnnkcaaDoor
