/- The walks of FnRecordShort, FnTreeShort and FnTreeStored: they return true at every input, whatever words the table of SHA-256 holds. Condition: impl.errMissing holds an error. -/
import Derived.Test.YtlmcoaidngnomaaDoorT14
import Derived.Test.YtlmcoaidngnomaaDoorRec
namespace Go.Proofs.YtlmcoaidngnomaaDoor
open Go.RowKit
set_option linter.unusedVariables false

set_option maxHeartbeats 1000000 in
set_option maxRecDepth 20000 in
theorem walk_FnRecordShort (t n : Int) (v2 : Value) (ls : List (List Int)) (w : World) (_ : (Lit.int .i64 t).wf = true) (_ : (Lit.int .i64 n).wf = true)
    (h2 : (RowsIn w v2 ls ∧ OctR ls) ∧ (ls.length ≤ 5864062014634 ∧ ∀ l ∈ ls, l.length ≤ 140737488351232)) (hL : laidMetH Tryd.prog Rows.fnRecordShortRow.laid w) (hsh : w.ShapedOpen Tryd.prog) :
    Calls Tryd.prog 10 #[.int .i64 t, .int .i64 n, v2] w fun e w' => e = .returned (.bool true) ∧ Below w.heap.size w w' := by
  rw [MakeChecks.laidMetH_plain _ _ _ (by kernel_rfl)] at hL
  obtain ⟨E0t, E0a, hE, hE0⟩ := missing_of rfl hL
  obtain ⟨ks, hK⟩ := table_of hsh
  have hk0 : 4 < w.heap.size := (Array.getElem?_eq_some_iff.1 hK.2.2).1
  have HW := Lib.hid (fun (p : BW w) => trWorks_any ks p.val (hK.below p.bel hk0))
  have ht := rem_lt t 1099511627776 (by omega)
  have HTE := Lib.hid (rem_eq t 1099511627776 (by omega))
  obtain ⟨T, hT⟩ : ∃ T, T = rem t 1099511627776 := ⟨_, rfl⟩
  rw [← hT] at ht HTE
  have HP := Lib.hid (implProveRecord_any ks ls t n T v2 E0t E0a w HTE.out h2.1.1 hK hE hE0)
  have hone : ∀ ps, pfRec ks ls T n = some ps → 1 ≤ T := fun ps h => by
    unfold pfRec at h
    split at h
    · omega
    · cases h
  have hlen : ∀ ps, pfRec ks ls T n = some ps → ps.length ≤ Tr.bits (T - 1) := fun ps h => pfRec_len (Tr.le_bits (hone ps h)) h
  generalize pfRec ks ls T n = r at *
  have HSZ := Lib.hid (fun w => spec_Size t w)
  rw [HTE.out] at HSZ
  clear h2 hL hsh hK hE hT
  cases hr : r with
  | none =>
    subst hr
    go_enter Tryd.func10, Tryd.ntmps10
    go_wp2_with fail
    refine HP.out.mono ?_
    rintro e w1 ⟨⟨v1, rfl, A1, rfl⟩, hb1⟩
    have HB1 := Lib.hid hb1
    clear hb1
    go_wp2_with fail
    refine (HW.out ⟨w1, HB1.out⟩).mono ?_
    rintro e w2 ⟨rfl, hb2⟩
    have HB2 : Hid (Below w.heap.size w w2) := Lib.hid (bl_step HB1.out hb2 (Nat.le_refl _))
    clear hb2
    go_wp2_with fail
    go_ret
    exact ⟨rfl, HB2.out⟩
  | some ps =>
    subst hr
    have HT1 := Lib.hid (hone ps rfl)
    have hlen2 : ps.length ≤ Tr.bits (T - 1) := hlen ps rfl
    have hT1 := HT1.out
    have hbb := Tr.bits_le (n := T - 1) (k := 41) (by omega)
    have HBT := Lib.hid (fun w => trBits (T - 1) w (by omega))
    have hc1 : ((T : Int) - 1) = ((T - 1 : Nat) : Int) := by omega
    generalize Tr.bits (T - 1) = m at *
    have hd : decide ((ps.length : Int) ≤ (m : Int)) = true := by simp; omega
    clear hlen hone
    go_enter Tryd.func10, Tryd.ntmps10
    go_wp2_with fail
    refine HP.out.mono ?_
    rintro e w1 ⟨⟨v1, rfl, us, ho1⟩, hb1⟩
    have HB1 := Lib.hid hb1
    obtain ⟨A1, c1, rfl⟩ := ho1.in_.form
    clear hb1 ho1
    go_wp2_with fail
    refine (HSZ.out _).mono ?_
    rintro e w' ⟨rfl, rfl⟩
    go_wp2_with fail
    refine (HBT.out _).mono ?_
    rintro e w' ⟨rfl, rfl⟩
    go_wp2_with fail
    refine (HW.out ⟨w1, HB1.out⟩).mono ?_
    rintro e w2 ⟨rfl, hb2⟩
    have HB2 : Hid (Below w.heap.size w w2) := Lib.hid (bl_step HB1.out hb2 (Nat.le_refl _))
    clear hb2
    go_wp2_with fail
    go_ret
    exact ⟨rfl, HB2.out⟩
set_option maxHeartbeats 1000000 in
set_option maxRecDepth 20000 in
theorem walk_FnTreeShort (t n : Int) (v2 : Value) (ls : List (List Int)) (w : World) (_ : (Lit.int .i64 t).wf = true) (_ : (Lit.int .i64 n).wf = true)
    (h2 : (RowsIn w v2 ls ∧ OctR ls) ∧ (ls.length ≤ 5864062014634 ∧ ∀ l ∈ ls, l.length ≤ 140737488351232)) (hL : laidMetH Tryd.prog Rows.fnTreeShortRow.laid w) (hsh : w.ShapedOpen Tryd.prog) :
    Calls Tryd.prog 11 #[.int .i64 t, .int .i64 n, v2] w fun e w' => e = .returned (.bool true) ∧ Below w.heap.size w w' := by
  rw [MakeChecks.laidMetH_plain _ _ _ (by kernel_rfl)] at hL
  obtain ⟨E0t, E0a, hE, hE0⟩ := missing_of rfl hL
  obtain ⟨ks, hK⟩ := table_of hsh
  have hk0 : 4 < w.heap.size := (Array.getElem?_eq_some_iff.1 hK.2.2).1
  have HW := Lib.hid (fun (p : BW w) => trWorks_any ks p.val (hK.below p.bel hk0))
  have ht := rem_lt t 1099511627776 (by omega)
  have HTE := Lib.hid (rem_eq t 1099511627776 (by omega))
  obtain ⟨T, hT⟩ : ∃ T, T = rem t 1099511627776 := ⟨_, rfl⟩
  rw [← hT] at ht HTE
  have HP := Lib.hid (implProveTree_any ks ls t n T v2 E0t E0a w HTE.out h2.1.1 hK hE hE0)
  have hone : ∀ ps, pfTree ks ls T n = some ps → 1 ≤ T := fun ps h => by
    unfold pfTree at h
    split at h
    · omega
    · cases h
  have hlen : ∀ ps, pfTree ks ls T n = some ps → ps.length ≤ Tr.bits (T - 1) + 1 := fun ps h => pfTree_len (Tr.le_bits (hone ps h)) h
  generalize pfTree ks ls T n = r at *
  have HSZ := Lib.hid (fun w => spec_Size t w)
  rw [HTE.out] at HSZ
  clear h2 hL hsh hK hE hT
  cases hr : r with
  | none =>
    subst hr
    go_enter Tryd.func11, Tryd.ntmps11
    go_wp2_with fail
    refine HP.out.mono ?_
    rintro e w1 ⟨⟨v1, rfl, A1, rfl⟩, hb1⟩
    have HB1 := Lib.hid hb1
    clear hb1
    go_wp2_with fail
    refine (HW.out ⟨w1, HB1.out⟩).mono ?_
    rintro e w2 ⟨rfl, hb2⟩
    have HB2 : Hid (Below w.heap.size w w2) := Lib.hid (bl_step HB1.out hb2 (Nat.le_refl _))
    clear hb2
    go_wp2_with fail
    go_ret
    exact ⟨rfl, HB2.out⟩
  | some ps =>
    subst hr
    have HT1 := Lib.hid (hone ps rfl)
    have hlen2 : ps.length ≤ Tr.bits (T - 1) + 1 := hlen ps rfl
    have hT1 := HT1.out
    have hbb := Tr.bits_le (n := T - 1) (k := 41) (by omega)
    have HBT := Lib.hid (fun w => trBits (T - 1) w (by omega))
    have hc1 : ((T : Int) - 1) = ((T - 1 : Nat) : Int) := by omega
    generalize Tr.bits (T - 1) = m at *
    have hd : decide ((ps.length : Int) ≤ (m : Int) + 1) = true := by simp; omega
    clear hlen hone
    go_enter Tryd.func11, Tryd.ntmps11
    go_wp2_with fail
    refine HP.out.mono ?_
    rintro e w1 ⟨⟨v1, rfl, us, ho1⟩, hb1⟩
    have HB1 := Lib.hid hb1
    obtain ⟨A1, c1, rfl⟩ := ho1.in_.form
    clear hb1 ho1
    go_wp2_with fail
    refine (HSZ.out _).mono ?_
    rintro e w' ⟨rfl, rfl⟩
    go_wp2_with fail
    refine (HBT.out _).mono ?_
    rintro e w' ⟨rfl, rfl⟩
    go_wp2_with fail
    refine (HW.out ⟨w1, HB1.out⟩).mono ?_
    rintro e w2 ⟨rfl, hb2⟩
    have HB2 : Hid (Below w.heap.size w w2) := Lib.hid (bl_step HB1.out hb2 (Nat.le_refl _))
    clear hb2
    go_wp2_with fail
    go_ret
    exact ⟨rfl, HB2.out⟩
set_option maxHeartbeats 1000000 in
set_option maxRecDepth 20000 in
theorem walk_FnTreeStored (a : Int) (v1 : Value) (ls : List (List Int)) (w : World) (_ : (Lit.int .i64 a).wf = true)
    (h1 : (RowsIn w v1 ls ∧ OctR ls) ∧ (ls.length ≤ 5864062014634 ∧ ∀ l ∈ ls, l.length ≤ 140737488351232)) (hL : laidMetH Tryd.prog Rows.fnTreeStoredRow.laid w) (hsh : w.ShapedOpen Tryd.prog) :
    Calls Tryd.prog 8 #[.int .i64 a, v1] w fun e w' => e = .returned (.bool true) ∧ Below w.heap.size w w' := by
  rw [MakeChecks.laidMetH_plain _ _ _ (by kernel_rfl)] at hL
  obtain ⟨E0t, E0a, hE, hE0⟩ := missing_of rfl hL.tail
  obtain ⟨ks, hK⟩ := table_of hsh
  have hk0 : 4 < w.heap.size := (Array.getElem?_eq_some_iff.1 hK.2.2).1
  have HW := Lib.hid (fun (p : BW w) => trWorks_any ks p.val (hK.below p.bel hk0))
  have ha := rem_lt a 12 (by omega)
  have HA := Lib.hid (rem_eq a 12 (by omega))
  generalize rem a 12 = l at *
  have hp := pow_small (j := l) (by omega)
  have hp0 := Tr.two_pos l
  have hp12 : 2 ^ l ≤ 2048 := Nat.le_trans (Nat.pow_le_pow_right (by omega) (show l ≤ 11 by omega)) (by decide)
  have hsh1 : wrap64 ((2 : Int) ^ l) = ((2 ^ l : Nat) : Int) := by rw [wrap64_pow (by omega), pow_int]
  have HT := Lib.hid (implTreeHash_any ks ls ((2 ^ l : Nat) : Int) (2 ^ l) v1 E0t E0a w (by omega) (by omega) h1.1.1 hK hE hE0)
  have HI := Lib.hid (fun w => impl_StoredIndex l 0 w)
  rw [rem_self l 31 (by omega), show rem (0 : Int) 1073741824 = 0 from rem_self 0 _ (by omega)] at HI
  have hidx : Idx.idx l 0 ≤ 4096 := by
    have := (Idx.idx_lt_count (l := l) (n := 0) (m := 2 ^ l)).2 (by simp)
    have := Idx.wh_le (2 ^ l)
    omega
  have HTH : Hid (treeH ks ls (2 ^ l) = (rd ls [Idx.idx l 0]).map (Tr.fold1 (nhK ks))) := Lib.hid (by unfold treeH; rw [Tr.parts_pow]; rfl)
  have HV := Lib.hid h1.1.1
  obtain ⟨P, hP⟩ : ∃ P : Nat, P = 2 ^ l := ⟨_, rfl⟩
  rw [← hP] at hsh1 HT HTH
  generalize Idx.idx l 0 = i at *
  clear h1 hL hsh hK hE hP hp hp0 hp12
  by_cases hil : i < ls.length
  · have hR : treeH ks ls P = some (h32 ls[i]) := by
      rw [HTH.out, rd_cons _ (List.getElem?_eq_getElem hil)]; rfl
    rw [hR] at HT
    obtain ⟨A, c, rfl, hc1, hc2, hc3⟩ := HV.out
    obtain ⟨b, off, rfl, hblt, hcell⟩ := hc3.resolve_left (by omega)
    obtain ⟨u, hu, hui⟩ := hcell i ls[i] (List.getElem?_eq_getElem hil)
    have HU := Lib.hid hu
    have HH := Lib.hid (fun w' (hb : Below w.heap.size w w') => spec_Hash32 ls[i] u w' (hui.below hb))
    have HL := Lib.hid (h32_len ls[i])
    generalize h32 ls[i] = x at *
    have hb1 : decide ((ls.length : Int) ≤ (i : Int)) = false := by simp; omega
    clear hcell hu hui hc3 hR
    go_enter Tryd.func8, Tryd.ntmps8
    go_wp2_with fail
    refine (spec_At a 12 _ (by omega) (by omega)).mono ?_
    rintro e w' ⟨rfl, rfl⟩
    rw [HA.out]
    go_wp2_with fail
    refine HT.out.mono ?_
    rintro e w1 ⟨⟨v1, rfl, hv1⟩, hbb1⟩
    have HB1 := Lib.hid hbb1
    have HV1 : Hid (BIn w1 v1 x) := Lib.hid hv1.in_
    clear hbb1 hv1
    go_wp2_with fail
    refine (HI.out _).mono ?_
    rintro e w' ⟨rfl, rfl⟩
    have cu : w1.cell? ⟨b, off + i, none⟩ = some u := (HB1.out.cell (p := ⟨b, off + i, none⟩) hblt).trans HU.out
    go_wp2_with fail
    refine (HH.out w1 HB1.out).mono ?_
    rintro e w2 ⟨⟨rfl, hp2⟩, hb2⟩
    have HP2 : Hid (BIn w2 (.slice (some ⟨w1.heap.size, 0, none⟩) 32 32) x) := Lib.hid (bat_in hp2 HL.out)
    have HV2 : Hid (BIn w2 v1 x) := Lib.hid (HV1.out.below hb2)
    have HB2 : Hid (Below w.heap.size w w2) := Lib.hid (bl_step HB1.out hb2 (Nat.le_refl _))
    clear hb2 hp2 cu
    go_wp2_with fail
    refine (bytesEqual_same x x _ _ w2 HV2.out HP2.out rfl).mono ?_
    rintro e w' ⟨rfl, rfl⟩
    go_wp2_with fail
    go_ret
    exact ⟨rfl, HB2.out⟩
  · have hR : treeH ks ls P = none := by
      rw [HTH.out, rd_cons_none _ (List.getElem?_eq_none (by omega))]; rfl
    rw [hR] at HT
    obtain ⟨A, c, rfl, hc1, hc2, hc3⟩ := HV.out
    have hb1 : decide ((ls.length : Int) ≤ (i : Int)) = true := by simp; omega
    clear hc3 hR
    go_enter Tryd.func8, Tryd.ntmps8
    go_wp2_with fail
    refine (spec_At a 12 _ (by omega) (by omega)).mono ?_
    rintro e w' ⟨rfl, rfl⟩
    rw [HA.out]
    go_wp2_with fail
    refine HT.out.mono ?_
    rintro e w1 ⟨⟨v1, rfl, hv1⟩, hbb1⟩
    have HB1 := Lib.hid hbb1
    clear hbb1 hv1
    go_wp2_with fail
    refine (HI.out _).mono ?_
    rintro e w' ⟨rfl, rfl⟩
    go_wp2_with fail
    refine (HW.out ⟨w1, HB1.out⟩).mono ?_
    rintro e w2 ⟨rfl, hb2⟩
    have HB2 : Hid (Below w.heap.size w w2) := Lib.hid (bl_step HB1.out hb2 (Nat.le_refl _))
    clear hb2
    go_wp2_with fail
    go_ret
    exact ⟨rfl, HB2.out⟩

end Go.Proofs.YtlmcoaidngnomaaDoor
