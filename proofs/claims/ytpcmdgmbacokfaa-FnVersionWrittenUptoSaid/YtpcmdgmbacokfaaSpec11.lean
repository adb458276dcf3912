/- The contract of the reference's CanonicalVersion and the walk of FnExactCanonicalVersion. Condition: the text is no longer than 2 to the power of 20. -/
import Derived.Test.YtpcmdgmbacokfaaSpec10
import Derived.Deep.RegionWith
namespace Go.Proofs.Ytpcmdgmbacokfaa
open Go.RowKit
attribute [local go_sem] app_str

theorem canon_parts {l : List UInt8} {v : Sem.Ver} (h : Sem.parse l = some v) : Sem.canonical l = 118 :: (Sem.joinBy [46] [v.major, v.minor, v.patch] ++ tailText [45] (Sem.partsOf v.pre)) := by
  rw [Sem.canon_text h, pre_form h]
  simp [Sem.joinBy]

theorem StrsAt.drew {w : World} {v : Value} {xs : List (List UInt8)} (h : StrsAt w v xs) : StrsAt w.drew v xs := h

set_option maxHeartbeats 1000000 in
theorem spec_CanonicalVersion (l : List UInt8) (w : World) (hl : l.length ≤ 1048576) :
    Calls Try.prog 16 #[str l] w fun e w' => e = .returned (str (Sem.canonical l)) ∧ Below w.heap.size w w' := by
  go_enter Try.func16, Try.ntmps16
  go_wp2_with fail
  refine (parseVersion_any l w hl).mono ?_
  rintro e w1 ⟨hr, hb⟩
  have hsz := hb.size
  rcases hr.read with ⟨A1, A2, A3, n1, n2, n3, c1, c2, c3, v, hv, rfl, h1, h2, h3⟩ | ⟨hv, rfl⟩
  · have HV := Lib.hid (canon_parts hv)
    have HT := Lib.hid (three_nums hv)
    have HP := Lib.hid (part_len hv)
    have HN := Lib.hid (nums_pos v)
    have HS := Lib.hid (parts_sum v.pre)
    clear hr hv h3
    have hlj : (Sem.joinBy [46] [v.major, v.minor, v.patch]).length ≤ 4194304 := by
      have := HP.out
      have := Sem.joinBy_len [46] [v.major, v.minor, v.patch] (n := 1) (by simp)
      simp at this; omega
    have hlt : (tailText [45] (Sem.partsOf v.pre)).length ≤ 4194304 := by
      have := HP.out
      have h2 := HS.out
      have := Sem.joinBy_len [46] (Sem.partsOf v.pre) (n := 1) (by simp)
      unfold tailText
      split
      · simp
      · simp; omega
    have H1 := Lib.hid h1
    have H2 := Lib.hid h2
    have HB := Lib.hid hb
    clear h1 h2 hb
    have HTH : Hid (Calls Try.prog 42 #[.agg #[.slice A1 n1 c1, .slice A2 n2 c2, .slice A3 n3 c3]] (w1.alloc (Obj.cells #[.slice A1 n1 c1, .slice A2 n2 c2, .slice A3 n3 c3] 40)).drew fun e w2 =>
        ∃ x, e = .returned x ∧ Hid (StrsAt w2 x [v.major, v.minor, v.patch]) ∧ w2.cell? ⟨w1.heap.size, 1, none⟩ = some (.slice A2 n2 c2) ∧ Hid (Below w.heap.size w w2) ∧ Hid (StrsAt w2 (.slice A2 n2 c2) (Sem.partsOf v.pre))) := Lib.hid (by
      refine (veThree_any _ _ _ (Sem.numsOf v) _ (H1.out.alloc _).drew HN.out).mono ?_
      rintro e w2 ⟨⟨x, rfl, hx, -⟩, hb2⟩
      rw [HT.out] at hx
      refine ⟨x, rfl, Lib.hid hx, ?_, Lib.hid ((bl_drew (bl_alloc HB.out hsz _)).trans (hb2.mono (by simp; omega))), Lib.hid ((H2.out.alloc _).drew.below hb2)⟩
      rw [hb2.cell (p := ⟨w1.heap.size, 1, none⟩) (by simp)]
      exact cell_of_row (w1.alloc _) _ _ _ 40 (0, 0) (heap_alloc_new w1 _))
    go_wp2_with fail
    go_region_with (first
      | (go_at_call 42
         refine HTH.out.mono ?_
         rintro e w2 ⟨x, rfl, HX, hcell2, hB2, H2'⟩)
      | (go_at_call 41
         refine (veJoin_any _ [v.major, v.minor, v.patch] [46] _ ?_ (by simp) (by have := HP.out; simp; omega)).mono ?_
         exact HX.out
         rintro e w' ⟨rfl, rfl⟩)
      | (go_at_call 43
         refine (veTail_any [45] _ (Sem.partsOf v.pre) _ ?_ (by simp) (Nat.le_trans HS.out (by have := HP.out; omega))).mono ?_
         exact H2'.out
         rintro e w' ⟨rfl, rfl⟩))
    all_goals
      generalize Sem.joinBy [46] [v.major, v.minor, v.patch] = J at *
      generalize tailText [45] (Sem.partsOf v.pre) = T at *
      go_wp2
      go_ret
      exact ⟨ret_str HV.out.symm, hB2.out⟩
  · have HV : Hid (Sem.canonical l = []) := Lib.hid (Sem.canon_none hv)
    clear hr hv
    go_wp2
    go_ret
    exact ⟨ret_str HV.out.symm, by (repeat (first | assumption | (refine bl_set ?_ hsz _) | (refine bl_alloc ?_ hsz _)))⟩

set_option maxHeartbeats 400000 in
theorem walk_FnExactCanonicalVersion (s0 : ByteArray) (w : World) (b0 : s0.size ≤ 140737488351232) :
    Calls Try.prog 3 #[.string s0] w fun e w' => e = .returned (.bool true) ∧ Below w.heap.size w w' := by
  rw [← len_of] at b0
  rw [str_of]
  generalize s0.data.toList = l at *
  by_cases hs : l.length ≤ 1048576
  · go_enter Try.func3, Try.ntmps3
    go_wp2_with fail
    refine (spec_CanonicalVersion l w hs).mono ?_
    rintro e w1 ⟨rfl, hb⟩
    go_wp2_with fail
    refine (impl_CanonicalVersion l w1 (by omega)).mono ?_
    rintro e w2 ⟨rfl, hb2⟩
    go_wp2
    go_ret
    exact ⟨rfl, hb.trans (hb2.mono hb.size)⟩
  · go_enter Try.func3, Try.ntmps3
    go_wp2
    go_ret
    exact ⟨rfl, Below.refl _ _⟩

end Go.Proofs.Ytpcmdgmbacokfaa
