/- The contract of the reference's MajorMinorOf and the walk of FnExactMajorMinorOf. Condition: the text is no longer than 2 to the power of 20. -/
import Derived.Test.YtfplalgihajbnaaSpec8
import Derived.Test.YtfplalgihajbnaaSemWalks8
namespace Go.Proofs.Ytfplalgihajbnaa
open Go.RowKit
attribute [local go_sem] app_str

theorem three_nums {l : List UInt8} {v : Sem.Ver} (h : Sem.parse l = some v) : three (Sem.numsOf v) = [v.major, v.minor, v.patch] := by
  obtain ⟨_, _, _, hg⟩ := (Sem.parse_iff.1 h).1
  unfold three Sem.numsOf
  rcases hg with ⟨e, _⟩ | ⟨e, e2, _⟩ | ⟨e, e1, e2, _⟩
  · simp [e]
  · simp [e, e2]
  · simp [e, e1, e2]

set_option maxHeartbeats 400000 in
theorem spec_MajorMinorOf (l : List UInt8) (w : World) (hl : l.length ≤ 1048576) :
    Calls Try.prog 20 #[str l] w fun e w' => e = .returned (str (Sem.majorMinor l)) ∧ Below w.heap.size w w' := by
  go_enter Try.func20, Try.ntmps20
  go_wp2_with fail
  refine (parseVersion_any l w hl).mono ?_
  rintro e w1 ⟨hr, hb⟩
  have hsz := hb.size
  rcases hr.read with ⟨A1, A2, A3, n1, n2, n3, c1, c2, c3, v, hv, rfl, h1, h2, h3⟩ | ⟨hv, rfl⟩
  · have HV := Lib.hid (Sem.majorMinor_text hv)
    have HT := Lib.hid (three_nums hv)
    have HP := Lib.hid (part_len hv)
    clear hr hv
    go_wp2_with fail
    refine (veThree_any _ _ _ (Sem.numsOf v) _ (h1.alloc _) (nums_pos v)).mono ?_
    rintro e w2 ⟨⟨x, rfl, hx, -⟩, hb2⟩
    rw [HT.out] at hx
    have hb3 : Below w.heap.size w w2 := (bl_alloc hb hsz _).trans (hb2.mono (by simp; omega))
    obtain ⟨A, c, rfl, hc, hm, hx⟩ := hx
    have hx2 : StrsAt w2 (.slice A 2 c) [v.major, v.minor] := by
      refine ⟨A, c, rfl, by simp at hc ⊢; omega, hm, .inr ?_⟩
      rcases hx with hx | ⟨b, off, hA, hlt, hcell⟩
      · cases hx
      · refine ⟨b, off, hA, hlt, fun k u hu => hcell k u ?_⟩
        match k, hu with
        | 0, hu => exact hu
        | 1, hu => exact hu
    have hl3 : [v.major, v.minor, v.patch].length = 3 := rfl
    rw [hl3] at hc ⊢
    have HJ := Lib.hid (veJoin_any _ _ [46] w2 hx2 (by simp) (by have := HP.out; simp; omega))
    have hlen := Sem.joinBy_len [46] [v.major, v.minor] (n := 1) (by simp)
    have hlj : (Sem.joinBy [46] [v.major, v.minor]).length ≤ 1152921504606846976 := by have := HP.out; simp at hlen; omega
    have HE : Hid (Sem.majorMinor l = 118 :: Sem.joinBy [46] [v.major, v.minor]) := Lib.hid (by rw [HV.out]; simp [Sem.joinBy])
    clear hx hx2 hlen hl3 h1 h2 h3 hb2
    generalize Sem.joinBy [46] [v.major, v.minor] = J at *
    go_wp2_with fail
    refine HJ.out.mono ?_
    rintro e w3 ⟨rfl, rfl⟩
    go_wp2
    go_ret
    exact ⟨ret_str HE.out.symm, hb3⟩
  · have HV : Hid (Sem.majorMinor l = []) := Lib.hid (by unfold Sem.majorMinor; rw [hv])
    clear hr hv
    go_wp2
    go_ret
    exact ⟨ret_str HV.out.symm, by (repeat (first | assumption | (refine bl_set ?_ hsz _) | (refine bl_alloc ?_ hsz _)))⟩

set_option maxHeartbeats 400000 in
theorem walk_FnExactMajorMinorOf (s0 : ByteArray) (w : World) (b0 : s0.size ≤ 140737488351232) :
    Calls Try.prog 7 #[.string s0] w fun e w' => e = .returned (.bool true) ∧ Below w.heap.size w w' := by
  rw [← len_of] at b0
  rw [str_of]
  generalize s0.data.toList = l at *
  by_cases hs : l.length ≤ 1048576
  · go_enter Try.func7, Try.ntmps7
    go_wp2_with fail
    refine (spec_MajorMinorOf l w hs).mono ?_
    rintro e w1 ⟨rfl, hb⟩
    go_wp2_with fail
    refine (impl_MajorMinorOf l w1 (by omega)).mono ?_
    rintro e w2 ⟨rfl, hb2⟩
    go_wp2
    go_ret
    exact ⟨rfl, hb.trans (hb2.mono hb.size)⟩
  · go_enter Try.func7, Try.ntmps7
    go_wp2
    go_ret
    exact ⟨rfl, Below.refl _ _⟩

end Go.Proofs.Ytfplalgihajbnaa
