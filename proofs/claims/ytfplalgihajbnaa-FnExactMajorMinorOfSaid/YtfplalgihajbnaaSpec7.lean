/- The contract of the reference's MajorOf and the walk of FnExactMajorOf. Condition: the text is no longer than 2 to the power of 20. -/
import Derived.Test.YtfplalgihajbnaaSpec6
namespace Go.Proofs.Ytfplalgihajbnaa
open Go.RowKit
attribute [local go_sem] app_str

theorem nums_head (v : Sem.Ver) : (Sem.numsOf v)[0]? = some v.major := by
  unfold Sem.numsOf
  split
  · rfl
  · split <;> rfl
theorem nums_pos (v : Sem.Ver) : 1 ≤ (Sem.numsOf v).length ∧ (Sem.numsOf v).length ≤ 3 := by
  unfold Sem.numsOf
  split
  · simp
  · split <;> simp
theorem major_form {l : List UInt8} {v : Sem.Ver} (h : Sem.parse l = some v) : Sem.majorOf l = 118 :: v.major := by
  unfold Sem.majorOf
  rw [h]
  obtain ⟨hg, rfl⟩ := Sem.parse_iff.1 h
  unfold Sem.textOf
  simp only
  rw [show 1 + v.major.length = v.major.length + 1 by omega, List.take_succ_cons, List.take_left]

set_option maxHeartbeats 400000 in
theorem spec_MajorOf (l : List UInt8) (w : World) (hl : l.length ≤ 1048576) :
    Calls Try.prog 16 #[str l] w fun e w' => e = .returned (str (Sem.majorOf l)) ∧ Below w.heap.size w w' := by
  go_enter Try.func16, Try.ntmps16
  go_wp2_with fail
  refine (parseVersion_any l w hl).mono ?_
  rintro e w1 ⟨hr, hb⟩
  have hsz := hb.size
  rcases hr.read with ⟨A1, A2, A3, n1, n2, n3, c1, c2, c3, v, hv, rfl, h1, h2, h3⟩ | ⟨hv, rfl⟩
  · have HV := Lib.hid (major_form hv)
    have hp := (part_len hv).2.2.1
    obtain ⟨A, c, hA, hc, hm, h1⟩ := h1
    have hn := nums_pos v
    rcases h1 with h1 | ⟨b, off, hA', hlt, hcell⟩
    · rw [h1] at hn; simp at hn
    · have hx := hcell 0 _ (nums_head v)
      rw [Nat.add_zero] at hx
      cases hA
      subst hA'
      clear hr hv h2 h3 hcell
      generalize (Sem.numsOf v).length = n at *
      generalize v.major = x at *
      go_wp2
      go_ret
      exact ⟨ret_str HV.out.symm, by (repeat (first | assumption | (refine bl_set ?_ hsz _) | (refine bl_alloc ?_ hsz _)))⟩
  · have HV : Hid (Sem.majorOf l = []) := Lib.hid (by unfold Sem.majorOf; rw [hv])
    clear hr hv
    go_wp2
    go_ret
    exact ⟨ret_str HV.out.symm, by (repeat (first | assumption | (refine bl_set ?_ hsz _) | (refine bl_alloc ?_ hsz _)))⟩

set_option maxHeartbeats 400000 in
theorem walk_FnExactMajorOf (s0 : ByteArray) (w : World) (b0 : s0.size ≤ 140737488351232) :
    Calls Try.prog 5 #[.string s0] w fun e w' => e = .returned (.bool true) ∧ Below w.heap.size w w' := by
  rw [← len_of] at b0
  rw [str_of]
  generalize s0.data.toList = l at *
  by_cases hs : l.length ≤ 1048576
  · go_enter Try.func5, Try.ntmps5
    go_wp2_with fail
    refine (spec_MajorOf l w hs).mono ?_
    rintro e w1 ⟨rfl, hb⟩
    go_wp2_with fail
    refine (impl_MajorOf l w1 (by omega)).mono ?_
    rintro e w2 ⟨rfl, hb2⟩
    go_wp2
    go_ret
    exact ⟨rfl, hb.trans (hb2.mono hb.size)⟩
  · go_enter Try.func5, Try.ntmps5
    go_wp2
    go_ret
    exact ⟨rfl, Below.refl _ _⟩

end Go.Proofs.Ytfplalgihajbnaa
