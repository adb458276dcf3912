/- The contract of the reference's MajorOf and the walk of FnExactMajorOf. Condition: the text is no longer than 2 to the power of 20. -/
import Derived.Test.YtienkoadkhcghaaSpec6
namespace Go.Proofs.Ytienkoadkhcghaa
open Go.RowKit
attribute [local go_sem] app_str

theorem nums_head (v : Sem.Ver) : (Sem.numsOf v)[0]? = some v.major := by
  unfold Sem.numsOf
  split
  · rfl
  · split <;> rfl
theorem nums_pos (v : Sem.Ver) : 1 ≤ (Sem.numsOf v).length ∧ (Sem.numsOf v).length ≤ 3 := by
  unfold Sem.numsOf
  split
  · simp
  · split <;> simp
theorem major_form {l : List UInt8} {v : Sem.Ver} (h : Sem.parse l = some v) : Sem.majorOf l = 118 :: v.major := by
  unfold Sem.majorOf
  rw [h]
  obtain ⟨hg, rfl⟩ := Sem.parse_iff.1 h
  unfold Sem.textOf
  simp only
  rw [show 1 + v.major.length = v.major.length + 1 by omega, List.take_succ_cons, List.take_left]



end Go.Proofs.Ytienkoadkhcghaa
