/- The contract of the reference's MajorMinorOf and the walk of FnExactMajorMinorOf. Condition: the text is no longer than 2 to the power of 20. -/
import Derived.Test.YtienkoadkhcghaaSpec8
import Derived.Test.YtienkoadkhcghaaSemWalks8
namespace Go.Proofs.Ytienkoadkhcghaa
open Go.RowKit
attribute [local go_sem] app_str

theorem three_nums {l : List UInt8} {v : Sem.Ver} (h : Sem.parse l = some v) : three (Sem.numsOf v) = [v.major, v.minor, v.patch] := by
  obtain ⟨_, _, _, hg⟩ := (Sem.parse_iff.1 h).1
  unfold three Sem.numsOf
  rcases hg with ⟨e, _⟩ | ⟨e, e2, _⟩ | ⟨e, e1, e2, _⟩
  · simp [e]
  · simp [e, e2]
  · simp [e, e1, e2]



end Go.Proofs.Ytienkoadkhcghaa
