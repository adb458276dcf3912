/- The contract of the reference's CanonicalVersion and the walk of FnExactCanonicalVersion. Condition: the text is no longer than 2 to the power of 20. -/
import Derived.Test.YtienkoadkhcghaaSpec10
import Derived.Deep.RegionWith
namespace Go.Proofs.Ytienkoadkhcghaa
open Go.RowKit
attribute [local go_sem] app_str

theorem canon_parts {l : List UInt8} {v : Sem.Ver} (h : Sem.parse l = some v) : Sem.canonical l = 118 :: (Sem.joinBy [46] [v.major, v.minor, v.patch] ++ tailText [45] (Sem.partsOf v.pre)) := by
  rw [Sem.canon_text h, pre_form h]
  simp [Sem.joinBy]

theorem StrsAt.drew {w : World} {v : Value} {xs : List (List UInt8)} (h : StrsAt w v xs) : StrsAt w.drew v xs := h



end Go.Proofs.Ytienkoadkhcghaa
