/- Contracts of semver.Major, MajorMinor, Prerelease, Build, Max, compareVersion and of the thin package's functions over them: what each returns, as the plain functions of Sem tell. Condition: the texts are no longer than 2 to the power of 49. -/
import Derived.Test.YtienkoadkhcghaaSemWalks6
namespace Go.Proofs.Ytienkoadkhcghaa
open Go.RowKit







set_option maxHeartbeats 400000 in
theorem impl_CanonicalVersion (x : List UInt8) (w : World) (hx : x.length ≤ 1125899906842624) :
    Calls Try.prog 17 #[str x] w fun e w' => e = .returned (str (Sem.canonical x)) ∧ Below w.heap.size w w' := by
  go_enter Try.func17, Try.ntmps17
  go_wp2_with fail
  refine (canonical_any x _ hx).mono ?_
  rintro e w' ⟨rfl, hb⟩
  go_wp2_with fail
  go_ret
  exact ⟨rfl, hb⟩


end Go.Proofs.Ytienkoadkhcghaa
