/- Contracts of semver.Major, MajorMinor, Prerelease, Build, Max, compareVersion and of the thin package's functions over them: what each returns, as the plain functions of Sem tell. Condition: the texts are no longer than 2 to the power of 49. -/
import Derived.Test.YthgdmalhihaknaaSemWalks6
namespace Go.Proofs.Ythgdmalhihaknaa
open Go.RowKit





set_option maxHeartbeats 400000 in
theorem build_any (x : List UInt8) (w : World) (hx : x.length ≤ 1125899906842624) :
    Calls Try.prog 32 #[str x] w fun e w' => e = .returned (str (Sem.build x)) ∧ Below w.heap.size w w' := by
  go_enter Try.func32, Try.ntmps32
  go_wp2_with fail
  refine (parse_any x _ (by omega)).mono ?_
  rintro e w1 ⟨hP1, hb1⟩
  rcases hP1 with ⟨v, hv, rfl⟩ | ⟨hv, v, rfl⟩
  all_goals
    obtain ⟨v1, v2, v3, v4, v5, v6⟩ := v
    have HV := Lib.hid hv
    clear hv
    unfold verV
    go_wp2_with fail
    go_ret
    exact ⟨ret_str (by unfold Sem.build; rw [HV.out]), bl_more hb1 _⟩

set_option maxHeartbeats 400000 in
theorem impl_BuildOf (x : List UInt8) (w : World) (hx : x.length ≤ 1125899906842624) :
    Calls Try.prog 23 #[str x] w fun e w' => e = .returned (str (Sem.build x)) ∧ Below w.heap.size w w' := by
  go_enter Try.func23, Try.ntmps23
  go_wp2_with fail
  refine (build_any x _ hx).mono ?_
  rintro e w' ⟨rfl, hb⟩
  go_wp2_with fail
  go_ret
  exact ⟨rfl, hb⟩

set_option maxHeartbeats 400000 in
theorem impl_CanonicalVersion (x : List UInt8) (w : World) (hx : x.length ≤ 1125899906842624) :
    Calls Try.prog 22 #[str x] w fun e w' => e = .returned (str (Sem.canonical x)) ∧ Below w.heap.size w w' := by
  go_enter Try.func22, Try.ntmps22
  go_wp2_with fail
  refine (canonical_any x _ hx).mono ?_
  rintro e w' ⟨rfl, hb⟩
  go_wp2_with fail
  go_ret
  exact ⟨rfl, hb⟩


end Go.Proofs.Ythgdmalhihaknaa
