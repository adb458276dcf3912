/- Contracts of semver.Major, MajorMinor, Prerelease, Build, Max, compareVersion and of the thin package's functions over them: what each returns, as the plain functions of Sem tell. Condition: the texts are no longer than 2 to the power of 49. -/
import Derived.Test.YtpcmdgmbacokfaaSemWalks6
namespace Go.Proofs.Ytpcmdgmbacokfaa
open Go.RowKit

set_option maxHeartbeats 400000 in
theorem major_any (x : List UInt8) (w : World) (hx : x.length ≤ 1125899906842624) :
    Calls Try.prog 56 #[str x] w fun e w' => e = .returned (str (Sem.majorOf x)) ∧ Below w.heap.size w w' := by
  go_enter Try.func56, Try.ntmps56
  go_wp2_with fail
  refine (parse_any x _ (by omega)).mono ?_
  rintro e w1 ⟨hP1, hb1⟩
  rcases hP1 with ⟨v, hv, rfl⟩ | ⟨hv, v, rfl⟩
  · obtain ⟨v1, v2, v3, v4, v5, v6⟩ := v
    have hl1 : 1 + v1.length ≤ x.length := by
      obtain ⟨_, rfl⟩ := Sem.parse_iff.1 hv
      simp [Sem.textOf]; omega
    have HV := Lib.hid hv
    clear hv
    unfold verV
    go_wp2_with fail
    go_ret
    exact ⟨ret_extract (by unfold Sem.majorOf; rw [HV.out]; simp), bl_more hb1 _⟩
  · obtain ⟨v1, v2, v3, v4, v5, v6⟩ := v
    have HV := Lib.hid hv
    clear hv
    unfold verV
    go_wp2_with fail
    go_ret
    exact ⟨ret_str (by unfold Sem.majorOf; rw [HV.out]), bl_more hb1 _⟩

set_option maxHeartbeats 400000 in
theorem impl_MajorOf (x : List UInt8) (w : World) (hx : x.length ≤ 1125899906842624) :
    Calls Try.prog 37 #[str x] w fun e w' => e = .returned (str (Sem.majorOf x)) ∧ Below w.heap.size w w' := by
  go_enter Try.func37, Try.ntmps37
  go_wp2_with fail
  refine (major_any x _ hx).mono ?_
  rintro e w' ⟨rfl, hb⟩
  go_wp2_with fail
  go_ret
  exact ⟨rfl, hb⟩

set_option maxHeartbeats 400000 in
theorem prerelease_any (x : List UInt8) (w : World) (hx : x.length ≤ 1125899906842624) :
    Calls Try.prog 57 #[str x] w fun e w' => e = .returned (str (Sem.prerelease x)) ∧ Below w.heap.size w w' := by
  go_enter Try.func57, Try.ntmps57
  go_wp2_with fail
  refine (parse_any x _ (by omega)).mono ?_
  rintro e w1 ⟨hP1, hb1⟩
  rcases hP1 with ⟨v, hv, rfl⟩ | ⟨hv, v, rfl⟩
  all_goals
    obtain ⟨v1, v2, v3, v4, v5, v6⟩ := v
    have HV := Lib.hid hv
    clear hv
    unfold verV
    go_wp2_with fail
    go_ret
    exact ⟨ret_str (by unfold Sem.prerelease; rw [HV.out]), bl_more hb1 _⟩

set_option maxHeartbeats 400000 in
theorem impl_PrereleaseOf (x : List UInt8) (w : World) (hx : x.length ≤ 1125899906842624) :
    Calls Try.prog 38 #[str x] w fun e w' => e = .returned (str (Sem.prerelease x)) ∧ Below w.heap.size w w' := by
  go_enter Try.func38, Try.ntmps38
  go_wp2_with fail
  refine (prerelease_any x _ hx).mono ?_
  rintro e w' ⟨rfl, hb⟩
  go_wp2_with fail
  go_ret
  exact ⟨rfl, hb⟩

set_option maxHeartbeats 400000 in
theorem build_any (x : List UInt8) (w : World) (hx : x.length ≤ 1125899906842624) :
    Calls Try.prog 58 #[str x] w fun e w' => e = .returned (str (Sem.build x)) ∧ Below w.heap.size w w' := by
  go_enter Try.func58, Try.ntmps58
  go_wp2_with fail
  refine (parse_any x _ (by omega)).mono ?_
  rintro e w1 ⟨hP1, hb1⟩
  rcases hP1 with ⟨v, hv, rfl⟩ | ⟨hv, v, rfl⟩
  all_goals
    obtain ⟨v1, v2, v3, v4, v5, v6⟩ := v
    have HV := Lib.hid hv
    clear hv
    unfold verV
    go_wp2_with fail
    go_ret
    exact ⟨ret_str (by unfold Sem.build; rw [HV.out]), bl_more hb1 _⟩

set_option maxHeartbeats 400000 in
theorem impl_BuildOf (x : List UInt8) (w : World) (hx : x.length ≤ 1125899906842624) :
    Calls Try.prog 39 #[str x] w fun e w' => e = .returned (str (Sem.build x)) ∧ Below w.heap.size w w' := by
  go_enter Try.func39, Try.ntmps39
  go_wp2_with fail
  refine (build_any x _ hx).mono ?_
  rintro e w' ⟨rfl, hb⟩
  go_wp2_with fail
  go_ret
  exact ⟨rfl, hb⟩

set_option maxHeartbeats 400000 in
theorem impl_CanonicalVersion (x : List UInt8) (w : World) (hx : x.length ≤ 1125899906842624) :
    Calls Try.prog 17 #[str x] w fun e w' => e = .returned (str (Sem.canonical x)) ∧ Below w.heap.size w w' := by
  go_enter Try.func17, Try.ntmps17
  go_wp2_with fail
  refine (canonical_any x _ hx).mono ?_
  rintro e w' ⟨rfl, hb⟩
  go_wp2_with fail
  go_ret
  exact ⟨rfl, hb⟩


end Go.Proofs.Ytpcmdgmbacokfaa
