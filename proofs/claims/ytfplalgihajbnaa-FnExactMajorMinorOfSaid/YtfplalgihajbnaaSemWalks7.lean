/- Contracts of semver.Major, MajorMinor, Prerelease, Build, Max, compareVersion and of the thin package's functions over them: what each returns, as the plain functions of Sem tell. Condition: the texts are no longer than 2 to the power of 49. -/
import Derived.Test.YtfplalgihajbnaaSemWalks6
namespace Go.Proofs.Ytfplalgihajbnaa
open Go.RowKit

set_option maxHeartbeats 400000 in
theorem major_any (x : List UInt8) (w : World) (hx : x.length ≤ 1125899906842624) :
    Calls Try.prog 37 #[str x] w fun e w' => e = .returned (str (Sem.majorOf x)) ∧ Below w.heap.size w w' := by
  go_enter Try.func37, Try.ntmps37
  go_wp2_with fail
  refine (parse_any x _ (by omega)).mono ?_
  rintro e w1 ⟨hP1, hb1⟩
  rcases hP1 with ⟨v, hv, rfl⟩ | ⟨hv, v, rfl⟩
  · obtain ⟨v1, v2, v3, v4, v5, v6⟩ := v
    have hl1 : 1 + v1.length ≤ x.length := by
      obtain ⟨_, rfl⟩ := Sem.parse_iff.1 hv
      simp [Sem.textOf]; omega
    have HV := Lib.hid hv
    clear hv
    unfold verV
    go_wp2_with fail
    go_ret
    exact ⟨ret_extract (by unfold Sem.majorOf; rw [HV.out]; simp), bl_more hb1 _⟩
  · obtain ⟨v1, v2, v3, v4, v5, v6⟩ := v
    have HV := Lib.hid hv
    clear hv
    unfold verV
    go_wp2_with fail
    go_ret
    exact ⟨ret_str (by unfold Sem.majorOf; rw [HV.out]), bl_more hb1 _⟩

set_option maxHeartbeats 400000 in
theorem impl_MajorOf (x : List UInt8) (w : World) (hx : x.length ≤ 1125899906842624) :
    Calls Try.prog 17 #[str x] w fun e w' => e = .returned (str (Sem.majorOf x)) ∧ Below w.heap.size w w' := by
  go_enter Try.func17, Try.ntmps17
  go_wp2_with fail
  refine (major_any x _ hx).mono ?_
  rintro e w' ⟨rfl, hb⟩
  go_wp2_with fail
  go_ret
  exact ⟨rfl, hb⟩

set_option maxHeartbeats 400000 in
theorem prerelease_any (x : List UInt8) (w : World) (hx : x.length ≤ 1125899906842624) :
    Calls Try.prog 38 #[str x] w fun e w' => e = .returned (str (Sem.prerelease x)) ∧ Below w.heap.size w w' := by
  go_enter Try.func38, Try.ntmps38
  go_wp2_with fail
  refine (parse_any x _ (by omega)).mono ?_
  rintro e w1 ⟨hP1, hb1⟩
  rcases hP1 with ⟨v, hv, rfl⟩ | ⟨hv, v, rfl⟩
  all_goals
    obtain ⟨v1, v2, v3, v4, v5, v6⟩ := v
    have HV := Lib.hid hv
    clear hv
    unfold verV
    go_wp2_with fail
    go_ret
    exact ⟨ret_str (by unfold Sem.prerelease; rw [HV.out]), bl_more hb1 _⟩

set_option maxHeartbeats 400000 in
theorem impl_PrereleaseOf (x : List UInt8) (w : World) (hx : x.length ≤ 1125899906842624) :
    Calls Try.prog 19 #[str x] w fun e w' => e = .returned (str (Sem.prerelease x)) ∧ Below w.heap.size w w' := by
  go_enter Try.func19, Try.ntmps19
  go_wp2_with fail
  refine (prerelease_any x _ hx).mono ?_
  rintro e w' ⟨rfl, hb⟩
  go_wp2_with fail
  go_ret
  exact ⟨rfl, hb⟩

set_option maxHeartbeats 400000 in
theorem build_any (x : List UInt8) (w : World) (hx : x.length ≤ 1125899906842624) :
    Calls Try.prog 36 #[str x] w fun e w' => e = .returned (str (Sem.build x)) ∧ Below w.heap.size w w' := by
  go_enter Try.func36, Try.ntmps36
  go_wp2_with fail
  refine (parse_any x _ (by omega)).mono ?_
  rintro e w1 ⟨hP1, hb1⟩
  rcases hP1 with ⟨v, hv, rfl⟩ | ⟨hv, v, rfl⟩
  all_goals
    obtain ⟨v1, v2, v3, v4, v5, v6⟩ := v
    have HV := Lib.hid hv
    clear hv
    unfold verV
    go_wp2_with fail
    go_ret
    exact ⟨ret_str (by unfold Sem.build; rw [HV.out]), bl_more hb1 _⟩

set_option maxHeartbeats 400000 in
theorem impl_BuildOf (x : List UInt8) (w : World) (hx : x.length ≤ 1125899906842624) :
    Calls Try.prog 15 #[str x] w fun e w' => e = .returned (str (Sem.build x)) ∧ Below w.heap.size w w' := by
  go_enter Try.func15, Try.ntmps15
  go_wp2_with fail
  refine (build_any x _ hx).mono ?_
  rintro e w' ⟨rfl, hb⟩
  go_wp2_with fail
  go_ret
  exact ⟨rfl, hb⟩

set_option maxHeartbeats 400000 in
theorem impl_CanonicalVersion (x : List UInt8) (w : World) (hx : x.length ≤ 1125899906842624) :
    Calls Try.prog 23 #[str x] w fun e w' => e = .returned (str (Sem.canonical x)) ∧ Below w.heap.size w w' := by
  go_enter Try.func23, Try.ntmps23
  go_wp2_with fail
  refine (canonical_any x _ hx).mono ?_
  rintro e w' ⟨rfl, hb⟩
  go_wp2_with fail
  go_ret
  exact ⟨rfl, hb⟩

theorem majorMinor_eq {x : List UInt8} {v : Sem.Ver} (h : Sem.parse x = some v) :
    (1 + v.major.length + 1 + v.minor.length ≤ x.length ∧ x[1 + v.major.length]? = some 46 ∧ (x.drop (1 + v.major.length + 1)).take v.minor.length = v.minor) ∨ (x.length < 1 + v.major.length + 1 + v.minor.length ∧ 1 + v.major.length ≤ x.length) := by
  obtain ⟨⟨ha, hb, hd, hg⟩, rfl⟩ := Sem.parse_iff.1 h
  obtain ⟨v1, v2, v3, v4, v5, v6⟩ := v
  simp only at hg
  rcases hg with ⟨rfl, ht⟩ | ⟨rfl, rfl, rfl, rfl⟩ | ⟨rfl, rfl, rfl, rfl, rfl⟩
  · left
    simp [Sem.textOf]
    refine ⟨by omega, ?_, ?_⟩
    · rw [Nat.add_comm 1, List.getElem?_cons_succ, List.getElem?_append_right (Nat.le_refl _)]; simp
    · rw [Nat.add_comm 1, List.drop_append, List.drop_eq_nil_of_le (by omega)]; simp
  · left
    simp [Sem.textOf]
    refine ⟨by omega, ?_, ?_⟩
    · rw [Nat.add_comm 1, List.getElem?_cons_succ, List.getElem?_append_right (Nat.le_refl _)]; simp
    · rw [Nat.add_comm 1, List.drop_append, List.drop_eq_nil_of_le (by omega)]; simp
  · right
    simp [Sem.textOf]; omega

theorem ret_join3 {x b t : List UInt8} {n : Nat} (h : x.take n ++ [46] ++ b = t) : Ending.returned (.string ((ByteArray.mk x.toArray).extract 0 n ++ ByteArray.mk #[46] ++ ByteArray.mk b.toArray)) = .returned (str t) := by
  have e : (ByteArray.mk x.toArray).extract 0 n ++ ByteArray.mk #[46] ++ ByteArray.mk b.toArray = ByteArray.mk (x.take n ++ [46] ++ b).toArray := by
    rw [ByteArray.extract_mk]
    apply ByteArray.ext
    simp
  rw [e, h]

set_option maxHeartbeats 1000000 in
theorem majorMinor_any (x : List UInt8) (w : World) (hx : x.length ≤ 1125899906842624) :
    Calls Try.prog 41 #[str x] w fun e w' => e = .returned (str (Sem.majorMinor x)) ∧ Below w.heap.size w w' := by
  have hb := get_bl x
  go_enter Try.func41, Try.ntmps41
  go_wp2_with fail
  refine (parse_any x _ (by omega)).mono ?_
  rintro e w1 ⟨hP1, hb1⟩
  rcases hP1 with ⟨v, hv, rfl⟩ | ⟨hv, v, rfl⟩
  · have hq := majorMinor_eq hv
    obtain ⟨hl1, hl2, -⟩ := Sem.parse_len hv
    obtain ⟨v1, v2, v3, v4, v5, v6⟩ := v
    simp only at hq hl1 hl2
    have HV := Lib.hid hv
    clear hv
    unfold verV
    rcases hq with ⟨h1, h2, h3⟩ | ⟨h1, h2⟩
    · have hd1 : decide ((1 : Int) + v1.length + 1 + v2.length ≤ x.length) = true := by simp; omega
      have hd2 : (Sem.bt x (1 + v1.length) == 46) = true := by simp [Sem.bt, h2]
      have hd3 : (((ByteArray.mk x.toArray).extract (1 + v1.length + 1) (1 + v1.length + 1 + v2.length)).toList == v2) = true := by
        rw [ByteArray.extract_mk, ByteArray.toList_mk, show 1 + v1.length + 1 + v2.length - (1 + v1.length + 1) = v2.length by omega, h3]; simp
      have H2 := Lib.hid h2
      have H3 := Lib.hid h3
      clear h2 h3
      go_wp2_with fail
      go_quiet (fail)
      go_wp2_with fail
      go_ret
      exact ⟨ret_extract (by unfold Sem.majorMinor; rw [HV.out]; simp [H2.out, H3.out, h1]), bl_drewN (bl_more hb1 _) _⟩
    · have hd1 : decide ((1 : Int) + v1.length + 1 + v2.length ≤ x.length) = false := by simp; omega
      go_wp2_with fail
      go_quiet (fail)
      go_wp2_with fail
      go_quiet (fail)
      go_wp2_with fail
      go_ret
      exact ⟨ret_join3 (by unfold Sem.majorMinor; rw [HV.out]; simp; omega), bl_drewN (bl_drewN (bl_more hb1 _) _) _⟩
  · obtain ⟨v1, v2, v3, v4, v5, v6⟩ := v
    have HV := Lib.hid hv
    clear hv
    unfold verV
    go_wp2_with fail
    go_ret
    exact ⟨ret_str (by unfold Sem.majorMinor; rw [HV.out]), bl_more hb1 _⟩

end Go.Proofs.Ytfplalgihajbnaa
