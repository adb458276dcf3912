/- The walks of laws on the comparison of versions that take texts alone: FnCompareSwap, FnCompareChain, FnInvalidLess, FnCompareCanonical, FnCompareBuild: each returns true. Condition: each text takes at most 2 to the power of 47 bytes. -/
import Derived.Test.YthgdmalhihaknaaSemWalks7
import Derived.Test.YthgdmalhihaknaaSemFacts
namespace Go.Proofs.Ythgdmalhihaknaa
open Go.RowKit

theorem bl_next' {w w1 w2 : World} (h1 : Below w.heap.size w w1) (h2 : Below w1.heap.size w1 w2) : Below w.heap.size w w2 := h1.trans (h2.mono h1.size)
theorem canonical_len' (x : List UInt8) : (Sem.canonical x).length ≤ x.length + 4 := by
  unfold Sem.canonical
  split
  · simp
  · rename_i p h
    have := (Sem.parse_len h).2.2.2.1
    split
    · rw [List.length_take]; omega
    · split
      · rw [List.length_append]; omega
      · omega
theorem str_of (s : ByteArray) : Value.string s = str s.data.toList := by cases s; rfl
theorem len_of (s : ByteArray) : s.data.toList.length = s.size := by rw [Array.length_toList]; rfl

set_option maxHeartbeats 400000 in
theorem veWorks_any (w : World) : Calls Try.prog 16 #[] w fun e w' => e = .returned (.bool true) ∧ Below w.heap.size w w' := by
  have h1 : Sem.isValid [118, 49, 46, 50, 46, 51, 45, 97] = true := by decide
  have h2 : Sem.isValid [49, 46, 50, 46, 51] = false := by decide
  have h3 : (Sem.compare [118, 49, 46, 49, 48] [118, 49, 46, 57] == 1) = true := by decide
  go_enter Try.func16, Try.ntmps16
  go_wp2_with fail
  refine (impl_VersionOk [118, 49, 46, 50, 46, 51, 45, 97] _ (by decide)).mono ?_
  rintro e w1 ⟨rfl, hb1⟩
  go_wp2_with fail
  refine (impl_VersionOk [49, 46, 50, 46, 51] _ (by decide)).mono ?_
  rintro e w2 ⟨rfl, hb2⟩
  go_wp2_with fail
  refine (impl_CompareVersions [118, 49, 46, 49, 48] [118, 49, 46, 57] _ (by decide) (by decide)).mono ?_
  rintro e w3 ⟨rfl, hb3⟩
  go_wp2_with fail
  go_ret
  exact ⟨rfl, bl_next' (bl_next' hb1 hb2) hb3⟩

set_option maxHeartbeats 1000000 in
theorem walk_FnCompareSwap (s0 s1 : ByteArray) (w : World) (b0 : s0.size ≤ 140737488351232) (b1 : s1.size ≤ 140737488351232) :
    Calls Try.prog 4 #[.string s0, .string s1] w fun e w' => e = .returned (.bool true) ∧ Below w.heap.size w w' := by
  rw [← len_of] at b0 b1
  rw [str_of, str_of]
  generalize s0.data.toList = x at *
  generalize s1.data.toList = y at *
  have hv := Sem.lin_compare.val x y
  have hs := Sem.lin_compare.swap x y
  have h1 : -1 ≤ Sem.compare x y := by omega
  have h2 : Sem.compare x y ≤ 1 := by omega
  have h3 : (Sem.compare y x == -Sem.compare x y) = true := by simp [hs]
  have h4 : (Sem.compare x x == 0) = true := by simp [Sem.lin_compare.self]
  have h5 : (Sem.compare [118, 49] [118, 50] == -1) = true := by decide
  clear hv hs
  go_enter Try.func4, Try.ntmps4
  go_wp2_with fail
  refine (impl_CompareVersions x y _ (by omega) (by omega)).mono ?_
  rintro e w1 ⟨rfl, hb1⟩
  go_wp2_with fail
  refine (impl_CompareVersions y x _ (by omega) (by omega)).mono ?_
  rintro e w2 ⟨rfl, hb2⟩
  go_wp2_with fail
  refine (impl_CompareVersions x x _ (by omega) (by omega)).mono ?_
  rintro e w3 ⟨rfl, hb3⟩
  go_wp2_with fail
  refine (impl_CompareVersions [118, 49] [118, 50] _ (by decide) (by decide)).mono ?_
  rintro e w4 ⟨rfl, hb4⟩
  go_wp2_with fail
  go_ret
  exact ⟨rfl, bl_next' (bl_next' (bl_next' hb1 hb2) hb3) hb4⟩

set_option maxHeartbeats 2000000 in
theorem walk_FnCompareChain (s0 s1 s2 : ByteArray) (w : World) (b0 : s0.size ≤ 140737488351232) (b1 : s1.size ≤ 140737488351232) (b2 : s2.size ≤ 140737488351232) :
    Calls Try.prog 3 #[.string s0, .string s1, .string s2] w fun e w' => e = .returned (.bool true) ∧ Below w.heap.size w w' := by
  rw [← len_of] at b0 b1 b2
  rw [str_of, str_of, str_of]
  generalize s0.data.toList = x at *
  generalize s1.data.toList = y at *
  generalize s2.data.toList = z at *
  have hv1 := Sem.lin_compare.val x y
  have hv2 := Sem.lin_compare.val y z
  have hv3 := Sem.lin_compare.val x z
  have hc := Sem.lin_compare.chain x y z
  have hc' := Sem.lin_compare.chain z y x
  rw [Sem.lin_compare.swap y z, Sem.lin_compare.swap x y, Sem.lin_compare.swap x z] at hc'
  have h5 : Sem.compare [118, 50] [118, 49] = 1 := by decide
  clear hv3
  rcases hv1 with h1 | h1 | h1
  · rcases hv2 with h2 | h2 | h2
    · have h3 : Sem.compare x z = -1 := by rw [hc (by omega) (by omega), h1, h2]; rfl
      clear hc hc'
      go_enter Try.func3, Try.ntmps3
      go_wp2_with (first | (go_at_call 14; refine (impl_CompareVersions _ _ _ (by first | omega | (simp; done) | (simp; omega)) (by first | omega | (simp; done) | (simp; omega))).mono ?_; rintro e w' ⟨rfl, hb⟩) | (go_at_call 21; refine (impl_VersionOk _ _ (by first | omega | (simp; done) | (simp; omega))).mono ?_; rintro e w' ⟨rfl, hb⟩) | (go_at_call 22; refine (impl_CanonicalVersion _ _ (by first | omega | (simp; done) | (simp; omega))).mono ?_; rintro e w' ⟨rfl, hb⟩) | (go_at_call 23; refine (impl_BuildOf _ _ (by first | omega | (simp; done) | (simp; omega))).mono ?_; rintro e w' ⟨rfl, hb⟩) | (go_at_call 16; refine (veWorks_any _).mono ?_; rintro e w' ⟨rfl, hb⟩))
      go_ret
      exact ⟨rfl, (by repeat (first | (with_reducible assumption) | (with_reducible exact Below.refl _ _) | (with_reducible refine bl_next' ?_ (by with_reducible assumption))))⟩
    · have h3 : Sem.compare x z = -1 := by rw [hc (by omega) (by omega), h1, h2]; rfl
      clear hc hc'
      go_enter Try.func3, Try.ntmps3
      go_wp2_with (first | (go_at_call 14; refine (impl_CompareVersions _ _ _ (by first | omega | (simp; done) | (simp; omega)) (by first | omega | (simp; done) | (simp; omega))).mono ?_; rintro e w' ⟨rfl, hb⟩) | (go_at_call 21; refine (impl_VersionOk _ _ (by first | omega | (simp; done) | (simp; omega))).mono ?_; rintro e w' ⟨rfl, hb⟩) | (go_at_call 22; refine (impl_CanonicalVersion _ _ (by first | omega | (simp; done) | (simp; omega))).mono ?_; rintro e w' ⟨rfl, hb⟩) | (go_at_call 23; refine (impl_BuildOf _ _ (by first | omega | (simp; done) | (simp; omega))).mono ?_; rintro e w' ⟨rfl, hb⟩) | (go_at_call 16; refine (veWorks_any _).mono ?_; rintro e w' ⟨rfl, hb⟩))
      go_ret
      exact ⟨rfl, (by repeat (first | (with_reducible assumption) | (with_reducible exact Below.refl _ _) | (with_reducible refine bl_next' ?_ (by with_reducible assumption))))⟩
    · have h3 : True := trivial
      clear hc hc'
      go_enter Try.func3, Try.ntmps3
      go_wp2_with (first | (go_at_call 14; refine (impl_CompareVersions _ _ _ (by first | omega | (simp; done) | (simp; omega)) (by first | omega | (simp; done) | (simp; omega))).mono ?_; rintro e w' ⟨rfl, hb⟩) | (go_at_call 21; refine (impl_VersionOk _ _ (by first | omega | (simp; done) | (simp; omega))).mono ?_; rintro e w' ⟨rfl, hb⟩) | (go_at_call 22; refine (impl_CanonicalVersion _ _ (by first | omega | (simp; done) | (simp; omega))).mono ?_; rintro e w' ⟨rfl, hb⟩) | (go_at_call 23; refine (impl_BuildOf _ _ (by first | omega | (simp; done) | (simp; omega))).mono ?_; rintro e w' ⟨rfl, hb⟩) | (go_at_call 16; refine (veWorks_any _).mono ?_; rintro e w' ⟨rfl, hb⟩))
      go_ret
      exact ⟨rfl, (by repeat (first | (with_reducible assumption) | (with_reducible exact Below.refl _ _) | (with_reducible refine bl_next' ?_ (by with_reducible assumption))))⟩
  · rcases hv2 with h2 | h2 | h2
    · have h3 : Sem.compare x z = -1 := by rw [hc (by omega) (by omega), h1, h2]; rfl
      clear hc hc'
      go_enter Try.func3, Try.ntmps3
      go_wp2_with (first | (go_at_call 14; refine (impl_CompareVersions _ _ _ (by first | omega | (simp; done) | (simp; omega)) (by first | omega | (simp; done) | (simp; omega))).mono ?_; rintro e w' ⟨rfl, hb⟩) | (go_at_call 21; refine (impl_VersionOk _ _ (by first | omega | (simp; done) | (simp; omega))).mono ?_; rintro e w' ⟨rfl, hb⟩) | (go_at_call 22; refine (impl_CanonicalVersion _ _ (by first | omega | (simp; done) | (simp; omega))).mono ?_; rintro e w' ⟨rfl, hb⟩) | (go_at_call 23; refine (impl_BuildOf _ _ (by first | omega | (simp; done) | (simp; omega))).mono ?_; rintro e w' ⟨rfl, hb⟩) | (go_at_call 16; refine (veWorks_any _).mono ?_; rintro e w' ⟨rfl, hb⟩))
      go_ret
      exact ⟨rfl, (by repeat (first | (with_reducible assumption) | (with_reducible exact Below.refl _ _) | (with_reducible refine bl_next' ?_ (by with_reducible assumption))))⟩
    · have h3 : Sem.compare x z = 0 := by rw [hc (by omega) (by omega), h1, h2]; rfl
      clear hc hc'
      go_enter Try.func3, Try.ntmps3
      go_wp2_with (first | (go_at_call 14; refine (impl_CompareVersions _ _ _ (by first | omega | (simp; done) | (simp; omega)) (by first | omega | (simp; done) | (simp; omega))).mono ?_; rintro e w' ⟨rfl, hb⟩) | (go_at_call 21; refine (impl_VersionOk _ _ (by first | omega | (simp; done) | (simp; omega))).mono ?_; rintro e w' ⟨rfl, hb⟩) | (go_at_call 22; refine (impl_CanonicalVersion _ _ (by first | omega | (simp; done) | (simp; omega))).mono ?_; rintro e w' ⟨rfl, hb⟩) | (go_at_call 23; refine (impl_BuildOf _ _ (by first | omega | (simp; done) | (simp; omega))).mono ?_; rintro e w' ⟨rfl, hb⟩) | (go_at_call 16; refine (veWorks_any _).mono ?_; rintro e w' ⟨rfl, hb⟩))
      go_ret
      exact ⟨rfl, (by repeat (first | (with_reducible assumption) | (with_reducible exact Below.refl _ _) | (with_reducible refine bl_next' ?_ (by with_reducible assumption))))⟩
    · have h3 : Sem.compare x z = 1 := by have := hc' (by omega) (by omega); rw [h1, h2] at this; omega
      clear hc hc'
      go_enter Try.func3, Try.ntmps3
      go_wp2_with (first | (go_at_call 14; refine (impl_CompareVersions _ _ _ (by first | omega | (simp; done) | (simp; omega)) (by first | omega | (simp; done) | (simp; omega))).mono ?_; rintro e w' ⟨rfl, hb⟩) | (go_at_call 21; refine (impl_VersionOk _ _ (by first | omega | (simp; done) | (simp; omega))).mono ?_; rintro e w' ⟨rfl, hb⟩) | (go_at_call 22; refine (impl_CanonicalVersion _ _ (by first | omega | (simp; done) | (simp; omega))).mono ?_; rintro e w' ⟨rfl, hb⟩) | (go_at_call 23; refine (impl_BuildOf _ _ (by first | omega | (simp; done) | (simp; omega))).mono ?_; rintro e w' ⟨rfl, hb⟩) | (go_at_call 16; refine (veWorks_any _).mono ?_; rintro e w' ⟨rfl, hb⟩))
      go_ret
      exact ⟨rfl, (by repeat (first | (with_reducible assumption) | (with_reducible exact Below.refl _ _) | (with_reducible refine bl_next' ?_ (by with_reducible assumption))))⟩
  · rcases hv2 with h2 | h2 | h2
    · have h3 : True := trivial
      clear hc hc'
      go_enter Try.func3, Try.ntmps3
      go_wp2_with (first | (go_at_call 14; refine (impl_CompareVersions _ _ _ (by first | omega | (simp; done) | (simp; omega)) (by first | omega | (simp; done) | (simp; omega))).mono ?_; rintro e w' ⟨rfl, hb⟩) | (go_at_call 21; refine (impl_VersionOk _ _ (by first | omega | (simp; done) | (simp; omega))).mono ?_; rintro e w' ⟨rfl, hb⟩) | (go_at_call 22; refine (impl_CanonicalVersion _ _ (by first | omega | (simp; done) | (simp; omega))).mono ?_; rintro e w' ⟨rfl, hb⟩) | (go_at_call 23; refine (impl_BuildOf _ _ (by first | omega | (simp; done) | (simp; omega))).mono ?_; rintro e w' ⟨rfl, hb⟩) | (go_at_call 16; refine (veWorks_any _).mono ?_; rintro e w' ⟨rfl, hb⟩))
      go_ret
      exact ⟨rfl, (by repeat (first | (with_reducible assumption) | (with_reducible exact Below.refl _ _) | (with_reducible refine bl_next' ?_ (by with_reducible assumption))))⟩
    · have h3 : Sem.compare x z = 1 := by have := hc' (by omega) (by omega); rw [h1, h2] at this; omega
      clear hc hc'
      go_enter Try.func3, Try.ntmps3
      go_wp2_with (first | (go_at_call 14; refine (impl_CompareVersions _ _ _ (by first | omega | (simp; done) | (simp; omega)) (by first | omega | (simp; done) | (simp; omega))).mono ?_; rintro e w' ⟨rfl, hb⟩) | (go_at_call 21; refine (impl_VersionOk _ _ (by first | omega | (simp; done) | (simp; omega))).mono ?_; rintro e w' ⟨rfl, hb⟩) | (go_at_call 22; refine (impl_CanonicalVersion _ _ (by first | omega | (simp; done) | (simp; omega))).mono ?_; rintro e w' ⟨rfl, hb⟩) | (go_at_call 23; refine (impl_BuildOf _ _ (by first | omega | (simp; done) | (simp; omega))).mono ?_; rintro e w' ⟨rfl, hb⟩) | (go_at_call 16; refine (veWorks_any _).mono ?_; rintro e w' ⟨rfl, hb⟩))
      go_ret
      exact ⟨rfl, (by repeat (first | (with_reducible assumption) | (with_reducible exact Below.refl _ _) | (with_reducible refine bl_next' ?_ (by with_reducible assumption))))⟩
    · have h3 : Sem.compare x z = 1 := by have := hc' (by omega) (by omega); rw [h1, h2] at this; omega
      clear hc hc'
      go_enter Try.func3, Try.ntmps3
      go_wp2_with (first | (go_at_call 14; refine (impl_CompareVersions _ _ _ (by first | omega | (simp; done) | (simp; omega)) (by first | omega | (simp; done) | (simp; omega))).mono ?_; rintro e w' ⟨rfl, hb⟩) | (go_at_call 21; refine (impl_VersionOk _ _ (by first | omega | (simp; done) | (simp; omega))).mono ?_; rintro e w' ⟨rfl, hb⟩) | (go_at_call 22; refine (impl_CanonicalVersion _ _ (by first | omega | (simp; done) | (simp; omega))).mono ?_; rintro e w' ⟨rfl, hb⟩) | (go_at_call 23; refine (impl_BuildOf _ _ (by first | omega | (simp; done) | (simp; omega))).mono ?_; rintro e w' ⟨rfl, hb⟩) | (go_at_call 16; refine (veWorks_any _).mono ?_; rintro e w' ⟨rfl, hb⟩))
      go_ret
      exact ⟨rfl, (by repeat (first | (with_reducible assumption) | (with_reducible exact Below.refl _ _) | (with_reducible refine bl_next' ?_ (by with_reducible assumption))))⟩

set_option maxHeartbeats 1000000 in
theorem walk_FnInvalidLess (s0 s1 : ByteArray) (w : World) (b0 : s0.size ≤ 140737488351232) (b1 : s1.size ≤ 140737488351232) :
    Calls Try.prog 11 #[.string s0, .string s1] w fun e w' => e = .returned (.bool true) ∧ Below w.heap.size w w' := by
  rw [← len_of] at b0 b1
  rw [str_of, str_of]
  generalize s0.data.toList = x at *
  generalize s1.data.toList = y at *
  cases hx : Sem.isValid x with
  | true =>
    obtain ⟨v, hv⟩ := Sem.isValid_true hx
    cases hy : Sem.isValid y with
    | true =>
      obtain ⟨u, hu⟩ := Sem.isValid_true hy
      have h1 : Sem.compare x [] = 1 := by unfold Sem.compare; rw [hv, Sem.parse_nil]
      have h2 : Sem.compare [49, 46, 48, 46, 48] y = -1 := by unfold Sem.compare; rw [hu]; rfl
      clear hv hu
      go_enter Try.func11, Try.ntmps11
      go_wp2_with (first | (go_at_call 14; refine (impl_CompareVersions _ _ _ (by first | omega | (simp; done) | (simp; omega)) (by first | omega | (simp; done) | (simp; omega))).mono ?_; rintro e w' ⟨rfl, hb⟩) | (go_at_call 21; refine (impl_VersionOk _ _ (by first | omega | (simp; done) | (simp; omega))).mono ?_; rintro e w' ⟨rfl, hb⟩) | (go_at_call 22; refine (impl_CanonicalVersion _ _ (by first | omega | (simp; done) | (simp; omega))).mono ?_; rintro e w' ⟨rfl, hb⟩) | (go_at_call 23; refine (impl_BuildOf _ _ (by first | omega | (simp; done) | (simp; omega))).mono ?_; rintro e w' ⟨rfl, hb⟩) | (go_at_call 16; refine (veWorks_any _).mono ?_; rintro e w' ⟨rfl, hb⟩))
      go_ret
      exact ⟨rfl, (by repeat (first | (with_reducible assumption) | (with_reducible exact Below.refl _ _) | (with_reducible refine bl_next' ?_ (by with_reducible assumption))))⟩
    | false =>
      have hu := Sem.isValid_false hy
      have h1 : Sem.compare x y = 1 := by unfold Sem.compare; rw [hv, hu]
      clear hv hu
      go_enter Try.func11, Try.ntmps11
      go_wp2_with (first | (go_at_call 14; refine (impl_CompareVersions _ _ _ (by first | omega | (simp; done) | (simp; omega)) (by first | omega | (simp; done) | (simp; omega))).mono ?_; rintro e w' ⟨rfl, hb⟩) | (go_at_call 21; refine (impl_VersionOk _ _ (by first | omega | (simp; done) | (simp; omega))).mono ?_; rintro e w' ⟨rfl, hb⟩) | (go_at_call 22; refine (impl_CanonicalVersion _ _ (by first | omega | (simp; done) | (simp; omega))).mono ?_; rintro e w' ⟨rfl, hb⟩) | (go_at_call 23; refine (impl_BuildOf _ _ (by first | omega | (simp; done) | (simp; omega))).mono ?_; rintro e w' ⟨rfl, hb⟩) | (go_at_call 16; refine (veWorks_any _).mono ?_; rintro e w' ⟨rfl, hb⟩))
      go_ret
      exact ⟨rfl, (by repeat (first | (with_reducible assumption) | (with_reducible exact Below.refl _ _) | (with_reducible refine bl_next' ?_ (by with_reducible assumption))))⟩
  | false =>
    have hv := Sem.isValid_false hx
    cases hy : Sem.isValid y with
    | true =>
      obtain ⟨u, hu⟩ := Sem.isValid_true hy
      have h1 : Sem.compare x y = -1 := by unfold Sem.compare; rw [hv, hu]
      clear hv hu
      go_enter Try.func11, Try.ntmps11
      go_wp2_with (first | (go_at_call 14; refine (impl_CompareVersions _ _ _ (by first | omega | (simp; done) | (simp; omega)) (by first | omega | (simp; done) | (simp; omega))).mono ?_; rintro e w' ⟨rfl, hb⟩) | (go_at_call 21; refine (impl_VersionOk _ _ (by first | omega | (simp; done) | (simp; omega))).mono ?_; rintro e w' ⟨rfl, hb⟩) | (go_at_call 22; refine (impl_CanonicalVersion _ _ (by first | omega | (simp; done) | (simp; omega))).mono ?_; rintro e w' ⟨rfl, hb⟩) | (go_at_call 23; refine (impl_BuildOf _ _ (by first | omega | (simp; done) | (simp; omega))).mono ?_; rintro e w' ⟨rfl, hb⟩) | (go_at_call 16; refine (veWorks_any _).mono ?_; rintro e w' ⟨rfl, hb⟩))
      go_ret
      exact ⟨rfl, (by repeat (first | (with_reducible assumption) | (with_reducible exact Below.refl _ _) | (with_reducible refine bl_next' ?_ (by with_reducible assumption))))⟩
    | false =>
      have hu := Sem.isValid_false hy
      have h1 : Sem.compare x y = 0 := by unfold Sem.compare; rw [hv, hu]
      clear hv hu
      go_enter Try.func11, Try.ntmps11
      go_wp2_with (first | (go_at_call 14; refine (impl_CompareVersions _ _ _ (by first | omega | (simp; done) | (simp; omega)) (by first | omega | (simp; done) | (simp; omega))).mono ?_; rintro e w' ⟨rfl, hb⟩) | (go_at_call 21; refine (impl_VersionOk _ _ (by first | omega | (simp; done) | (simp; omega))).mono ?_; rintro e w' ⟨rfl, hb⟩) | (go_at_call 22; refine (impl_CanonicalVersion _ _ (by first | omega | (simp; done) | (simp; omega))).mono ?_; rintro e w' ⟨rfl, hb⟩) | (go_at_call 23; refine (impl_BuildOf _ _ (by first | omega | (simp; done) | (simp; omega))).mono ?_; rintro e w' ⟨rfl, hb⟩) | (go_at_call 16; refine (veWorks_any _).mono ?_; rintro e w' ⟨rfl, hb⟩))
      go_ret
      exact ⟨rfl, (by repeat (first | (with_reducible assumption) | (with_reducible exact Below.refl _ _) | (with_reducible refine bl_next' ?_ (by with_reducible assumption))))⟩

set_option maxHeartbeats 1000000 in
theorem walk_FnCompareCanonical (s0 s1 : ByteArray) (w : World) (b0 : s0.size ≤ 140737488351232) (b1 : s1.size ≤ 140737488351232) :
    Calls Try.prog 12 #[.string s0, .string s1] w fun e w' => e = .returned (.bool true) ∧ Below w.heap.size w w' := by
  rw [← len_of] at b0 b1
  rw [str_of, str_of]
  generalize s0.data.toList = x at *
  generalize s1.data.toList = y at *
  have hl0 := canonical_len' x
  have hl1 := canonical_len' y
  have h1 : (Sem.compare (Sem.canonical x) (Sem.canonical y) == Sem.compare x y) = true := by rw [Sem.compare_canon]; simp
  by_cases h2 : Sem.canonical x = Sem.canonical y
  · have h3 : (Sem.canonical x == Sem.canonical y) = true := by simp [h2]
    have h4 : (Sem.compare x y == 0) = true := by simp [(Sem.compare_zero x y).2 h2]
    clear h2
    go_enter Try.func12, Try.ntmps12
    go_wp2_with (first | (go_at_call 14; refine (impl_CompareVersions _ _ _ (by first | omega | (simp; done) | (simp; omega)) (by first | omega | (simp; done) | (simp; omega))).mono ?_; rintro e w' ⟨rfl, hb⟩) | (go_at_call 21; refine (impl_VersionOk _ _ (by first | omega | (simp; done) | (simp; omega))).mono ?_; rintro e w' ⟨rfl, hb⟩) | (go_at_call 22; refine (impl_CanonicalVersion _ _ (by first | omega | (simp; done) | (simp; omega))).mono ?_; rintro e w' ⟨rfl, hb⟩) | (go_at_call 23; refine (impl_BuildOf _ _ (by first | omega | (simp; done) | (simp; omega))).mono ?_; rintro e w' ⟨rfl, hb⟩) | (go_at_call 16; refine (veWorks_any _).mono ?_; rintro e w' ⟨rfl, hb⟩))
    go_ret
    exact ⟨rfl, (by repeat (first | (with_reducible assumption) | (with_reducible exact Below.refl _ _) | (with_reducible refine bl_next' ?_ (by with_reducible assumption))))⟩
  · have h3 : (Sem.canonical x == Sem.canonical y) = false := by simp [h2]
    have h4 : (Sem.compare x y == 0) = false := by simp; exact fun k => h2 ((Sem.compare_zero x y).1 k)
    clear h2
    go_enter Try.func12, Try.ntmps12
    go_wp2_with (first | (go_at_call 14; refine (impl_CompareVersions _ _ _ (by first | omega | (simp; done) | (simp; omega)) (by first | omega | (simp; done) | (simp; omega))).mono ?_; rintro e w' ⟨rfl, hb⟩) | (go_at_call 21; refine (impl_VersionOk _ _ (by first | omega | (simp; done) | (simp; omega))).mono ?_; rintro e w' ⟨rfl, hb⟩) | (go_at_call 22; refine (impl_CanonicalVersion _ _ (by first | omega | (simp; done) | (simp; omega))).mono ?_; rintro e w' ⟨rfl, hb⟩) | (go_at_call 23; refine (impl_BuildOf _ _ (by first | omega | (simp; done) | (simp; omega))).mono ?_; rintro e w' ⟨rfl, hb⟩) | (go_at_call 16; refine (veWorks_any _).mono ?_; rintro e w' ⟨rfl, hb⟩))
    go_ret
    exact ⟨rfl, (by repeat (first | (with_reducible assumption) | (with_reducible exact Below.refl _ _) | (with_reducible refine bl_next' ?_ (by with_reducible assumption))))⟩

attribute [local go_sem] app_str
theorem bld1 : Sem.BuildOk [43, 122, 46, 57] := ⟨[122, 46, 57], rfl, by decide⟩
theorem bld2 : Sem.BuildOk [43, 48, 46, 97] := ⟨[48, 46, 97], rfl, by decide⟩
set_option maxHeartbeats 1000000 in
theorem walk_FnCompareBuild (s0 s1 : ByteArray) (w : World) (b0 : s0.size ≤ 140737488351232) (b1 : s1.size ≤ 140737488351232) :
    Calls Try.prog 13 #[.string s0, .string s1] w fun e w' => e = .returned (.bool true) ∧ Below w.heap.size w w' := by
  rw [← len_of] at b0 b1
  rw [str_of, str_of]
  generalize s0.data.toList = x at *
  generalize s1.data.toList = y at *
  have hl0 := canonical_len' x
  have hl1 := canonical_len' y
  have h0 : Sem.compare [118, 49, 46, 48, 46, 48, 43, 97] [118, 49, 46, 48, 46, 48, 43, 98] = 0 := by decide
  cases hx : Sem.parse x with
  | none =>
    have h1 := Sem.canon_none hx
    clear hx
    go_enter Try.func13, Try.ntmps13
    go_wp2_with (first | (go_at_call 14; refine (impl_CompareVersions _ _ _ (by first | omega | (simp; done) | (simp; omega)) (by first | omega | (simp; done) | (simp; omega))).mono ?_; rintro e w' ⟨rfl, hb⟩) | (go_at_call 21; refine (impl_VersionOk _ _ (by first | omega | (simp; done) | (simp; omega))).mono ?_; rintro e w' ⟨rfl, hb⟩) | (go_at_call 22; refine (impl_CanonicalVersion _ _ (by first | omega | (simp; done) | (simp; omega))).mono ?_; rintro e w' ⟨rfl, hb⟩) | (go_at_call 23; refine (impl_BuildOf _ _ (by first | omega | (simp; done) | (simp; omega))).mono ?_; rintro e w' ⟨rfl, hb⟩) | (go_at_call 16; refine (veWorks_any _).mono ?_; rintro e w' ⟨rfl, hb⟩))
    go_ret
    exact ⟨rfl, (by repeat (first | (with_reducible assumption) | (with_reducible exact Below.refl _ _) | (with_reducible refine bl_next' ?_ (by with_reducible assumption))))⟩
  | some v =>
    have hx1 : (Sem.canonical x).isEmpty = false := by have := Sem.canon_ne hx; cases h : Sem.canonical x with | nil => exact absurd h this | cons => rfl
    cases hy : Sem.parse y with
    | none =>
      have h1 := Sem.canon_none hy
      clear hx hy
      go_enter Try.func13, Try.ntmps13
      go_wp2_with (first | (go_at_call 14; refine (impl_CompareVersions _ _ _ (by first | omega | (simp; done) | (simp; omega)) (by first | omega | (simp; done) | (simp; omega))).mono ?_; rintro e w' ⟨rfl, hb⟩) | (go_at_call 21; refine (impl_VersionOk _ _ (by first | omega | (simp; done) | (simp; omega))).mono ?_; rintro e w' ⟨rfl, hb⟩) | (go_at_call 22; refine (impl_CanonicalVersion _ _ (by first | omega | (simp; done) | (simp; omega))).mono ?_; rintro e w' ⟨rfl, hb⟩) | (go_at_call 23; refine (impl_BuildOf _ _ (by first | omega | (simp; done) | (simp; omega))).mono ?_; rintro e w' ⟨rfl, hb⟩) | (go_at_call 16; refine (veWorks_any _).mono ?_; rintro e w' ⟨rfl, hb⟩))
      go_ret
      exact ⟨rfl, (by repeat (first | (with_reducible assumption) | (with_reducible exact Below.refl _ _) | (with_reducible refine bl_next' ?_ (by with_reducible assumption))))⟩
    | some u =>
      have hy1 : (Sem.canonical y).isEmpty = false := by have := Sem.canon_ne hy; cases h : Sem.canonical y with | nil => exact absurd h this | cons => rfl
      have p1 := Sem.parse_build hx bld1
      have p2 := Sem.parse_build hy bld2
      have q1 := Sem.parse_canon hx
      have q2 := Sem.parse_canon hy
      have k1 : (Sem.compare (Sem.canonical x ++ [43, 122, 46, 57]) (Sem.canonical y) == Sem.compare x y) = true := by
        rw [Sem.compare_opt, Sem.compare_opt, p1, q2, hx, hy]; simp only [Sem.cmpOpt]; rw [beq_iff_eq]; rfl
      have k2 : (Sem.compare (Sem.canonical x) (Sem.canonical y ++ [43, 48, 46, 97]) == Sem.compare x y) = true := by
        rw [Sem.compare_opt, Sem.compare_opt, p2, q1, hx, hy]; simp only [Sem.cmpOpt]; rw [beq_iff_eq]; rfl
      have k3 : Sem.build (Sem.canonical x ++ [43, 122, 46, 57]) = [43, 122, 46, 57] := by unfold Sem.build; rw [p1]
      clear hx hy p1 p2 q1 q2
      go_enter Try.func13, Try.ntmps13
      go_wp2_with (first | (go_at_call 14; refine (impl_CompareVersions _ _ _ (by first | omega | (simp; done) | (simp; omega)) (by first | omega | (simp; done) | (simp; omega))).mono ?_; rintro e w' ⟨rfl, hb⟩) | (go_at_call 21; refine (impl_VersionOk _ _ (by first | omega | (simp; done) | (simp; omega))).mono ?_; rintro e w' ⟨rfl, hb⟩) | (go_at_call 22; refine (impl_CanonicalVersion _ _ (by first | omega | (simp; done) | (simp; omega))).mono ?_; rintro e w' ⟨rfl, hb⟩) | (go_at_call 23; refine (impl_BuildOf _ _ (by first | omega | (simp; done) | (simp; omega))).mono ?_; rintro e w' ⟨rfl, hb⟩) | (go_at_call 16; refine (veWorks_any _).mono ?_; rintro e w' ⟨rfl, hb⟩))
      go_ret
      exact ⟨rfl, (by repeat (first | (with_reducible assumption) | (with_reducible exact Below.refl _ _) | (with_reducible refine bl_next' ?_ (by with_reducible assumption))))⟩

end Go.Proofs.Ythgdmalhihaknaa
