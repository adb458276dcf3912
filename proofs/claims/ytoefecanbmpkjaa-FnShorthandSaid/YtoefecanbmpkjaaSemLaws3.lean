/- The walks of laws on versions that take texts alone: FnMaxChain, FnMaxOrder, FnVersionRebuilt, FnCanonicalTwice, FnPartsSame: each returns true. Condition: each text takes at most 2 to the power of 47 bytes. -/
import Derived.Test.YtoefecanbmpkjaaSemWalks8
import Derived.Test.YtoefecanbmpkjaaSemLaws2
import Derived.Test.YtoefecanbmpkjaaSemFacts2
namespace Go.Proofs.Ytoefecanbmpkjaa
open Go.RowKit
attribute [local go_sem] app_str

set_option maxHeartbeats 2000000 in
theorem walk_FnMaxChain (s0 s1 s2 : ByteArray) (w : World) (b0 : s0.size ≤ 140737488351232) (b1 : s1.size ≤ 140737488351232) (b2 : s2.size ≤ 140737488351232) :
    Calls Try.prog 5 #[.string s0, .string s1, .string s2] w fun e w' => e = .returned (.bool true) ∧ Below w.heap.size w w' := by
  rw [← len_of] at b0 b1 b2
  rw [str_of, str_of, str_of]
  generalize s0.data.toList = x at *
  generalize s1.data.toList = y at *
  generalize s2.data.toList = z at *
  have hl0 := canonical_len' x
  have hl1 := canonical_len' y
  have hl2 := canonical_len' z
  have m1 : (Sem.maxV x y).length ≤ 140737488351240 := Sem.max_len x y (by omega) (by omega)
  have m2 : (Sem.maxV y z).length ≤ 140737488351240 := Sem.max_len y z (by omega) (by omega)
  have m3 : (Sem.maxV (Sem.maxV x y) z).length ≤ 140737488351240 := Sem.max_len _ _ (by rw [Sem.max_canon]; exact m1) (by omega)
  have h1 : (Sem.maxV x (Sem.maxV y z) == Sem.maxV (Sem.maxV x y) z) = true := by rw [Sem.max_assoc]; simp
  have h2 : 0 ≤ Sem.compare (Sem.maxV (Sem.maxV x y) z) x := Sem.ge_trans (Sem.max_ge_l _ z) (Sem.max_ge_l x y)
  have h3 : 0 ≤ Sem.compare (Sem.maxV (Sem.maxV x y) z) y := Sem.ge_trans (Sem.max_ge_l _ z) (Sem.max_ge_r x y)
  have h4 : Sem.maxV [118, 49] [118, 50] = [118, 50, 46, 48, 46, 48] := by decide
  clear hl0 hl1 hl2
  go_enter Try.func5, Try.ntmps5
  go_wp2_with (first | (go_at_call 20; refine (impl_CompareVersions _ _ _ (by first | omega | (simp; done) | (simp; omega)) (by first | omega | (simp; done) | (simp; omega))).mono ?_; rintro e w' ⟨rfl, hb⟩) | (go_at_call 17; refine (impl_VersionOk _ _ (by first | omega | (simp; done) | (simp; omega))).mono ?_; rintro e w' ⟨rfl, hb⟩) | (go_at_call 25; refine (impl_CanonicalVersion _ _ (by first | omega | (simp; done) | (simp; omega))).mono ?_; rintro e w' ⟨rfl, hb⟩) | (go_at_call 28; refine (impl_MajorOf _ _ (by first | omega | (simp; done) | (simp; omega))).mono ?_; rintro e w' ⟨rfl, hb⟩) | (go_at_call 29; refine (impl_MajorMinorOf _ _ (by first | omega | (simp; done) | (simp; omega))).mono ?_; rintro e w' ⟨rfl, hb⟩) | (go_at_call 21; refine (impl_PrereleaseOf _ _ (by first | omega | (simp; done) | (simp; omega))).mono ?_; rintro e w' ⟨rfl, hb⟩) | (go_at_call 22; refine (impl_BuildOf _ _ (by first | omega | (simp; done) | (simp; omega))).mono ?_; rintro e w' ⟨rfl, hb⟩) | (go_at_call 19; refine (impl_MaxVersion _ _ _ (by first | omega | (simp; done) | (simp; omega)) (by first | omega | (simp; done) | (simp; omega))).mono ?_; rintro e w' ⟨rfl, hb⟩) | (go_at_call 16; refine (veWorks_any _).mono ?_; rintro e w' ⟨rfl, hb⟩))
  go_ret
  exact ⟨rfl, (by repeat (first | (with_reducible assumption) | (with_reducible exact Below.refl _ _) | (with_reducible refine bl_next' ?_ (by with_reducible assumption))))⟩

set_option maxHeartbeats 2000000 in
theorem walk_FnMaxOrder (s0 s1 : ByteArray) (w : World) (b0 : s0.size ≤ 140737488351232) (b1 : s1.size ≤ 140737488351232) :
    Calls Try.prog 9 #[.string s0, .string s1] w fun e w' => e = .returned (.bool true) ∧ Below w.heap.size w w' := by
  rw [← len_of] at b0 b1
  rw [str_of, str_of]
  generalize s0.data.toList = x at *
  generalize s1.data.toList = y at *
  have hl0 := canonical_len' x
  have hl1 := canonical_len' y
  have m1 : (Sem.maxV x y).length ≤ 140737488351240 := Sem.max_len x y (by omega) (by omega)
  have h2 := Sem.max_ge_l x y
  have h3 := Sem.max_ge_r x y
  have h4 : (Sem.maxV y x == Sem.maxV x y) = true := by rw [Sem.max_comm]; simp
  have h5 : (Sem.maxV x x == Sem.canonical x) = true := by rw [Sem.max_self]; simp
  by_cases k : Sem.maxV x y = Sem.canonical x
  · have k1 : (Sem.maxV x y == Sem.canonical x) = true := by simp [k]
    clear hl0 hl1 k
    go_enter Try.func9, Try.ntmps9
    go_wp2_with (first | (go_at_call 20; refine (impl_CompareVersions _ _ _ (by first | omega | (simp; done) | (simp; omega)) (by first | omega | (simp; done) | (simp; omega))).mono ?_; rintro e w' ⟨rfl, hb⟩) | (go_at_call 17; refine (impl_VersionOk _ _ (by first | omega | (simp; done) | (simp; omega))).mono ?_; rintro e w' ⟨rfl, hb⟩) | (go_at_call 25; refine (impl_CanonicalVersion _ _ (by first | omega | (simp; done) | (simp; omega))).mono ?_; rintro e w' ⟨rfl, hb⟩) | (go_at_call 28; refine (impl_MajorOf _ _ (by first | omega | (simp; done) | (simp; omega))).mono ?_; rintro e w' ⟨rfl, hb⟩) | (go_at_call 29; refine (impl_MajorMinorOf _ _ (by first | omega | (simp; done) | (simp; omega))).mono ?_; rintro e w' ⟨rfl, hb⟩) | (go_at_call 21; refine (impl_PrereleaseOf _ _ (by first | omega | (simp; done) | (simp; omega))).mono ?_; rintro e w' ⟨rfl, hb⟩) | (go_at_call 22; refine (impl_BuildOf _ _ (by first | omega | (simp; done) | (simp; omega))).mono ?_; rintro e w' ⟨rfl, hb⟩) | (go_at_call 19; refine (impl_MaxVersion _ _ _ (by first | omega | (simp; done) | (simp; omega)) (by first | omega | (simp; done) | (simp; omega))).mono ?_; rintro e w' ⟨rfl, hb⟩) | (go_at_call 16; refine (veWorks_any _).mono ?_; rintro e w' ⟨rfl, hb⟩))
    go_ret
    exact ⟨rfl, (by repeat (first | (with_reducible assumption) | (with_reducible exact Below.refl _ _) | (with_reducible refine bl_next' ?_ (by with_reducible assumption))))⟩
  · have k1 : (Sem.maxV x y == Sem.canonical x) = false := by simp [k]
    have k2 : (Sem.maxV x y == Sem.canonical y) = true := by
      rcases Sem.max_or x y with h | h
      · exact absurd h k
      · simp [h]
    clear hl0 hl1 k
    go_enter Try.func9, Try.ntmps9
    go_wp2_with (first | (go_at_call 20; refine (impl_CompareVersions _ _ _ (by first | omega | (simp; done) | (simp; omega)) (by first | omega | (simp; done) | (simp; omega))).mono ?_; rintro e w' ⟨rfl, hb⟩) | (go_at_call 17; refine (impl_VersionOk _ _ (by first | omega | (simp; done) | (simp; omega))).mono ?_; rintro e w' ⟨rfl, hb⟩) | (go_at_call 25; refine (impl_CanonicalVersion _ _ (by first | omega | (simp; done) | (simp; omega))).mono ?_; rintro e w' ⟨rfl, hb⟩) | (go_at_call 28; refine (impl_MajorOf _ _ (by first | omega | (simp; done) | (simp; omega))).mono ?_; rintro e w' ⟨rfl, hb⟩) | (go_at_call 29; refine (impl_MajorMinorOf _ _ (by first | omega | (simp; done) | (simp; omega))).mono ?_; rintro e w' ⟨rfl, hb⟩) | (go_at_call 21; refine (impl_PrereleaseOf _ _ (by first | omega | (simp; done) | (simp; omega))).mono ?_; rintro e w' ⟨rfl, hb⟩) | (go_at_call 22; refine (impl_BuildOf _ _ (by first | omega | (simp; done) | (simp; omega))).mono ?_; rintro e w' ⟨rfl, hb⟩) | (go_at_call 19; refine (impl_MaxVersion _ _ _ (by first | omega | (simp; done) | (simp; omega)) (by first | omega | (simp; done) | (simp; omega))).mono ?_; rintro e w' ⟨rfl, hb⟩) | (go_at_call 16; refine (veWorks_any _).mono ?_; rintro e w' ⟨rfl, hb⟩))
    go_ret
    exact ⟨rfl, (by repeat (first | (with_reducible assumption) | (with_reducible exact Below.refl _ _) | (with_reducible refine bl_next' ?_ (by with_reducible assumption))))⟩

set_option maxHeartbeats 2000000 in
theorem walk_FnVersionRebuilt (s0 : ByteArray) (w : World) (b0 : s0.size ≤ 140737488351232) :
    Calls Try.prog 8 #[.string s0] w fun e w' => e = .returned (.bool true) ∧ Below w.heap.size w w' := by
  rw [← len_of] at b0
  rw [str_of]
  generalize s0.data.toList = x at *
  have hl0 := canonical_len' x
  cases hx : Sem.parse x with
  | none =>
    have h1 : Sem.isValid x = false := by unfold Sem.isValid; rw [hx]; rfl
    have h2 := Sem.canon_none hx
    have h3 := Sem.build_none hx
    clear hx hl0
    go_enter Try.func8, Try.ntmps8
    go_wp2_with (first | (go_at_call 20; refine (impl_CompareVersions _ _ _ (by first | omega | (simp; done) | (simp; omega)) (by first | omega | (simp; done) | (simp; omega))).mono ?_; rintro e w' ⟨rfl, hb⟩) | (go_at_call 17; refine (impl_VersionOk _ _ (by first | omega | (simp; done) | (simp; omega))).mono ?_; rintro e w' ⟨rfl, hb⟩) | (go_at_call 25; refine (impl_CanonicalVersion _ _ (by first | omega | (simp; done) | (simp; omega))).mono ?_; rintro e w' ⟨rfl, hb⟩) | (go_at_call 28; refine (impl_MajorOf _ _ (by first | omega | (simp; done) | (simp; omega))).mono ?_; rintro e w' ⟨rfl, hb⟩) | (go_at_call 29; refine (impl_MajorMinorOf _ _ (by first | omega | (simp; done) | (simp; omega))).mono ?_; rintro e w' ⟨rfl, hb⟩) | (go_at_call 21; refine (impl_PrereleaseOf _ _ (by first | omega | (simp; done) | (simp; omega))).mono ?_; rintro e w' ⟨rfl, hb⟩) | (go_at_call 22; refine (impl_BuildOf _ _ (by first | omega | (simp; done) | (simp; omega))).mono ?_; rintro e w' ⟨rfl, hb⟩) | (go_at_call 19; refine (impl_MaxVersion _ _ _ (by first | omega | (simp; done) | (simp; omega)) (by first | omega | (simp; done) | (simp; omega))).mono ?_; rintro e w' ⟨rfl, hb⟩) | (go_at_call 16; refine (veWorks_any _).mono ?_; rintro e w' ⟨rfl, hb⟩))
    go_ret
    exact ⟨rfl, (by repeat (first | (with_reducible assumption) | (with_reducible exact Below.refl _ _) | (with_reducible refine bl_next' ?_ (by with_reducible assumption))))⟩
  | some v =>
    have h1 : Sem.isValid x = true := by unfold Sem.isValid; rw [hx]; rfl
    have hbl : (Sem.build x).length ≤ x.length := by rw [Sem.build_text hx]; exact (Sem.parse_len hx).2.2.2.2.2
    have hr := Sem.rebuilt hx
    clear hx
    by_cases k : Sem.canonical x ++ Sem.build x = x
    · have k1 : (Sem.canonical x ++ Sem.build x == x) = true := by simp [k]
      clear hr k
      go_enter Try.func8, Try.ntmps8
      go_wp2_with (first | (go_at_call 20; refine (impl_CompareVersions _ _ _ (by first | omega | (simp; done) | (simp; omega)) (by first | omega | (simp; done) | (simp; omega))).mono ?_; rintro e w' ⟨rfl, hb⟩) | (go_at_call 17; refine (impl_VersionOk _ _ (by first | omega | (simp; done) | (simp; omega))).mono ?_; rintro e w' ⟨rfl, hb⟩) | (go_at_call 25; refine (impl_CanonicalVersion _ _ (by first | omega | (simp; done) | (simp; omega))).mono ?_; rintro e w' ⟨rfl, hb⟩) | (go_at_call 28; refine (impl_MajorOf _ _ (by first | omega | (simp; done) | (simp; omega))).mono ?_; rintro e w' ⟨rfl, hb⟩) | (go_at_call 29; refine (impl_MajorMinorOf _ _ (by first | omega | (simp; done) | (simp; omega))).mono ?_; rintro e w' ⟨rfl, hb⟩) | (go_at_call 21; refine (impl_PrereleaseOf _ _ (by first | omega | (simp; done) | (simp; omega))).mono ?_; rintro e w' ⟨rfl, hb⟩) | (go_at_call 22; refine (impl_BuildOf _ _ (by first | omega | (simp; done) | (simp; omega))).mono ?_; rintro e w' ⟨rfl, hb⟩) | (go_at_call 19; refine (impl_MaxVersion _ _ _ (by first | omega | (simp; done) | (simp; omega)) (by first | omega | (simp; done) | (simp; omega))).mono ?_; rintro e w' ⟨rfl, hb⟩) | (go_at_call 16; refine (veWorks_any _).mono ?_; rintro e w' ⟨rfl, hb⟩))
      go_ret
      exact ⟨rfl, (by repeat (first | (with_reducible assumption) | (with_reducible exact Below.refl _ _) | (with_reducible refine bl_next' ?_ (by with_reducible assumption))))⟩
    · have k1 : (Sem.canonical x ++ Sem.build x == x) = false := by simp [k]
      rcases hr with h | ⟨h2, h3⟩
      · exact absurd h k
      · clear k
        by_cases k2 : Sem.canonical x = x ++ [46, 48]
        · have k3 : (Sem.canonical x == x ++ [46, 48]) = true := by simp [k2]
          have k4 : (Sem.build x).isEmpty = true := by rw [h2]; rfl
          clear k2 h2 h3
          go_enter Try.func8, Try.ntmps8
          go_wp2_with (first | (go_at_call 20; refine (impl_CompareVersions _ _ _ (by first | omega | (simp; done) | (simp; omega)) (by first | omega | (simp; done) | (simp; omega))).mono ?_; rintro e w' ⟨rfl, hb⟩) | (go_at_call 17; refine (impl_VersionOk _ _ (by first | omega | (simp; done) | (simp; omega))).mono ?_; rintro e w' ⟨rfl, hb⟩) | (go_at_call 25; refine (impl_CanonicalVersion _ _ (by first | omega | (simp; done) | (simp; omega))).mono ?_; rintro e w' ⟨rfl, hb⟩) | (go_at_call 28; refine (impl_MajorOf _ _ (by first | omega | (simp; done) | (simp; omega))).mono ?_; rintro e w' ⟨rfl, hb⟩) | (go_at_call 29; refine (impl_MajorMinorOf _ _ (by first | omega | (simp; done) | (simp; omega))).mono ?_; rintro e w' ⟨rfl, hb⟩) | (go_at_call 21; refine (impl_PrereleaseOf _ _ (by first | omega | (simp; done) | (simp; omega))).mono ?_; rintro e w' ⟨rfl, hb⟩) | (go_at_call 22; refine (impl_BuildOf _ _ (by first | omega | (simp; done) | (simp; omega))).mono ?_; rintro e w' ⟨rfl, hb⟩) | (go_at_call 19; refine (impl_MaxVersion _ _ _ (by first | omega | (simp; done) | (simp; omega)) (by first | omega | (simp; done) | (simp; omega))).mono ?_; rintro e w' ⟨rfl, hb⟩) | (go_at_call 16; refine (veWorks_any _).mono ?_; rintro e w' ⟨rfl, hb⟩))
          go_ret
          exact ⟨rfl, (by repeat (first | (with_reducible assumption) | (with_reducible exact Below.refl _ _) | (with_reducible refine bl_next' ?_ (by with_reducible assumption))))⟩
        · have k3 : (Sem.canonical x == x ++ [46, 48]) = false := by simp [k2]
          have k5 : (Sem.canonical x == x ++ [46, 48, 46, 48]) = true := by
            rcases h3 with h | h
            · exact absurd h k2
            · simp [h]
          have k4 : (Sem.build x).isEmpty = true := by rw [h2]; rfl
          clear k2 h2 h3
          go_enter Try.func8, Try.ntmps8
          go_wp2_with (first | (go_at_call 20; refine (impl_CompareVersions _ _ _ (by first | omega | (simp; done) | (simp; omega)) (by first | omega | (simp; done) | (simp; omega))).mono ?_; rintro e w' ⟨rfl, hb⟩) | (go_at_call 17; refine (impl_VersionOk _ _ (by first | omega | (simp; done) | (simp; omega))).mono ?_; rintro e w' ⟨rfl, hb⟩) | (go_at_call 25; refine (impl_CanonicalVersion _ _ (by first | omega | (simp; done) | (simp; omega))).mono ?_; rintro e w' ⟨rfl, hb⟩) | (go_at_call 28; refine (impl_MajorOf _ _ (by first | omega | (simp; done) | (simp; omega))).mono ?_; rintro e w' ⟨rfl, hb⟩) | (go_at_call 29; refine (impl_MajorMinorOf _ _ (by first | omega | (simp; done) | (simp; omega))).mono ?_; rintro e w' ⟨rfl, hb⟩) | (go_at_call 21; refine (impl_PrereleaseOf _ _ (by first | omega | (simp; done) | (simp; omega))).mono ?_; rintro e w' ⟨rfl, hb⟩) | (go_at_call 22; refine (impl_BuildOf _ _ (by first | omega | (simp; done) | (simp; omega))).mono ?_; rintro e w' ⟨rfl, hb⟩) | (go_at_call 19; refine (impl_MaxVersion _ _ _ (by first | omega | (simp; done) | (simp; omega)) (by first | omega | (simp; done) | (simp; omega))).mono ?_; rintro e w' ⟨rfl, hb⟩) | (go_at_call 16; refine (veWorks_any _).mono ?_; rintro e w' ⟨rfl, hb⟩))
          go_ret
          exact ⟨rfl, (by repeat (first | (with_reducible assumption) | (with_reducible exact Below.refl _ _) | (with_reducible refine bl_next' ?_ (by with_reducible assumption))))⟩

set_option maxHeartbeats 2000000 in
theorem walk_FnCanonicalTwice (s0 : ByteArray) (w : World) (b0 : s0.size ≤ 140737488351232) :
    Calls Try.prog 11 #[.string s0] w fun e w' => e = .returned (.bool true) ∧ Below w.heap.size w w' := by
  rw [← len_of] at b0
  rw [str_of]
  generalize s0.data.toList = x at *
  have hl0 := canonical_len' x
  have h1 : (Sem.canonical (Sem.canonical x) == Sem.canonical x) = true := by rw [Sem.canon_idem]; simp
  have h2 := Sem.build_canon x
  have h3 : (Sem.prerelease (Sem.canonical x) == Sem.prerelease x) = true := by rw [Sem.pre_canon]; simp
  cases hx : Sem.parse x with
  | none =>
    have k1 : Sem.isValid x = false := by unfold Sem.isValid; rw [hx]; rfl
    have k2 : (Sem.canonical x).isEmpty = true := by rw [Sem.canon_none hx]; rfl
    clear hx
    go_enter Try.func11, Try.ntmps11
    go_wp2_with (first | (go_at_call 20; refine (impl_CompareVersions _ _ _ (by first | omega | (simp; done) | (simp; omega)) (by first | omega | (simp; done) | (simp; omega))).mono ?_; rintro e w' ⟨rfl, hb⟩) | (go_at_call 17; refine (impl_VersionOk _ _ (by first | omega | (simp; done) | (simp; omega))).mono ?_; rintro e w' ⟨rfl, hb⟩) | (go_at_call 25; refine (impl_CanonicalVersion _ _ (by first | omega | (simp; done) | (simp; omega))).mono ?_; rintro e w' ⟨rfl, hb⟩) | (go_at_call 28; refine (impl_MajorOf _ _ (by first | omega | (simp; done) | (simp; omega))).mono ?_; rintro e w' ⟨rfl, hb⟩) | (go_at_call 29; refine (impl_MajorMinorOf _ _ (by first | omega | (simp; done) | (simp; omega))).mono ?_; rintro e w' ⟨rfl, hb⟩) | (go_at_call 21; refine (impl_PrereleaseOf _ _ (by first | omega | (simp; done) | (simp; omega))).mono ?_; rintro e w' ⟨rfl, hb⟩) | (go_at_call 22; refine (impl_BuildOf _ _ (by first | omega | (simp; done) | (simp; omega))).mono ?_; rintro e w' ⟨rfl, hb⟩) | (go_at_call 19; refine (impl_MaxVersion _ _ _ (by first | omega | (simp; done) | (simp; omega)) (by first | omega | (simp; done) | (simp; omega))).mono ?_; rintro e w' ⟨rfl, hb⟩) | (go_at_call 16; refine (veWorks_any _).mono ?_; rintro e w' ⟨rfl, hb⟩))
    go_ret
    exact ⟨rfl, (by repeat (first | (with_reducible assumption) | (with_reducible exact Below.refl _ _) | (with_reducible refine bl_next' ?_ (by with_reducible assumption))))⟩
  | some v =>
    have k1 : Sem.isValid x = true := by unfold Sem.isValid; rw [hx]; rfl
    have k2 : (Sem.canonical x).isEmpty = false := by have := Sem.canon_ne hx; cases h : Sem.canonical x with | nil => exact absurd h this | cons => rfl
    clear hx
    go_enter Try.func11, Try.ntmps11
    go_wp2_with (first | (go_at_call 20; refine (impl_CompareVersions _ _ _ (by first | omega | (simp; done) | (simp; omega)) (by first | omega | (simp; done) | (simp; omega))).mono ?_; rintro e w' ⟨rfl, hb⟩) | (go_at_call 17; refine (impl_VersionOk _ _ (by first | omega | (simp; done) | (simp; omega))).mono ?_; rintro e w' ⟨rfl, hb⟩) | (go_at_call 25; refine (impl_CanonicalVersion _ _ (by first | omega | (simp; done) | (simp; omega))).mono ?_; rintro e w' ⟨rfl, hb⟩) | (go_at_call 28; refine (impl_MajorOf _ _ (by first | omega | (simp; done) | (simp; omega))).mono ?_; rintro e w' ⟨rfl, hb⟩) | (go_at_call 29; refine (impl_MajorMinorOf _ _ (by first | omega | (simp; done) | (simp; omega))).mono ?_; rintro e w' ⟨rfl, hb⟩) | (go_at_call 21; refine (impl_PrereleaseOf _ _ (by first | omega | (simp; done) | (simp; omega))).mono ?_; rintro e w' ⟨rfl, hb⟩) | (go_at_call 22; refine (impl_BuildOf _ _ (by first | omega | (simp; done) | (simp; omega))).mono ?_; rintro e w' ⟨rfl, hb⟩) | (go_at_call 19; refine (impl_MaxVersion _ _ _ (by first | omega | (simp; done) | (simp; omega)) (by first | omega | (simp; done) | (simp; omega))).mono ?_; rintro e w' ⟨rfl, hb⟩) | (go_at_call 16; refine (veWorks_any _).mono ?_; rintro e w' ⟨rfl, hb⟩))
    go_ret
    exact ⟨rfl, (by repeat (first | (with_reducible assumption) | (with_reducible exact Below.refl _ _) | (with_reducible refine bl_next' ?_ (by with_reducible assumption))))⟩

set_option maxHeartbeats 2000000 in
theorem walk_FnPartsSame (s0 : ByteArray) (w : World) (b0 : s0.size ≤ 140737488351232) :
    Calls Try.prog 13 #[.string s0] w fun e w' => e = .returned (.bool true) ∧ Below w.heap.size w w' := by
  rw [← len_of] at b0
  rw [str_of]
  generalize s0.data.toList = x at *
  have hl0 := canonical_len' x
  have h1 : (Sem.majorOf (Sem.canonical x) == Sem.majorOf x) = true := by rw [Sem.major_canon]; simp
  have h2 : (Sem.majorMinor (Sem.canonical x) == Sem.majorMinor x) = true := by rw [Sem.majorMinor_canon]; simp
  have h3 : (Sem.prerelease (Sem.canonical x) == Sem.prerelease x) = true := by rw [Sem.pre_canon]; simp
  have h4 := Sem.isValid_canon x
  cases hv : Sem.isValid x
  all_goals
    rw [hv] at h4
    go_enter Try.func13, Try.ntmps13
    go_wp2_with (first | (go_at_call 20; refine (impl_CompareVersions _ _ _ (by first | omega | (simp; done) | (simp; omega)) (by first | omega | (simp; done) | (simp; omega))).mono ?_; rintro e w' ⟨rfl, hb⟩) | (go_at_call 17; refine (impl_VersionOk _ _ (by first | omega | (simp; done) | (simp; omega))).mono ?_; rintro e w' ⟨rfl, hb⟩) | (go_at_call 25; refine (impl_CanonicalVersion _ _ (by first | omega | (simp; done) | (simp; omega))).mono ?_; rintro e w' ⟨rfl, hb⟩) | (go_at_call 28; refine (impl_MajorOf _ _ (by first | omega | (simp; done) | (simp; omega))).mono ?_; rintro e w' ⟨rfl, hb⟩) | (go_at_call 29; refine (impl_MajorMinorOf _ _ (by first | omega | (simp; done) | (simp; omega))).mono ?_; rintro e w' ⟨rfl, hb⟩) | (go_at_call 21; refine (impl_PrereleaseOf _ _ (by first | omega | (simp; done) | (simp; omega))).mono ?_; rintro e w' ⟨rfl, hb⟩) | (go_at_call 22; refine (impl_BuildOf _ _ (by first | omega | (simp; done) | (simp; omega))).mono ?_; rintro e w' ⟨rfl, hb⟩) | (go_at_call 19; refine (impl_MaxVersion _ _ _ (by first | omega | (simp; done) | (simp; omega)) (by first | omega | (simp; done) | (simp; omega))).mono ?_; rintro e w' ⟨rfl, hb⟩) | (go_at_call 16; refine (veWorks_any _).mono ?_; rintro e w' ⟨rfl, hb⟩))
    go_ret
    exact ⟨rfl, (by repeat (first | (with_reducible assumption) | (with_reducible exact Below.refl _ _) | (with_reducible refine bl_next' ?_ (by with_reducible assumption))))⟩

end Go.Proofs.Ytoefecanbmpkjaa
