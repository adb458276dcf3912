/- Contracts of semver.Compare, IsValid, Canonical, Major, MajorMinor, Prerelease, Build, Max and of the thin package's functions over them: what each returns, as the plain functions of Sem tell. Condition: the texts are no longer than 2 to the power of 50. -/
import Derived.Test.YtienkoadkhcghaaSemWalks5
import Derived.Test.YtienkoadkhcghaaSemForm
namespace Go.Proofs.Ytienkoadkhcghaa
open Go.RowKit

theorem bcell {W w1 : World} (hb : Below W.heap.size W w1) : (∀ b o, b < W.heap.size → w1.cell? ⟨b, o, none⟩ = W.cell? ⟨b, o, none⟩) ∧ (∀ b o, b < W.heap.size → w1.frozen? ⟨b, o, none⟩ = W.frozen? ⟨b, o, none⟩) :=
  ⟨fun b o h => hb.cell (p := ⟨b, o, none⟩) h, fun b o h => hb.frozen (p := ⟨b, o, none⟩) h⟩

theorem bl_chain {w w1 w2 : World} {o : Obj} (h1 : Below w.heap.size w w1) (h2 : Below (w1.alloc o).heap.size (w1.alloc o) w2) : Below w.heap.size w w2 :=
  (h1.alloc h1.size o).trans (h2.mono (by simp; have := h1.size; omega))
theorem bl_more {w w1 : World} (h1 : Below w.heap.size w w1) (o : Obj) : Below w.heap.size w (w1.alloc o) := h1.alloc h1.size o

theorem old_cell {w1 w2 : World} {cs : Array Value} {t : TypeId} (hb2 : Below (w1.alloc (.cells cs t)).heap.size (w1.alloc (.cells cs t)) w2) (i : Nat) (v : Value) (h : cs[i]? = some v) (o : Obj) :
    (w2.alloc o).cell? ⟨w1.heap.size, i, none⟩ = some v := by
  have hs := hb2.size
  have e : (w1.alloc (.cells cs t)).heap.size = w1.heap.size + 1 := by simp
  rw [World.cell?_alloc_lt w2 o _ (by show w1.heap.size < w2.heap.size; omega), hb2.cell (p := ⟨w1.heap.size, i, none⟩) (by show w1.heap.size < _; omega), ← h]
  exact cell_of_row _ _ _ cs t (0, 0) (heap_alloc_new w1 _)

theorem cmp_zero {x : Int} (h : x = 0) : (x != 0) = false := by simp [h]
theorem cmp_nz {x : Int} (h : x ≠ 0) : (x != 0) = true := by simp [h]

set_option maxHeartbeats 2000000 in
set_option maxRecDepth 100000 in
theorem compare_any (x y : List UInt8) (w : World) (hx : x.length ≤ 1125899906842624) (hy : y.length ≤ 1125899906842624) :
    Calls Try.prog 33 #[str x, str y] w fun e w' => e = .returned (.int .i64 (Sem.compare x y)) ∧ Below w.heap.size w w' := by
  go_enter Try.func33, Try.ntmps33
  go_wp2_with fail
  refine (parse_any x _ (by omega)).mono ?_
  rintro e w1 ⟨hP1, hb1⟩
  rcases hP1 with ⟨v, hv, rfl⟩ | ⟨hv, v, rfl⟩
  · obtain ⟨v1, v2, v3, v4, v5, v6⟩ := v
    have hlv := Sem.parse_len hv
    have hpv := Sem.parse_pre hv
    simp only at hlv hpv
    have HV := Lib.hid hv
    have HPV := Lib.hid hpv
    obtain ⟨hlv1, hlv2, hlv3, hlv4, hlv5, hlv6⟩ := hlv
    clear hv hpv
    unfold verV
    go_wp2_with fail
    refine (parse_any y _ (by omega)).mono ?_
    rintro e w2 ⟨hP2, hb2⟩
    have q0 := old_cell hb2 0 _ rfl
    have q1 := old_cell hb2 1 _ rfl
    have q2 := old_cell hb2 2 _ rfl
    have q4 := old_cell hb2 4 _ rfl
    have HB2 := Lib.hid hb2
    clear hb2
    rcases hP2 with ⟨u, hu, rfl⟩ | ⟨hu, u, rfl⟩
    · obtain ⟨u1, u2, u3, u4, u5, u6⟩ := u
      have hlu := Sem.parse_len hu
      have hpu := Sem.parse_pre hu
      simp only at hlu hpu
      have HU := Lib.hid hu
      have HPU := Lib.hid hpu
      obtain ⟨hlu1, hlu2, hlu3, hlu4, hlu5, hlu6⟩ := hlu
      clear hu hpu
      have hcv : Sem.compare x y = Sem.cmpVer ⟨v1, v2, v3, v4, v5, v6⟩ ⟨u1, u2, u3, u4, u5, u6⟩ := by unfold Sem.compare; rw [HV.out, HU.out]
      unfold Sem.cmpVer at hcv
      simp only at hcv
      have HCV := Lib.hid hcv
      clear hcv
      unfold verV
      by_cases k1 : Sem.cmpInt v1 u1 = 0
      · have K1 := Lib.hid k1
        have b1 := cmp_zero k1
        clear k1
        by_cases k2 : Sem.cmpInt v2 u2 = 0
        · have K2 := Lib.hid k2
          have b2 := cmp_zero k2
          clear k2
          by_cases k3 : Sem.cmpInt v3 u3 = 0
          · have K3 := Lib.hid k3
            have b3 := cmp_zero k3
            clear k3
            go_wp2_with (first | (go_at_call 39; refine (compareInt_any _ _ _ (by omega) (by omega)).mono ?_; rintro e w' ⟨rfl, rfl⟩) | (go_at_call 40; refine (comparePre_any _ _ _ (by omega) (by omega) HPV.out HPU.out).mono ?_; rintro e w' ⟨rfl, n, rfl⟩))
            go_ret
            exact ⟨ret_int' (by rw [HCV.out]; simp [K1.out, K2.out, K3.out]), bl_drewN (bl_more (bl_chain hb1 HB2.out) _) _⟩
          · have K3 := Lib.hid k3
            have b3 := cmp_nz k3
            clear k3
            go_wp2_with (first | (go_at_call 39; refine (compareInt_any _ _ _ (by omega) (by omega)).mono ?_; rintro e w' ⟨rfl, rfl⟩) | (go_at_call 40; refine (comparePre_any _ _ _ (by omega) (by omega) HPV.out HPU.out).mono ?_; rintro e w' ⟨rfl, n, rfl⟩))
            go_ret
            exact ⟨ret_int' (by rw [HCV.out]; simp [K1.out, K2.out, K3.out]), bl_more (bl_chain hb1 HB2.out) _⟩
        · have K2 := Lib.hid k2
          have b2 := cmp_nz k2
          clear k2
          go_wp2_with (first | (go_at_call 39; refine (compareInt_any _ _ _ (by omega) (by omega)).mono ?_; rintro e w' ⟨rfl, rfl⟩) | (go_at_call 40; refine (comparePre_any _ _ _ (by omega) (by omega) HPV.out HPU.out).mono ?_; rintro e w' ⟨rfl, n, rfl⟩))
          go_ret
          exact ⟨ret_int' (by rw [HCV.out]; simp [K1.out, K2.out]), bl_more (bl_chain hb1 HB2.out) _⟩
      · have K1 := Lib.hid k1
        have b1 := cmp_nz k1
        clear k1
        go_wp2_with (first | (go_at_call 39; refine (compareInt_any _ _ _ (by omega) (by omega)).mono ?_; rintro e w' ⟨rfl, rfl⟩) | (go_at_call 40; refine (comparePre_any _ _ _ (by omega) (by omega) HPV.out HPU.out).mono ?_; rintro e w' ⟨rfl, n, rfl⟩))
        go_ret
        exact ⟨ret_int' (by rw [HCV.out]; simp [K1.out]), bl_more (bl_chain hb1 HB2.out) _⟩
    · have HU := Lib.hid hu
      clear hu
      obtain ⟨u1, u2, u3, u4, u5, u6⟩ := u
      unfold verV
      go_wp2_with fail
      go_ret
      exact ⟨ret_int' (by unfold Sem.compare; rw [HV.out, HU.out]), bl_more (bl_chain hb1 HB2.out) _⟩
  · obtain ⟨v1, v2, v3, v4, v5, v6⟩ := v
    have HV := Lib.hid hv
    clear hv
    unfold verV
    go_wp2_with fail
    refine (parse_any y _ (by omega)).mono ?_
    rintro e w2 ⟨hP2, hb2⟩
    have HB2 := Lib.hid hb2
    clear hb2
    rcases hP2 with ⟨u, hu, rfl⟩ | ⟨hu, u, rfl⟩
    · have HU := Lib.hid hu
      clear hu
      obtain ⟨u1, u2, u3, u4, u5, u6⟩ := u
      unfold verV
      go_wp2_with fail
      go_ret
      exact ⟨ret_int' (by unfold Sem.compare; rw [HV.out, HU.out]), bl_more (bl_chain hb1 HB2.out) _⟩
    · have HU := Lib.hid hu
      clear hu
      obtain ⟨u1, u2, u3, u4, u5, u6⟩ := u
      unfold verV
      go_wp2_with fail
      go_ret
      exact ⟨ret_int' (by unfold Sem.compare; rw [HV.out, HU.out]), bl_more (bl_chain hb1 HB2.out) _⟩

set_option maxHeartbeats 400000 in
theorem impl_CompareVersions (x y : List UInt8) (w : World) (hx : x.length ≤ 1125899906842624) (hy : y.length ≤ 1125899906842624) :
    Calls Try.prog 24 #[str x, str y] w fun e w' => e = .returned (.int .i64 (Sem.compare x y)) ∧ Below w.heap.size w w' := by
  go_enter Try.func24, Try.ntmps24
  go_wp2_with fail
  refine (compare_any x y _ hx hy).mono ?_
  rintro e w' ⟨rfl, hb⟩
  go_wp2_with fail
  go_ret
  exact ⟨rfl, hb⟩

set_option maxHeartbeats 400000 in
theorem isValid_any (x : List UInt8) (w : World) (hx : x.length ≤ 1125899906842624) :
    Calls Try.prog 35 #[str x] w fun e w' => e = .returned (.bool (Sem.isValid x)) ∧ Below w.heap.size w w' := by
  go_enter Try.func35, Try.ntmps35
  go_wp2_with fail
  refine (parse_any x _ (by omega)).mono ?_
  rintro e w1 ⟨hP1, hb1⟩
  rcases hP1 with ⟨v, hv, rfl⟩ | ⟨hv, v, rfl⟩
  all_goals
    obtain ⟨v1, v2, v3, v4, v5, v6⟩ := v
    have HV := Lib.hid hv
    clear hv
    unfold verV
    go_wp2_with fail
    go_ret
    exact ⟨ret_bool (by unfold Sem.isValid; rw [HV.out]; rfl), bl_more hb1 _⟩

set_option maxHeartbeats 400000 in
theorem impl_VersionOk (x : List UInt8) (w : World) (hx : x.length ≤ 1125899906842624) :
    Calls Try.prog 27 #[str x] w fun e w' => e = .returned (.bool (Sem.isValid x)) ∧ Below w.heap.size w w' := by
  go_enter Try.func27, Try.ntmps27
  go_wp2_with fail
  refine (isValid_any x _ hx).mono ?_
  rintro e w' ⟨rfl, hb⟩
  go_wp2_with fail
  go_ret
  exact ⟨rfl, hb⟩

theorem ret_str {a b : List UInt8} (h : a = b) : Ending.returned (str a) = .returned (str b) := by rw [h]
theorem app_str (a b : List UInt8) : Value.string (ByteArray.mk a.toArray ++ ByteArray.mk b.toArray) = str (a ++ b) := by
  have e : (ByteArray.mk a.toArray ++ ByteArray.mk b.toArray) = ByteArray.mk (a ++ b).toArray := by
    apply ByteArray.ext
    simp
  rw [e]
theorem ret_app {a b t : List UInt8} (h : a ++ b = t) : Ending.returned (.string (ByteArray.mk a.toArray ++ ByteArray.mk b.toArray)) = .returned (str t) := by rw [app_str, h]
theorem ret_extract {l t : List UInt8} {a b : Nat} (h : (l.drop a).take (b - a) = t) : Ending.returned (.string ((ByteArray.mk l.toArray).extract a b)) = .returned (str t) := by rw [ext_str, h]

set_option maxHeartbeats 400000 in
theorem canonical_any (x : List UInt8) (w : World) (hx : x.length ≤ 1125899906842624) :
    Calls Try.prog 30 #[str x] w fun e w' => e = .returned (str (Sem.canonical x)) ∧ Below w.heap.size w w' := by
  go_enter Try.func30, Try.ntmps30
  go_wp2_with fail
  refine (parse_any x _ (by omega)).mono ?_
  rintro e w1 ⟨hP1, hb1⟩
  rcases hP1 with ⟨v, hv, rfl⟩ | ⟨hv, v, rfl⟩
  · obtain ⟨v1, v2, v3, v4, v5, v6⟩ := v
    obtain ⟨-, -, -, hl4, -, hl6⟩ := Sem.parse_len hv
    simp only at hl4 hl6
    have HV := Lib.hid hv
    clear hv
    unfold verV
    by_cases k6 : v6 = []
    · subst k6
      by_cases k4 : v4 = []
      · subst k4
        go_wp2_with fail
        go_ret
        exact ⟨ret_str (by unfold Sem.canonical; rw [HV.out]; simp), bl_more hb1 _⟩
      · have e4 : v4.isEmpty = false := by cases v4 with | nil => exact absurd rfl k4 | cons => rfl
        have K4 := Lib.hid k4
        clear k4
        go_wp2_with fail
        go_ret
        exact ⟨ret_app (by unfold Sem.canonical; rw [HV.out]; simp [K4.out]), bl_more hb1 _⟩
    · have e6 : v6.isEmpty = false := by cases v6 with | nil => exact absurd rfl k6 | cons => rfl
      have K6 := Lib.hid k6
      clear k6
      go_wp2_with fail
      go_ret
      exact ⟨ret_extract (by unfold Sem.canonical; rw [HV.out]; simp [K6.out]), bl_more hb1 _⟩
  · obtain ⟨v1, v2, v3, v4, v5, v6⟩ := v
    have HV := Lib.hid hv
    clear hv
    unfold verV
    go_wp2_with fail
    go_ret
    exact ⟨ret_str (by unfold Sem.canonical; rw [HV.out]), bl_more hb1 _⟩

end Go.Proofs.Ytienkoadkhcghaa
