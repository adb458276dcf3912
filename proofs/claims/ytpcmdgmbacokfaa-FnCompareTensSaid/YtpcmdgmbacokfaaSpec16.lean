/- The walk of FnCompareTens: it returns true. Condition: each text takes at most 2 to the power of 47 bytes. -/
import Derived.Test.YtpcmdgmbacokfaaBw
import Derived.Test.YtpcmdgmbacokfaaSemLaws5
namespace Go.Proofs.Ytpcmdgmbacokfaa
open Go.RowKit
attribute [local go_sem] app_str bw_cell

theorem ver100_one (x : List UInt8) : Sem.ver100 [x] = [118, 49, 46, 48, 46, 48, 45] ++ x := by simp [Sem.ver100, Sem.withPre, Sem.preText, Sem.joinBy]
theorem ver100_x (x : List UInt8) : Sem.ver100 [[120], x] = [118, 49, 46, 48, 46, 48, 45, 120, 46] ++ x := by simp [Sem.ver100, Sem.withPre, Sem.preText, Sem.joinBy]
theorem ver100_t (x : List UInt8) : Sem.ver100 [120 :: x] = [118, 49, 46, 48, 46, 48, 45, 120] ++ x := by simp [Sem.ver100, Sem.withPre, Sem.preText, Sem.joinBy]
set_option maxHeartbeats 4000000 in
set_option maxRecDepth 100000 in
theorem walk_FnCompareTens (v0 : Value) (xs : List (List UInt8)) (v1 : Value) (ys : List (List UInt8)) (w : World)
    (h0 : StrsAt w v0 xs ∧ ∀ x ∈ xs, x.length ≤ 140737488351232) (h1 : StrsAt w v1 ys ∧ ∀ x ∈ ys, x.length ≤ 140737488351232) :
    Calls Try.prog 11 #[v0, v1] w fun e w' => e = .returned (.bool true) ∧ Below w.heap.size w w' := by
  obtain ⟨h0, hl0⟩ := h0
  obtain ⟨h1, hl1⟩ := h1
  have HN0 := Lib.hid (numbersGood_any v0 xs w h0 (fun x hx => by have := hl0 x hx; omega))
  have HN1 := Lib.hid (numbersGood_any v1 ys w h1 (fun x hx => by have := hl1 x hx; omega))
  cases g0 : Sem.numsGood xs with
  | false =>
    clear hl0 hl1 h0 h1
    go_enter Try.func11, Try.ntmps11
    go_wp2_with (first | (go_at_call 32; refine HN0.out.mono ?_; rintro e w' ⟨rfl, rfl⟩) | (first | (go_at_call 19; refine (impl_CompareVersions _ _ _ (by first | omega | (simp; done) | (simp; omega)) (by first | omega | (simp; done) | (simp; omega))).mono ?_; rintro e w' ⟨rfl, hb⟩) | (go_at_call 31; refine (impl_VersionOk _ _ (by first | omega | (simp; done) | (simp; omega))).mono ?_; rintro e w' ⟨rfl, hb⟩) | (go_at_call 17; refine (impl_CanonicalVersion _ _ (by first | omega | (simp; done) | (simp; omega))).mono ?_; rintro e w' ⟨rfl, hb⟩) | (go_at_call 37; refine (impl_MajorOf _ _ (by first | omega | (simp; done) | (simp; omega))).mono ?_; rintro e w' ⟨rfl, hb⟩) | (go_at_call 38; refine (impl_PrereleaseOf _ _ (by first | omega | (simp; done) | (simp; omega))).mono ?_; rintro e w' ⟨rfl, hb⟩) | (go_at_call 39; refine (impl_BuildOf _ _ (by first | omega | (simp; done) | (simp; omega))).mono ?_; rintro e w' ⟨rfl, hb⟩) | (go_at_call 21; refine (impl_MaxVersion _ _ _ (by first | omega | (simp; done) | (simp; omega)) (by first | omega | (simp; done) | (simp; omega))).mono ?_; rintro e w' ⟨rfl, hb⟩) | (go_at_call 28; refine (veWorks_any _).mono ?_; rintro e w' ⟨rfl, hb⟩)))
    go_ret
    exact ⟨rfl, (by repeat (first | (with_reducible assumption) | (with_reducible exact Below.refl _ _) | (with_reducible refine bl_next' ?_ (by with_reducible assumption))))⟩
  | true =>
    cases g1 : Sem.numsGood ys with
    | false =>
      clear hl0 hl1 h0 h1
      go_enter Try.func11, Try.ntmps11
      go_wp2_with fail
      refine HN0.out.mono ?_
      rintro e w' ⟨rfl, rfl⟩
      go_wp2_with fail
      refine HN1.out.mono ?_
      rintro e w' ⟨rfl, rfl⟩
      go_wp2_with (first | (go_at_call 19; refine (impl_CompareVersions _ _ _ (by first | omega | (simp; done) | (simp; omega)) (by first | omega | (simp; done) | (simp; omega))).mono ?_; rintro e w' ⟨rfl, hb⟩) | (go_at_call 31; refine (impl_VersionOk _ _ (by first | omega | (simp; done) | (simp; omega))).mono ?_; rintro e w' ⟨rfl, hb⟩) | (go_at_call 17; refine (impl_CanonicalVersion _ _ (by first | omega | (simp; done) | (simp; omega))).mono ?_; rintro e w' ⟨rfl, hb⟩) | (go_at_call 37; refine (impl_MajorOf _ _ (by first | omega | (simp; done) | (simp; omega))).mono ?_; rintro e w' ⟨rfl, hb⟩) | (go_at_call 38; refine (impl_PrereleaseOf _ _ (by first | omega | (simp; done) | (simp; omega))).mono ?_; rintro e w' ⟨rfl, hb⟩) | (go_at_call 39; refine (impl_BuildOf _ _ (by first | omega | (simp; done) | (simp; omega))).mono ?_; rintro e w' ⟨rfl, hb⟩) | (go_at_call 21; refine (impl_MaxVersion _ _ _ (by first | omega | (simp; done) | (simp; omega)) (by first | omega | (simp; done) | (simp; omega))).mono ?_; rintro e w' ⟨rfl, hb⟩) | (go_at_call 28; refine (veWorks_any _).mono ?_; rintro e w' ⟨rfl, hb⟩))
      go_ret
      exact ⟨rfl, (by repeat (first | (with_reducible assumption) | (with_reducible exact Below.refl _ _) | (with_reducible refine bl_next' ?_ (by with_reducible assumption))))⟩
    | true =>
      obtain ⟨x0, x1, x2, rfl, n0, n1, n2⟩ := good3 g0
      obtain ⟨y0, y1, y2, rfl, m0, m1, m2⟩ := good3 g1
      have lx0 := hl0 x0 (by simp)
      have ly0 := hl1 y0 (by simp)
      obtain ⟨A, c, rfl, hc, hm, h0⟩ := h0
      obtain ⟨A', c', rfl, hc', hm', h1⟩ := h1
      rcases h0 with h | ⟨b, off, rfl, hlt, hcell⟩
      · simp at h
      rcases h1 with h | ⟨b', off', rfl, hlt', hcell'⟩
      · simp at h
      have cx0 : w.cell? ⟨b, off, none⟩ = some (str x0) := by simpa using hcell 0 x0 rfl
      have cy0 : w.cell? ⟨b', off', none⟩ = some (str y0) := by simpa using hcell' 0 y0 rfl
      have key : ∀ n : List UInt8, Sem.Num n → n ≠ [48] →
          Sem.compare (118 :: n) (118 :: (n ++ [48])) = -1 ∧ Sem.compare ([118, 49, 46] ++ y0 ++ [46] ++ n) ([118, 49, 46] ++ y0 ++ [46] ++ (n ++ [48])) = -1 ∧
          Sem.compare ([118, 49, 46, 48, 46, 48, 45] ++ n) ([118, 49, 46, 48, 46, 48, 45] ++ (n ++ [48])) = -1 ∧
          Sem.compare ([118, 49, 46, 48, 46, 48, 45, 120, 46] ++ (n ++ [48])) ([118, 49, 46, 48, 46, 48, 45, 120, 46] ++ n) = 1 ∧
          Sem.compare ([118, 49, 46, 48, 46, 48, 45, 120] ++ n) ([118, 49, 46, 48, 46, 48, 45, 120] ++ (n ++ [48])) = -1 := fun n hn h48 => by
        refine ⟨Sem.tens_major hn h48, ?_, ?_, ?_, ?_⟩
        · have := Sem.tens_patch m0 hn h48
          simpa using this
        · rw [← ver100_one, ← ver100_one]; exact Sem.tens_id hn h48
        · rw [← ver100_x, ← ver100_x]; exact Sem.tens_x hn h48
        · rw [← ver100_t, ← ver100_t]; exact Sem.tens_text hn h48
      clear hl0 hl1 hcell hcell' n1 n2 m0 m1 m2
      by_cases hz : x0 = [48]
      · have hbq : (x0 == [48]) = true := by simp [hz]
        obtain ⟨k1, k2, k3, k4, k5⟩ := key [49] (Sem.num_one _ (by decide)) (by decide)
        simp only [List.cons_append, List.nil_append, List.append_assoc] at k1 k2 k3 k4 k5
        clear key n0 hz
        go_enter Try.func11, Try.ntmps11
        go_wp2_with fail
        refine HN0.out.mono ?_
        rintro e w' ⟨rfl, rfl⟩
        go_wp2_with fail
        refine HN1.out.mono ?_
        rintro e w' ⟨rfl, rfl⟩
        go_wp2_with fail
        refine wp_region_bw (by kernel_rfl) (by kernel_rfl) ?_
        repeat (go_big_quiet_step (exact bw_call (impl_CompareVersions _ _ _ (by first | omega | (simp; done) | (simp; omega)) (by first | omega | (simp; done) | (simp; omega)))))
        refine wpQuiet_nil ?_
        intro _ hw'
        obtain ⟨⟨wq, hbq⟩, rfl⟩ := hw'
        go_wp2
        go_ret
        exact ⟨rfl, hbq⟩
      · have hbq : (x0 == [48]) = false := by simp [hz]
        obtain ⟨k1, k2, k3, k4, k5⟩ := key x0 n0 hz
        simp only [List.cons_append, List.nil_append, List.append_assoc] at k1 k2 k3 k4 k5
        clear key n0 hz
        go_enter Try.func11, Try.ntmps11
        go_wp2_with fail
        refine HN0.out.mono ?_
        rintro e w' ⟨rfl, rfl⟩
        go_wp2_with fail
        refine HN1.out.mono ?_
        rintro e w' ⟨rfl, rfl⟩
        go_wp2_with fail
        refine wp_region_bw (by kernel_rfl) (by kernel_rfl) ?_
        repeat (go_big_quiet_step (exact bw_call (impl_CompareVersions _ _ _ (by first | omega | (simp; done) | (simp; omega)) (by first | omega | (simp; done) | (simp; omega)))))
        refine wpQuiet_nil ?_
        intro _ hw'
        obtain ⟨⟨wq, hbq⟩, rfl⟩ := hw'
        go_wp2
        go_ret
        exact ⟨rfl, hbq⟩

end Go.Proofs.Ytpcmdgmbacokfaa
