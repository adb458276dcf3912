/- The walk of FnLessSort: it returns true. Condition: each text takes at most 2 to the power of 47 bytes, and so do the list's headers. -/
import Derived.Test.YtienkoadkhcghaaSortLaws
import Derived.Test.YtienkoadkhcghaaSpec14
namespace Go.Proofs.Ytienkoadkhcghaa
open Go.RowKit
attribute [local go_sem] app_str

theorem two_strs (w : World) (x y : List UInt8) : StrsAt (w.alloc (Obj.cells #[str x, str y] 9)) (.slice (some ⟨w.heap.size, 0, none⟩) 2 2) [x, y] := by
  refine ⟨_, _, rfl, by simp, by omega, .inr ⟨w.heap.size, 0, rfl, by simp, fun k u hu => ?_⟩⟩
  rw [Nat.zero_add, cell_of_row (w.alloc _) _ _ _ 9 (0, 0) (heap_alloc_new w _)]
  match k, hu with
  | 0, hu => simp at hu; subst hu; rfl
  | 1, hu => simp at hu; subst hu; rfl
set_option maxHeartbeats 4000000 in
theorem walk_FnLessSort (v0 : Value) (xs : List (List UInt8)) (i k : Int) (w : World)
    (h0 : StrsAt w v0 xs ∧ (∀ x ∈ xs, x.length ≤ 140737488351232) ∧ xs.length ≤ 8796093021952) (_ : (Lit.int .i64 i).wf = true) (_ : (Lit.int .i64 k).wf = true) :
    Calls Try.prog 3 #[v0, .int .i64 i, .int .i64 k] w fun e w' => e = .returned (.bool true) ∧ Below w.heap.size w w' := by
  obtain ⟨h0, hl, hn⟩ := h0
  have H0 := Lib.hid h0
  obtain ⟨A, c, rfl, hc, hm, h⟩ := h0
  by_cases hne : xs = []
  · subst hne
    have HL := Lib.hid (impl_LessVersion _ [] i k w H0.out (fun x hx => by cases hx) (by simp))
    rw [lessAt_nil] at HL
    go_enter Try.func3, Try.ntmps3
    go_wp2_with fail
    refine HL.out.mono ?_
    rintro e w1 ⟨rfl, hb⟩
    go_wp2_with (first | (go_at_call 24; refine (impl_CompareVersions _ _ _ (by first | omega | (simp; done) | (simp; omega)) (by first | omega | (simp; done) | (simp; omega))).mono ?_; rintro e w' ⟨rfl, hb⟩) | (go_at_call 27; refine (impl_VersionOk _ _ (by first | omega | (simp; done) | (simp; omega))).mono ?_; rintro e w' ⟨rfl, hb⟩) | (go_at_call 17; refine (impl_CanonicalVersion _ _ (by first | omega | (simp; done) | (simp; omega))).mono ?_; rintro e w' ⟨rfl, hb⟩) | (go_at_call 16; refine (impl_MaxVersion _ _ _ (by first | omega | (simp; done) | (simp; omega)) (by first | omega | (simp; done) | (simp; omega))).mono ?_; rintro e w' ⟨rfl, hb⟩) | (go_at_call 11; refine (veWorks_any _).mono ?_; rintro e w' ⟨rfl, hb⟩))
    go_ret
    exact ⟨rfl, (by repeat (first | (with_reducible assumption) | (with_reducible exact Below.refl _ _) | (with_reducible refine bl_next' ?_ (by with_reducible assumption))))⟩
  · obtain ⟨p, hp, ei⟩ := mod_at xs hne i
    obtain ⟨q, hq, ek⟩ := mod_at xs hne k
    obtain ⟨b, off, rfl, hlt, hcell⟩ := h.resolve_left hne
    have hx := hcell p xs[p] (List.getElem?_eq_getElem hp)
    have hy := hcell q xs[q] (List.getElem?_eq_getElem hq)
    have hxl := hl xs[p] (List.getElem_mem hp)
    have hyl := hl xs[q] (List.getElem_mem hq)
    have HL1 := Lib.hid (fun w' (hw : StrsAt w' (.slice (some ⟨b, off, none⟩) xs.length c) xs) => impl_LessVersion _ xs i k w' hw (fun x hx => by have := hl x hx; omega) (by omega))
    rw [lessAt_eq hp hq ei ek] at HL1
    have hati : ∀ w', Calls Try.prog 12 #[.int .i64 i, .int .i64 xs.length] w' fun e w'' => e = .returned (.int .i64 p) ∧ w' = w'' := fun w' => by have := at_any i xs.length w' (by omega) (by omega); rw [ei] at this; exact this
    have hatk : ∀ w', Calls Try.prog 12 #[.int .i64 k, .int .i64 xs.length] w' fun e w'' => e = .returned (.int .i64 q) ∧ w' = w'' := fun w' => by have := at_any k xs.length w' (by omega) (by omega); rw [ek] at this; exact this
    have HATI := Lib.hid hati
    have HATK := Lib.hid hatk
    have hq0 : ((xs.length : Int) == 0) = false := by rw [beq_eq_false_iff_ne]; omega
    clear hcell hl ei ek hati hatk hne h
    generalize xs[p] = x at *
    generalize xs[q] = y at *
    generalize hN : xs.length = n at *
    clear hN
    have hsrt := Sem.sort_two x y
    by_cases hlt2 : Sem.cmpVersion x y < 0
    · rw [if_pos hlt2] at hsrt
      rw [decide_eq_true hlt2] at HL1
      have hxy : x ≠ y := by rintro rfl; rw [Sem.lin_version.self] at hlt2; omega
      have hbn : (x == y) = false := by simp [hxy]
      have hbe : (x == x) = true := by simp
      have HSRT := Lib.hid hsrt
      clear hsrt hlt2 hxy
      go_enter Try.func3, Try.ntmps3
      go_wp2_with fail
      go_quiet (first
        | (go_at_call_of 12 i; exact Calls.quiet_of_same ((HATI.out _).mono (fun _ _ h => ⟨h.1, h.2.symm⟩)))
        | (go_at_call_of 12 k; exact Calls.quiet_of_same ((HATK.out _).mono (fun _ _ h => ⟨h.1, h.2.symm⟩))))
      go_wp2_with fail
      refine (impl_SortVersions _ [y, x] _ (two_strs (w.drewN _) y x) (fun z hz => by simp at hz; rcases hz with rfl | rfl <;> omega) (by simp)).mono ?_
      rintro e w1 ⟨⟨A1, c1, rfl, h1⟩, hb1⟩
      rw [HSRT.out] at h1
      have HB1 : Hid (Below w.heap.size w w1) := Lib.hid (bl_chain (bl_drewN (Below.refl _ _) _) hb1)
      have H1 := Lib.hid h1
      obtain ⟨A1', c1', e1, hcc, hcm, h1⟩ := h1
      simp only [Value.slice.injEq] at e1
      obtain ⟨rfl, -, rfl⟩ := e1
      obtain ⟨b3, off3, rfl, hbl3, hc3⟩ := h1.resolve_left (by simp)
      have HC3 := Lib.hid hc3
      clear hb1 h1 hc3
      go_wp2_with fail
      refine (HL1.out _ (H0.out.below HB1.out)).mono ?_
      rintro e w2 ⟨rfl, hb2⟩
      have d0 : w2.cell? ⟨b3, off3, none⟩ = some (str x) := (hb2.cell (p := ⟨b3, off3, none⟩) hbl3).trans (by simpa using HC3.out 0 x rfl)
      have HB2 : Hid (Below w.heap.size w w2) := Lib.hid (bl_next' HB1.out hb2)
      clear hb2
      go_wp2_with fail
      go_ret
      exact ⟨by simp, HB2.out⟩
    · rw [if_neg hlt2] at hsrt
      rw [decide_eq_false hlt2] at HL1
      have HSRT := Lib.hid hsrt
      clear hsrt hlt2
      by_cases hxy : x = y
      · have hbn : (x == y) = true := by simp [hxy]
        clear hxy
        go_enter Try.func3, Try.ntmps3
        go_wp2_with fail
        go_quiet (first
          | (go_at_call_of 12 i; exact Calls.quiet_of_same ((HATI.out _).mono (fun _ _ h => ⟨h.1, h.2.symm⟩)))
          | (go_at_call_of 12 k; exact Calls.quiet_of_same ((HATK.out _).mono (fun _ _ h => ⟨h.1, h.2.symm⟩))))
        go_wp2_with fail
        refine (impl_SortVersions _ [y, x] _ (two_strs (w.drewN _) y x) (fun z hz => by simp at hz; rcases hz with rfl | rfl <;> omega) (by simp)).mono ?_
        rintro e w1 ⟨⟨A1, c1, rfl, h1⟩, hb1⟩
        rw [HSRT.out] at h1
        have HB1 : Hid (Below w.heap.size w w1) := Lib.hid (bl_chain (bl_drewN (Below.refl _ _) _) hb1)
        have H1 := Lib.hid h1
        obtain ⟨A1', c1', e1, hcc, hcm, h1⟩ := h1
        simp only [Value.slice.injEq] at e1
        obtain ⟨rfl, -, rfl⟩ := e1
        obtain ⟨b3, off3, rfl, hbl3, hc3⟩ := h1.resolve_left (by simp)
        have HC3 := Lib.hid hc3
        clear hb1 h1 hc3
        go_wp2_with fail
        refine (HL1.out _ (H0.out.below HB1.out)).mono ?_
        rintro e w2 ⟨rfl, hb2⟩
        have d0 : w2.cell? ⟨b3, off3, none⟩ = some (str y) := (hb2.cell (p := ⟨b3, off3, none⟩) hbl3).trans (by simpa using HC3.out 0 y rfl)
        have HB2 : Hid (Below w.heap.size w w2) := Lib.hid (bl_next' HB1.out hb2)
        clear hb2
        go_wp2_with fail
        go_ret
        exact ⟨rfl, HB2.out⟩
      · have hbn : (x == y) = false := by simp [hxy]
        have hbe : (y == x) = false := by simp; exact fun e => hxy e.symm
        clear hxy
        go_enter Try.func3, Try.ntmps3
        go_wp2_with fail
        go_quiet (first
          | (go_at_call_of 12 i; exact Calls.quiet_of_same ((HATI.out _).mono (fun _ _ h => ⟨h.1, h.2.symm⟩)))
          | (go_at_call_of 12 k; exact Calls.quiet_of_same ((HATK.out _).mono (fun _ _ h => ⟨h.1, h.2.symm⟩))))
        go_wp2_with fail
        refine (impl_SortVersions _ [y, x] _ (two_strs (w.drewN _) y x) (fun z hz => by simp at hz; rcases hz with rfl | rfl <;> omega) (by simp)).mono ?_
        rintro e w1 ⟨⟨A1, c1, rfl, h1⟩, hb1⟩
        rw [HSRT.out] at h1
        have HB1 : Hid (Below w.heap.size w w1) := Lib.hid (bl_chain (bl_drewN (Below.refl _ _) _) hb1)
        have H1 := Lib.hid h1
        obtain ⟨A1', c1', e1, hcc, hcm, h1⟩ := h1
        simp only [Value.slice.injEq] at e1
        obtain ⟨rfl, -, rfl⟩ := e1
        obtain ⟨b3, off3, rfl, hbl3, hc3⟩ := h1.resolve_left (by simp)
        have HC3 := Lib.hid hc3
        clear hb1 h1 hc3
        go_wp2_with fail
        refine (HL1.out _ (H0.out.below HB1.out)).mono ?_
        rintro e w2 ⟨rfl, hb2⟩
        have d0 : w2.cell? ⟨b3, off3, none⟩ = some (str y) := (hb2.cell (p := ⟨b3, off3, none⟩) hbl3).trans (by simpa using HC3.out 0 y rfl)
        have HB2 : Hid (Below w.heap.size w w2) := Lib.hid (bl_next' HB1.out hb2)
        clear hb2
        go_wp2_with fail
        go_ret
        exact ⟨rfl, HB2.out⟩

end Go.Proofs.Ytienkoadkhcghaa
