/- The walk of FnZeros: it returns true. Condition: each text takes at most 2 to the power of 47 bytes. -/
import Derived.Test.YtpcmdgmbacokfaaSpec17
namespace Go.Proofs.Ytpcmdgmbacokfaa
open Go.RowKit
attribute [local go_sem] app_str

theorem own_some {w : World} {base n : Nat} {v : Value} {xs : List Value} (h : w.ownsRow base 9 1 v n xs) (hn : 0 < n) : ∃ g cap, v = .slice (some ⟨g, 0, none⟩) n cap ∧ base ≤ g := by
  rcases h.2 with ⟨_, h0⟩ | ⟨g, cap, cur, e, hb, _⟩
  · omega
  · exact ⟨g, cap, e, hb⟩
theorem own_cap {w : World} {base n g cap : Nat} {xs : List Value} (h : w.ownsRow base 9 1 (.slice (some ⟨g, 0, none⟩) n cap) n xs) : n ≤ cap ∧ cap ≤ 9223372036854775807 := by
  rcases h.2 with ⟨e, _⟩ | ⟨g', cap', cur, e, _, _, hnc, hcm, _⟩
  · cases e
  · cases e; exact ⟨hnc, hcm⟩

set_option maxHeartbeats 4000000 in
set_option maxRecDepth 100000 in
theorem walk_FnZeros (v0 : Value) (xs : List (List UInt8)) (v1 : Value) (ys : List (List UInt8)) (w : World)
    (h0 : StrsAt w v0 xs ∧ ∀ x ∈ xs, x.length ≤ 140737488351232) (h1 : StrsAt w v1 ys ∧ ∀ x ∈ ys, x.length ≤ 140737488351232) :
    Calls Try.prog 13 #[v0, v1] w fun e w' => e = .returned (.bool true) ∧ Below w.heap.size w w' := by
  obtain ⟨h0, hl0⟩ := h0
  obtain ⟨h1, hl1⟩ := h1
  have HN0 := Lib.hid (numbersGood_any v0 xs w h0 (fun x hx => by have := hl0 x hx; omega))
  have HN1 := Lib.hid (numbersGood_any v1 ys w h1 (fun x hx => by have := hl1 x hx; omega))
  cases g0 : Sem.numsGood xs with
  | false =>
    clear hl0 hl1 h0 h1
    go_enter Try.func13, Try.ntmps13
    go_wp2_with (first | (go_at_call 32; refine HN0.out.mono ?_; rintro e w' ⟨rfl, rfl⟩) | (first | (go_at_call 19; refine (impl_CompareVersions _ _ _ (by first | omega | (simp; done) | (simp; omega)) (by first | omega | (simp; done) | (simp; omega))).mono ?_; rintro e w' ⟨rfl, hb⟩) | (go_at_call 31; refine (impl_VersionOk _ _ (by first | omega | (simp; done) | (simp; omega))).mono ?_; rintro e w' ⟨rfl, hb⟩) | (go_at_call 17; refine (impl_CanonicalVersion _ _ (by first | omega | (simp; done) | (simp; omega))).mono ?_; rintro e w' ⟨rfl, hb⟩) | (go_at_call 37; refine (impl_MajorOf _ _ (by first | omega | (simp; done) | (simp; omega))).mono ?_; rintro e w' ⟨rfl, hb⟩) | (go_at_call 38; refine (impl_PrereleaseOf _ _ (by first | omega | (simp; done) | (simp; omega))).mono ?_; rintro e w' ⟨rfl, hb⟩) | (go_at_call 39; refine (impl_BuildOf _ _ (by first | omega | (simp; done) | (simp; omega))).mono ?_; rintro e w' ⟨rfl, hb⟩) | (go_at_call 21; refine (impl_MaxVersion _ _ _ (by first | omega | (simp; done) | (simp; omega)) (by first | omega | (simp; done) | (simp; omega))).mono ?_; rintro e w' ⟨rfl, hb⟩) | (go_at_call 28; refine (veWorks_any _).mono ?_; rintro e w' ⟨rfl, hb⟩)))
    go_ret
    exact ⟨rfl, (by repeat (first | (with_reducible assumption) | (with_reducible exact Below.refl _ _) | (with_reducible refine bl_next' ?_ (by with_reducible assumption))))⟩
  | true =>
    cases g1 : Sem.numsGood ys with
    | false =>
      clear hl0 hl1 h0 h1
      go_enter Try.func13, Try.ntmps13
      go_wp2_with fail
      refine HN0.out.mono ?_
      rintro e w' ⟨rfl, rfl⟩
      go_wp2_with fail
      refine HN1.out.mono ?_
      rintro e w' ⟨rfl, rfl⟩
      go_wp2_with (first | (go_at_call 19; refine (impl_CompareVersions _ _ _ (by first | omega | (simp; done) | (simp; omega)) (by first | omega | (simp; done) | (simp; omega))).mono ?_; rintro e w' ⟨rfl, hb⟩) | (go_at_call 31; refine (impl_VersionOk _ _ (by first | omega | (simp; done) | (simp; omega))).mono ?_; rintro e w' ⟨rfl, hb⟩) | (go_at_call 17; refine (impl_CanonicalVersion _ _ (by first | omega | (simp; done) | (simp; omega))).mono ?_; rintro e w' ⟨rfl, hb⟩) | (go_at_call 37; refine (impl_MajorOf _ _ (by first | omega | (simp; done) | (simp; omega))).mono ?_; rintro e w' ⟨rfl, hb⟩) | (go_at_call 38; refine (impl_PrereleaseOf _ _ (by first | omega | (simp; done) | (simp; omega))).mono ?_; rintro e w' ⟨rfl, hb⟩) | (go_at_call 39; refine (impl_BuildOf _ _ (by first | omega | (simp; done) | (simp; omega))).mono ?_; rintro e w' ⟨rfl, hb⟩) | (go_at_call 21; refine (impl_MaxVersion _ _ _ (by first | omega | (simp; done) | (simp; omega)) (by first | omega | (simp; done) | (simp; omega))).mono ?_; rintro e w' ⟨rfl, hb⟩) | (go_at_call 28; refine (veWorks_any _).mono ?_; rintro e w' ⟨rfl, hb⟩))
      go_ret
      exact ⟨rfl, (by repeat (first | (with_reducible assumption) | (with_reducible exact Below.refl _ _) | (with_reducible refine bl_next' ?_ (by with_reducible assumption))))⟩
    | true =>
      obtain ⟨x0, x1, x2, rfl, n0, n1, n2⟩ := good3 g0
      obtain ⟨y0, y1, y2, rfl, m0, m1, m2⟩ := good3 g1
      have lx0 := hl0 x0 (by simp)
      have lx1 := hl0 x1 (by simp)
      have lx2 := hl0 x2 (by simp)
      have ly0 := hl1 y0 (by simp)
      have ly1 := hl1 y1 (by simp)
      have ly2 := hl1 y2 (by simp)
      have HA := Lib.hid h0
      obtain ⟨A, c, rfl, hc, hm, h0⟩ := h0
      obtain ⟨A', c', rfl, hc', hm', h1⟩ := h1
      rcases h0 with h | ⟨b, off, rfl, hlt, hcell⟩
      · simp at h
      rcases h1 with h | ⟨b', off', rfl, hlt', hcell'⟩
      · simp at h
      have cx0 : w.cell? ⟨b, off, none⟩ = some (str x0) := by simpa using hcell 0 x0 rfl
      have cx1 : w.cell? ⟨b, off + 1, none⟩ = some (str x1) := hcell 1 x1 rfl
      have cx2 : w.cell? ⟨b, off + 2, none⟩ = some (str x2) := hcell 2 x2 rfl
      have cy0 : w.cell? ⟨b', off', none⟩ = some (str y0) := by simpa using hcell' 0 y0 rfl
      have cy1 : w.cell? ⟨b', off' + 1, none⟩ = some (str y1) := hcell' 1 y1 rfl
      have cy2 : w.cell? ⟨b', off' + 2, none⟩ = some (str y2) := hcell' 2 y2 rfl
      have hK : ∀ w' : World, Below w.heap.size w w' → (w'.cell? ⟨b', off', none⟩ = some (str y0) ∧ w'.cell? ⟨b', off' + 1, none⟩ = some (str y1) ∧ w'.cell? ⟨b', off' + 2, none⟩ = some (str y2)) := fun w' hb =>
        ⟨(hb.cell (p := ⟨b', off', none⟩) hlt').trans cy0, (hb.cell (p := ⟨b', off' + 1, none⟩) hlt').trans cy1, (hb.cell (p := ⟨b', off' + 2, none⟩) hlt').trans cy2⟩
      have HK := Lib.hid hK
      have z0 : Sem.isValid (118 :: Sem.joinBy [46] [48 :: x0, x1, x2]) = false := by
        have := Sem.zero_first n0 (46 :: (x1 ++ 46 :: x2)); simpa [Sem.joinBy] using this
      have z1 : Sem.isValid (118 :: Sem.joinBy [46] [x0, 48 :: x1, x2]) = false := by
        have := Sem.zero_second n0 n1 (46 :: x2); simpa [Sem.joinBy] using this
      have z2 : Sem.isValid (118 :: Sem.joinBy [46] [x0, x1, 48 :: x2]) = false := by
        have := Sem.zero_third n0 n1 n2 []; simpa [Sem.joinBy] using this
      have Z0 := Lib.hid (fun W => valid_is z0 W (by simp [Sem.joinBy]; omega))
      have Z1 := Lib.hid (fun W => valid_is z1 W (by simp [Sem.joinBy]; omega))
      have Z2 := Lib.hid (fun W => valid_is z2 W (by simp [Sem.joinBy]; omega))
      have E1 := Lib.hid (fun W => valid_is (Sem.pre_good n0 n1 n2 (Sem.num_good m0)) W (by simp; omega))
      have E2 := Lib.hid (fun W => valid_is (Sem.zero_pre n0 n1 n2 m0) W (by simp; omega))
      have E3 := Lib.hid (fun W => valid_is (Sem.zero_pre2 n0 n1 n2 m1) W (by simp; omega))
      have E4 := Lib.hid (fun W => valid_is (Sem.zero_build n0 n1 n2 m0) W (by simp; omega))
      have E5 := Lib.hid (fun W => valid_is (Sem.pre_good n0 n1 n2 (Sem.a0_good m2)) W (by simp; omega))
      clear z0 z1 z2 n0 n1 n2 m0 m1 m2 hl0 hl1 hcell hcell' hK cy0 cy1 cy2
      go_enter Try.func13, Try.ntmps13
      go_wp2_with fail
      refine HN0.out.mono ?_
      rintro e w' ⟨rfl, rfl⟩
      go_wp2_with fail
      refine HN1.out.mono ?_
      rintro e w' ⟨rfl, rfl⟩
      go_wp2_with fail
      go_quiet (fail)
      go_wp2_with fail
      go_loopw [33] (fun i wr => ∃ k : Nat, k ≤ 3 ∧ i = .int .i64 k ∧ Hid (Below w.heap.size w wr)) (fun i _ => 3 - (intOf i).toNat)
      case atStart => exact ⟨0, by omega, rfl, Lib.hid (bl_drewN (Below.refl _ _) _)⟩
      case round =>
        obtain ⟨k, hk, rfl, hbw⟩ := hrel
        have HSRC : Hid (StrsAt wr (.slice (some ⟨b, off, none⟩) 3 c) [x0, x1, x2]) := Lib.hid (HA.out.below hbw.out)
        have HSZ := Lib.hid hbw.out.size
        by_cases hk3 : k < 3
        · obtain rfl | rfl | rfl : k = 0 ∨ k = 1 ∨ k = 2 := by omega
          · go_wp2_with (at_builtin; refine app_strs rfl (.tmp 36) (.tmp 37) rfl wr.heap.size (.slice (some ⟨wr.heap.size, 0, none⟩) 0 0) [] rfl (own_empty wr) _ [x0, x1, x2] rfl (HSRC.out.alloc _) (by simp) (by simp) ?_; intro v' wb hown hgrow; obtain ⟨g, cap, rfl, hg⟩ := own_some hown (by simp); have hcell : wb.cell? ⟨g, 0, none⟩ = some (str x0) := by { rw [hown.cellAt 0 (by simp)]; rfl }; have hfz := hown.frozenAt 0; have hcap := own_cap hown)
            have HB1 : Hid (Below w.heap.size w wb) := Lib.hid ((bl_alloc hbw.out HSZ.out _).grown hgrow (by have := HSZ.out; simp; omega) (fun j hj => by have : wr.heap.size = j := Option.some.inj hj; have := HSZ.out; omega))
            have HB2 : Hid (Below w.heap.size w (wb.setCell ⟨g, 0, none⟩ (str (48 :: x0)))) := Lib.hid (HB1.out.setCell (by have := HSZ.out; simp; omega) _)
            have HJ : Hid (StrsAt (wb.setCell ⟨g, 0, none⟩ (str (48 :: x0))) (.slice (some ⟨g, 0, none⟩) 3 cap) [48 :: x0, x1, x2]) := Lib.hid (strs_of_own (xs := [48 :: x0, x1, x2]) (hown.stored 0 (str (48 :: x0))).1)
            clear hgrow hown HB1
            refine (joinedBy_any _ [48 :: x0, x1, x2] [46] _ HJ.out (by simp) (by simp; omega)).mono ?_
            rintro e w' ⟨rfl, rfl⟩
            generalize wb.setCell ⟨g, 0, none⟩ (str (48 :: x0)) = wd at *
            have hjl : (Sem.joinBy [46] [48 :: x0, x1, x2]).length ≤ 1125899906842624 := by simp [Sem.joinBy]; omega
            generalize Sem.joinBy [46] [48 :: x0, x1, x2] = J at *
            go_wp2_with fail
            refine (Z0.out _).mono ?_
            rintro e we ⟨rfl, hbe⟩
            have HB3 : Hid (Below w.heap.size w we) := Lib.hid (bl_next' HB2.out hbe)
            clear hbe
            go_wp2_with fail
            go_roundw
            case rel => exact ⟨0 + 1, by omega, by go_num, HB3⟩
            case measure => simp [intOf]
          · go_wp2_with (at_builtin; refine app_strs rfl (.tmp 36) (.tmp 37) rfl wr.heap.size (.slice (some ⟨wr.heap.size, 0, none⟩) 0 0) [] rfl (own_empty wr) _ [x0, x1, x2] rfl (HSRC.out.alloc _) (by simp) (by simp) ?_; intro v' wb hown hgrow; obtain ⟨g, cap, rfl, hg⟩ := own_some hown (by simp); have hcell : wb.cell? ⟨g, 1, none⟩ = some (str x1) := by { rw [hown.cellAt 1 (by simp)]; rfl }; have hfz := hown.frozenAt 1; have hcap := own_cap hown)
            have HB1 : Hid (Below w.heap.size w wb) := Lib.hid ((bl_alloc hbw.out HSZ.out _).grown hgrow (by have := HSZ.out; simp; omega) (fun j hj => by have : wr.heap.size = j := Option.some.inj hj; have := HSZ.out; omega))
            have HB2 : Hid (Below w.heap.size w (wb.setCell ⟨g, 1, none⟩ (str (48 :: x1)))) := Lib.hid (HB1.out.setCell (by have := HSZ.out; simp; omega) _)
            have HJ : Hid (StrsAt (wb.setCell ⟨g, 1, none⟩ (str (48 :: x1))) (.slice (some ⟨g, 0, none⟩) 3 cap) [x0, 48 :: x1, x2]) := Lib.hid (strs_of_own (xs := [x0, 48 :: x1, x2]) (hown.stored 1 (str (48 :: x1))).1)
            clear hgrow hown HB1
            refine (joinedBy_any _ [x0, 48 :: x1, x2] [46] _ HJ.out (by simp) (by simp; omega)).mono ?_
            rintro e w' ⟨rfl, rfl⟩
            generalize wb.setCell ⟨g, 1, none⟩ (str (48 :: x1)) = wd at *
            have hjl : (Sem.joinBy [46] [x0, 48 :: x1, x2]).length ≤ 1125899906842624 := by simp [Sem.joinBy]; omega
            generalize Sem.joinBy [46] [x0, 48 :: x1, x2] = J at *
            go_wp2_with fail
            refine (Z1.out _).mono ?_
            rintro e we ⟨rfl, hbe⟩
            have HB3 : Hid (Below w.heap.size w we) := Lib.hid (bl_next' HB2.out hbe)
            clear hbe
            go_wp2_with fail
            go_roundw
            case rel => exact ⟨1 + 1, by omega, by go_num, HB3⟩
            case measure => simp [intOf]
          · go_wp2_with (at_builtin; refine app_strs rfl (.tmp 36) (.tmp 37) rfl wr.heap.size (.slice (some ⟨wr.heap.size, 0, none⟩) 0 0) [] rfl (own_empty wr) _ [x0, x1, x2] rfl (HSRC.out.alloc _) (by simp) (by simp) ?_; intro v' wb hown hgrow; obtain ⟨g, cap, rfl, hg⟩ := own_some hown (by simp); have hcell : wb.cell? ⟨g, 2, none⟩ = some (str x2) := by { rw [hown.cellAt 2 (by simp)]; rfl }; have hfz := hown.frozenAt 2; have hcap := own_cap hown)
            have HB1 : Hid (Below w.heap.size w wb) := Lib.hid ((bl_alloc hbw.out HSZ.out _).grown hgrow (by have := HSZ.out; simp; omega) (fun j hj => by have : wr.heap.size = j := Option.some.inj hj; have := HSZ.out; omega))
            have HB2 : Hid (Below w.heap.size w (wb.setCell ⟨g, 2, none⟩ (str (48 :: x2)))) := Lib.hid (HB1.out.setCell (by have := HSZ.out; simp; omega) _)
            have HJ : Hid (StrsAt (wb.setCell ⟨g, 2, none⟩ (str (48 :: x2))) (.slice (some ⟨g, 0, none⟩) 3 cap) [x0, x1, 48 :: x2]) := Lib.hid (strs_of_own (xs := [x0, x1, 48 :: x2]) (hown.stored 2 (str (48 :: x2))).1)
            clear hgrow hown HB1
            refine (joinedBy_any _ [x0, x1, 48 :: x2] [46] _ HJ.out (by simp) (by simp; omega)).mono ?_
            rintro e w' ⟨rfl, rfl⟩
            generalize wb.setCell ⟨g, 2, none⟩ (str (48 :: x2)) = wd at *
            have hjl : (Sem.joinBy [46] [x0, x1, 48 :: x2]).length ≤ 1125899906842624 := by simp [Sem.joinBy]; omega
            generalize Sem.joinBy [46] [x0, x1, 48 :: x2] = J at *
            go_wp2_with fail
            refine (Z2.out _).mono ?_
            rintro e we ⟨rfl, hbe⟩
            have HB3 : Hid (Below w.heap.size w we) := Lib.hid (bl_next' HB2.out hbe)
            clear hbe
            go_wp2_with fail
            go_roundw
            case rel => exact ⟨2 + 1, by omega, by go_num, HB3⟩
            case measure => simp [intOf]
        · obtain rfl : k = 3 := by omega
          obtain ⟨a0, a1, a2⟩ := HK.out _ hbw.out
          clear HSRC
          go_wp2_with fail
          refine (E1.out _).mono ?_
          rintro e wz1 ⟨rfl, hz1⟩
          have HBZ1 : Hid (Below w.heap.size w wz1) := Lib.hid (bl_next' hbw.out hz1)
          obtain ⟨p1, q1, r1⟩ := HK.out _ HBZ1.out
          clear hz1
          go_wp2_with fail
          refine (E2.out _).mono ?_
          rintro e wz2 ⟨rfl, hz2⟩
          have HBZ2 : Hid (Below w.heap.size w wz2) := Lib.hid (bl_next' HBZ1.out hz2)
          obtain ⟨p2, q2, r2⟩ := HK.out _ HBZ2.out
          clear hz2
          go_wp2_with fail
          refine (E3.out _).mono ?_
          rintro e wz3 ⟨rfl, hz3⟩
          have HBZ3 : Hid (Below w.heap.size w wz3) := Lib.hid (bl_next' HBZ2.out hz3)
          obtain ⟨p3, q3, r3⟩ := HK.out _ HBZ3.out
          clear hz3
          go_wp2_with fail
          refine (E4.out _).mono ?_
          rintro e wz4 ⟨rfl, hz4⟩
          have HBZ4 : Hid (Below w.heap.size w wz4) := Lib.hid (bl_next' HBZ3.out hz4)
          obtain ⟨p4, q4, r4⟩ := HK.out _ HBZ4.out
          clear hz4
          go_wp2_with fail
          refine (E5.out _).mono ?_
          rintro e wz5 ⟨rfl, hz5⟩
          have HBZ5 : Hid (Below w.heap.size w wz5) := Lib.hid (bl_next' HBZ4.out hz5)
          obtain ⟨p5, q5, r5⟩ := HK.out _ HBZ5.out
          clear hz5
          go_wp2_with fail
          go_ret
          exact ⟨rfl, HBZ5.out⟩

end Go.Proofs.Ytpcmdgmbacokfaa
