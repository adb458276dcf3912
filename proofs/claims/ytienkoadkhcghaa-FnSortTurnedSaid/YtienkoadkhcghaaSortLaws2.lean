/- The walks of FnSortTurned and FnSortJoined: each returns true. Condition: each text takes at most 2 to the power of 47 bytes, and so do the list's headers; of FnSortJoined: at most 2 to the power of 20 values and letters. -/
import Derived.Test.YtienkoadkhcghaaSortLaws
namespace Go.Proofs.Ytienkoadkhcghaa
open Go.RowKit
attribute [local go_sem] app_str

theorem sort_len {v : Value} {ys : List (List UInt8)} {n : Nat} {W : World} (hn : ys.length = n)
    (h : Calls Try.prog 13 #[v] W fun e w' => (∃ A c, e = .returned (.slice A ys.length c) ∧ StrsAt w' (.slice A ys.length c) (Sem.sortV ys)) ∧ Below W.heap.size W w') :
    Calls Try.prog 13 #[v] W fun e w' => (∃ A c, e = .returned (.slice A n c) ∧ StrsAt w' (.slice A n c) (Sem.sortV ys)) ∧ Below W.heap.size W w' := by
  subst hn; exact h

theorem drop_rev {xs : List (List UInt8)} {j : Nat} (h : j < xs.length) : (xs.drop j).reverse = (xs.drop (j + 1)).reverse ++ [xs[j]] := by
  rw [List.drop_eq_getElem_cons h, List.reverse_cons]
set_option maxHeartbeats 1000000 in
theorem walk_FnSortTurned (v0 : Value) (xs : List (List UInt8)) (w : World) (h0 : StrsAt w v0 xs ∧ (∀ x ∈ xs, x.length ≤ 140737488351232) ∧ xs.length ≤ 8796093021952) :
    Calls Try.prog 9 #[v0] w fun e w' => e = .returned (.bool true) ∧ Below w.heap.size w w' := by
  obtain ⟨h0, hl, hn⟩ := h0
  obtain ⟨A0, c0, rfl, hc0, hm0, hA⟩ := id h0
  have H0 := Lib.hid h0
  have HA := Lib.hid hA
  have HS := Lib.hid (fun v ys W (h : StrsAt W v ys) (hy : ∀ x ∈ ys, x ∈ xs) (hyl : ys.length = xs.length) => sort_len hyl (impl_SortVersions v ys W h (fun x hx => by have := hl x (hy x hx); omega) (by omega)))
  have hq : ((xs.length : Int) == (xs.length : Int)) = true := by simp
  clear h0 hl hA
  go_enter Try.func9, Try.ntmps9
  go_wp2_with fail
  refine (HS.out _ _ _ H0.out (fun _ h => h) rfl).mono ?_
  rintro e w1 ⟨⟨A1, c1, rfl, h1⟩, hb1⟩
  have H1 := Lib.hid h1
  have HB1 := Lib.hid hb1
  have hsz1 := hb1.size
  clear h1 hb1
  go_wp2_with fail
  go_loopw [4, 5] (fun o' i wr => ∃ (o : Value) (j : Nat), o = o' ∧ i = .int .i64 ((j : Int) - 1) ∧ j ≤ xs.length ∧ wr.ownsRow w1.heap.size 9 1 o (xs.drop j).reverse.length ((xs.drop j).reverse.map str) ∧ Hid (Below w1.heap.size w1 wr) ∧ w1.heap.size + 1 ≤ wr.heap.size) (fun _ i _ => (intOf i + 1).toNat)
  case atStart => exact ⟨_, xs.length, rfl, by go_num, Nat.le_refl _, by simpa using own_empty w1, Lib.hid (bl_new _ _), by simp⟩
  case round =>
    obtain ⟨o, j, rfl, rfl, hj, ho, hb, hsz⟩ := hrel
    by_cases hlt : 0 < j
    · obtain ⟨m, rfl⟩ : ∃ m, j = m + 1 := ⟨j - 1, by omega⟩
      have hm : m < xs.length := by omega
      have hi : (((m + 1 : Nat) : Int) - 1) = (m : Int) := by omega
      rw [hi]
      obtain ⟨b, off, rfl, hbl, hx⟩ := strs_at' HA.out hm
      have hbl2 : b < w1.heap.size := Nat.lt_of_lt_of_le hbl hsz1
      have hx1 : w1.cell? ⟨b, off + m, none⟩ = some (str xs[m]) := (HB1.out.cell (p := ⟨b, off + m, none⟩) hbl).trans hx
      have hx' : wr.cell? ⟨b, off + m, none⟩ = some (str xs[m]) := (hb.out.cell (p := ⟨b, off + m, none⟩) hbl2).trans hx1
      have HT : Hid ((xs.drop m).reverse = (xs.drop (m + 1)).reverse ++ [xs[m]]) := Lib.hid (drop_rev hm)
      have hcl : (xs.drop (m + 1)).reverse.length = xs.length - (m + 1) := by simp
      generalize xs[m] = x at *
      have HO := Lib.hid ho
      clear hx hx1 ho
      go_wp2_with (at_builtin; refine app_strs rfl (.tmp 16) (.tmp 21) rfl w1.heap.size o ((xs.drop (m + 1)).reverse) rfl (HO.out.alloc _) _ [x] rfl (one_strs wr x) (by rw [hcl]; simp; omega) (by simp; omega) ?_; intro v2 wd hown2 hgrow2 hne2)
      have HB3 : Hid (Below w1.heap.size w1 wd) := Lib.hid ((bl_alloc hb.out (by omega) _).grown hgrow2 (by simp; omega) (fun g hg => own_base HO.out g hg))
      have hsz3 : w1.heap.size + 1 ≤ wd.heap.size := by have := hgrow2.size; simp at this; omega
      have HO3 : Hid (wd.ownsRow w1.heap.size 9 1 v2 (xs.drop m).reverse.length ((xs.drop m).reverse.map str)) := Lib.hid (by rw [HT.out]; exact hown2)
      clear hgrow2 hown2 hne2
      go_wp2_with fail
      go_roundw
      case rel => exact ⟨_, m, rfl, by go_num, by omega, HO3.out, HB3, hsz3⟩
      case measure => simp [intOf]
    · obtain rfl : j = 0 := by omega
      rw [List.drop_zero] at ho
      obtain ⟨A2, c2, e2⟩ := own_form' ho
      rw [List.length_reverse] at e2
      have HST := Lib.hid (strs_of_own ho)
      have HBW : Hid (Below w.heap.size w wr) := Lib.hid (bl_next' HB1.out hb.out)
      have K1 := Lib.hid (H1.out.below hb.out)
      subst e2
      clear ho
      go_wp2_with fail
      refine (HS.out _ _ _ HST.out (fun x hx => by simpa using hx) (by simp)).mono ?_
      rintro e w2 ⟨⟨A3, c3, rfl, h3⟩, hb2⟩
      rw [Sem.sort_reverse] at h3
      have H3 := Lib.hid h3
      have K2 := Lib.hid (K1.out.below hb2)
      have HB2 : Hid (Below w.heap.size w w2) := Lib.hid (bl_next' HBW.out hb2)
      clear h3 hb2
      go_wp2_with fail
      refine (sameTexts_yes _ _ _ _ H3.out K2.out).mono ?_
      rintro e w3 ⟨rfl, n3, rfl⟩
      go_wp2_with fail
      refine (HS.out _ _ _ (K2.out.drewN n3) (fun x hx => Sem.sortV_mem.1 hx) (Sem.sortV_len xs)).mono ?_
      rintro e w4 ⟨⟨A4, c4, rfl, h4⟩, hb4⟩
      rw [Sem.sort_twice] at h4
      have H4 := Lib.hid h4
      have K4 := Lib.hid ((K2.out.drewN n3).below hb4)
      have HB4 : Hid (Below w.heap.size w w4) := Lib.hid (bl_next' (bl_drewN HB2.out _) hb4)
      clear h4 hb4
      go_wp2_with fail
      refine (sameTexts_yes _ _ _ _ H4.out K4.out).mono ?_
      rintro e w5 ⟨rfl, n5, rfl⟩
      go_wp2_with (first | (go_at_call 24; refine (impl_CompareVersions _ _ _ (by first | omega | (simp; done) | (simp; omega)) (by first | omega | (simp; done) | (simp; omega))).mono ?_; rintro e w' ⟨rfl, hb⟩) | (go_at_call 27; refine (impl_VersionOk _ _ (by first | omega | (simp; done) | (simp; omega))).mono ?_; rintro e w' ⟨rfl, hb⟩) | (go_at_call 17; refine (impl_CanonicalVersion _ _ (by first | omega | (simp; done) | (simp; omega))).mono ?_; rintro e w' ⟨rfl, hb⟩) | (go_at_call 16; refine (impl_MaxVersion _ _ _ (by first | omega | (simp; done) | (simp; omega)) (by first | omega | (simp; done) | (simp; omega))).mono ?_; rintro e w' ⟨rfl, hb⟩) | (go_at_call 11; refine (veWorks_any _).mono ?_; rintro e w' ⟨rfl, hb⟩))
      go_ret
      exact ⟨rfl, by repeat (first | exact HB4.out | (with_reducible assumption) | (with_reducible refine bl_next' ?_ (by with_reducible assumption)) | (with_reducible refine bl_drewN ?_ _))⟩

theorem bulk_each {xs : List (List UInt8)} (h : bulkS xs ≤ 1048576) : (∀ x ∈ xs, x.length ≤ 1048576) ∧ xs.length ≤ 1048576 := by
  unfold bulkS at h
  have h2 : (xs.map fun x => x.length + 1).sum ≤ 1048576 := by omega
  refine ⟨fun x hx => ?_, ?_⟩
  · obtain ⟨k, hk, rfl⟩ := List.getElem_of_mem hx
    have h1 := @strs_at_le xs k hk 1
    exact Nat.le_trans (Nat.le_succ _) (Nat.le_trans h1 h2)
  · have : ∀ xs : List (List UInt8), xs.length ≤ (xs.map fun x : List UInt8 => x.length + 1).sum := fun xs => by
      induction xs with
      | nil => simp
      | cons x r ih => simp only [List.length_cons, List.map_cons, List.sum_cons]; omega
    exact Nat.le_trans (this xs) h2
set_option maxHeartbeats 1000000 in
theorem walk_FnSortJoined (v0 : Value) (xs : List (List UInt8)) (v1 : Value) (ys : List (List UInt8)) (w : World)
    (h0 : StrsAt w v0 xs) (b0 : bulkS xs ≤ 1048576) (h1 : StrsAt w v1 ys) (b1 : bulkS ys ≤ 1048576) :
    Calls Try.prog 7 #[v0, v1] w fun e w' => e = .returned (.bool true) ∧ Below w.heap.size w w' := by
  obtain ⟨lx, nx⟩ := bulk_each b0
  obtain ⟨ly, ny⟩ := bulk_each b1
  obtain ⟨A0, c0, rfl, hc0, hm0, -⟩ := id h0
  obtain ⟨A1, c1, rfl, hc1, hm1, -⟩ := id h1
  have H0 := Lib.hid h0
  have H1 := Lib.hid h1
  have HS := Lib.hid (fun v zs n W (h : StrsAt W v zs) (hz : ∀ x ∈ zs, x ∈ xs ∨ x ∈ ys) (hzl : zs.length = n) (hzn : n ≤ 4194304) => sort_len hzl (impl_SortVersions v zs W h (fun x hx => by rcases hz x hx with h | h; have := lx x h; omega; have := ly x h; omega) (by omega)))
  clear h0 h1 lx ly b0 b1
  go_enter Try.func7, Try.ntmps7
  go_wp2_with (first
    | (at_builtin; refine app_strs rfl (.tmp 7) (.tmp 8) rfl w.heap.size (.slice (some ⟨w.heap.size, 0, none⟩) 0 0) [] rfl (own_empty w) _ xs rfl (H0.out.alloc _) (by simp; omega) (by simp) ?_; intro v2 wa hown1 hgrow1 hne1)
    | (at_builtin; refine app_strs rfl (.tmp 9) (.tmp 10) rfl w.heap.size v2 ([] ++ xs) rfl hown1 _ ys rfl (H1.out.below ((bl_new w _).grown hgrow1 (by simp) (fun g hg => by have : w.heap.size = g := Option.some.inj hg; omega))) (by simp; omega) (by have := hgrow1.size; simp at this; omega) ?_; intro v3 wb hown2 hgrow2 hne2))
  have HBA : Hid (Below w.heap.size w wa) := Lib.hid ((bl_new w _).grown hgrow1 (by simp) (fun g hg => by have : w.heap.size = g := Option.some.inj hg; omega))
  have HBB : Hid (Below w.heap.size w wb) := Lib.hid (HBA.out.grown hgrow2 HBA.out.size (fun g hg => own_base hown1 g hg))
  have HJ : Hid (StrsAt wb v3 (xs ++ ys)) := Lib.hid (strs_of_own hown2)
  clear hown1 hgrow1 hne1 hown2 hgrow2 hne2 HBA
  refine (HS.out _ _ (xs.length + ys.length) _ HJ.out (fun x hx => by simpa using hx) (by simp) (by omega)).mono ?_
  rintro e wc ⟨⟨A2, c2, rfl, h2⟩, hbc⟩
  have HBC : Hid (Below w.heap.size w wc) := Lib.hid (bl_next' HBB.out hbc)
  have HO := Lib.hid h2
  clear h2 hbc
  go_wp2_with fail
  refine (HS.out _ _ xs.length _ ((H0.out.below HBC.out).alloc _) (fun x hx => .inl hx) rfl (by omega)).mono ?_
  rintro e wd ⟨⟨A3, c3, rfl, h3⟩, hbd⟩
  have HCD : Hid (Below wc.heap.size wc wd) := Lib.hid ((bl_new wc _).trans (hbd.mono (by simp)))
  have HE : Hid (wd.ownsRow wc.heap.size 9 1 (.slice (some ⟨wc.heap.size, 0, none⟩) 0 0) ([] : List (List UInt8)).length (([] : List (List UInt8)).map str)) := Lib.hid (own_below (own_empty wc) hbd)
  have HA3 := Lib.hid h3
  have hsd : wc.heap.size ≤ wd.heap.size := HCD.out.size
  clear h3 hbd
  go_wp2_with (at_builtin; refine app_strs rfl (.tmp 13) (.tmp 15) rfl wc.heap.size (.slice (some ⟨wc.heap.size, 0, none⟩) 0 0) [] rfl HE.out _ (Sem.sortV xs) rfl HA3.out (by rw [Sem.sortV_len]; simp; omega) hsd ?_; intro v4 we hown1 hgrow1 hne1)
  have HCE : Hid (Below wc.heap.size wc we) := Lib.hid (HCD.out.grown hgrow1 hsd (fun g hg => by have : wc.heap.size = g := Option.some.inj hg; omega))
  have HO4 := Lib.hid hown1
  clear hown1 hgrow1 hne1 HCD HE HA3 hsd
  refine (HS.out _ _ ys.length _ (H1.out.below (bl_next' HBC.out HCE.out)) (fun x hx => .inr hx) rfl (by omega)).mono ?_
  rintro e wf ⟨⟨A5, c5, rfl, h5⟩, hbf⟩
  have HCF : Hid (Below wc.heap.size wc wf) := Lib.hid (bl_next' HCE.out hbf)
  have HO5 := Lib.hid (own_below HO4.out hbf)
  have H5 := Lib.hid h5
  have hsf : wc.heap.size ≤ wf.heap.size := HCF.out.size
  clear h5 hbf HO4 HCE
  have hn1 : ([] ++ Sem.sortV xs ++ Sem.sortV ys).length = xs.length + ys.length := by simp [Sem.sortV_len]
  go_wp2_with (at_builtin; refine app_strs rfl (.tmp 16) (.tmp 18) rfl wc.heap.size v4 ([] ++ Sem.sortV xs) rfl HO5.out _ (Sem.sortV ys) rfl H5.out (by rw [Sem.sortV_len]; simp [Sem.sortV_len]; omega) hsf ?_; intro v5 wg hown2 hgrow2 hne2; obtain ⟨A6, c6, e6⟩ := own_form' hown2; rw [hn1] at e6; subst e6)
  have HCG : Hid (Below wc.heap.size wc wg) := Lib.hid (HCF.out.grown hgrow2 hsf (fun g hg => own_base HO5.out g hg))
  have HP : Hid (StrsAt wg (.slice A6 (xs.length + ys.length) c6) (Sem.sortV xs ++ Sem.sortV ys)) := Lib.hid (strs_of_own hown2)
  have HOG : Hid (StrsAt wg (.slice A2 (xs.length + ys.length) c2) (Sem.sortV (xs ++ ys))) := Lib.hid (HO.out.below HCG.out)
  have HBG : Hid (Below w.heap.size w wg) := Lib.hid (bl_next' HBC.out HCG.out)
  clear hown2 hgrow2 hne2 HO5 HCF HCG HO hn1
  refine (HS.out _ _ (xs.length + ys.length) _ HP.out (fun x hx => by rcases List.mem_append.1 hx with h | h; exact .inl (Sem.sortV_mem.1 h); exact .inr (Sem.sortV_mem.1 h)) (by simp [Sem.sortV_len]) (by omega)).mono ?_
  rintro e wh ⟨⟨A7, c7, rfl, h7⟩, hbh⟩
  rw [Sem.sort_joined] at h7
  have H7 := Lib.hid h7
  have HOH := Lib.hid (HOG.out.below hbh)
  have HBH : Hid (Below w.heap.size w wh) := Lib.hid (bl_next' HBG.out hbh)
  clear h7 hbh
  go_wp2_with fail
  refine (sameTexts_yes _ _ _ _ H7.out HOH.out).mono ?_
  rintro e wi ⟨rfl, n5, rfl⟩
  go_wp2_with (first | (go_at_call 24; refine (impl_CompareVersions _ _ _ (by first | omega | (simp; done) | (simp; omega)) (by first | omega | (simp; done) | (simp; omega))).mono ?_; rintro e w' ⟨rfl, hb⟩) | (go_at_call 27; refine (impl_VersionOk _ _ (by first | omega | (simp; done) | (simp; omega))).mono ?_; rintro e w' ⟨rfl, hb⟩) | (go_at_call 17; refine (impl_CanonicalVersion _ _ (by first | omega | (simp; done) | (simp; omega))).mono ?_; rintro e w' ⟨rfl, hb⟩) | (go_at_call 16; refine (impl_MaxVersion _ _ _ (by first | omega | (simp; done) | (simp; omega)) (by first | omega | (simp; done) | (simp; omega))).mono ?_; rintro e w' ⟨rfl, hb⟩) | (go_at_call 11; refine (veWorks_any _).mono ?_; rintro e w' ⟨rfl, hb⟩))
  go_ret
  exact ⟨rfl, by repeat (first | exact HBH.out | (with_reducible assumption) | (with_reducible refine bl_next' ?_ (by with_reducible assumption)) | (with_reducible refine bl_drewN ?_ _))⟩

end Go.Proofs.Ytienkoadkhcghaa
