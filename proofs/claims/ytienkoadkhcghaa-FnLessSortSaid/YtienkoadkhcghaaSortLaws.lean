/- The walks of FnSortCanonical, FnMaxSort, FnSortTurned and FnSortJoined: each returns true. Condition: each text takes at most 2 to the power of 47 bytes, and so do the list's headers; of FnSortJoined: at most 2 to the power of 20 values and letters. -/
import Derived.Test.YtienkoadkhcghaaApp
import Derived.Test.YtienkoadkhcghaaOpen2
import Derived.Test.YtienkoadkhcghaaSemLaws2
namespace Go.Proofs.Ytienkoadkhcghaa
open Go.RowKit
attribute [local go_sem] app_str

set_option maxHeartbeats 1000000 in
theorem walk_FnSortCanonical (v0 : Value) (xs : List (List UInt8)) (w : World) (h0 : StrsAt w v0 xs ∧ (∀ x ∈ xs, x.length ≤ 140737488351232) ∧ xs.length ≤ 8796093021952) :
    Calls Try.prog 4 #[v0] w fun e w' => e = .returned (.bool true) ∧ Below w.heap.size w w' := by
  obtain ⟨h0, hl, hn⟩ := h0
  have hlc : ∀ x ∈ xs.map Sem.canonical, x.length ≤ 1125899906842624 := by
    intro y hy
    obtain ⟨x, hx, rfl⟩ := List.mem_map.1 hy
    have := canonical_len' x
    have := hl x hx
    omega
  obtain ⟨A0, c0, rfl, hc0, hm0, -⟩ := id h0
  have H0 := Lib.hid h0
  have HS := Lib.hid (fun W (h : StrsAt W (.slice A0 xs.length c0) xs) => impl_SortVersions _ xs W h (fun x hx => by have := hl x hx; omega) (by omega))
  have HC := Lib.hid (fun W (h : StrsAt W (.slice A0 xs.length c0) xs) => canonicals_any _ xs W h hl (by omega))
  have HCS := Lib.hid (fun v W (h : StrsAt W v (Sem.sortV xs)) => canonicals_any v (Sem.sortV xs) W h (fun x hx => hl x (Sem.sortV_mem.1 hx)) (by rw [Sem.sortV_len]; omega))
  rw [Sem.sortV_len] at HCS
  have HSC := Lib.hid (fun v W (h : StrsAt W v (xs.map Sem.canonical)) => impl_SortVersions v (xs.map Sem.canonical) W h hlc (by simp; omega))
  rw [List.length_map] at HSC
  have hq : ((xs.length : Int) == (xs.length : Int)) = true := by simp
  clear h0 hl hlc
  go_enter Try.func4, Try.ntmps4
  go_wp2_with fail
  refine (HS.out _ H0.out).mono ?_
  rintro e w1 ⟨⟨A1, c1, rfl, h1⟩, hb1⟩
  have H1 := Lib.hid h1
  have HB1 := Lib.hid hb1
  clear h1 hb1
  go_wp2_with fail
  refine (HCS.out _ _ H1.out).mono ?_
  rintro e w2 ⟨⟨A2, c2, rfl, h2⟩, hb2⟩
  have HB2 : Hid (Below w.heap.size w w2) := Lib.hid (bl_next' HB1.out hb2)
  have H2 := Lib.hid h2
  clear h2 hb2
  go_wp2_with fail
  refine (HC.out _ (H0.out.below HB2.out)).mono ?_
  rintro e w3 ⟨⟨A3, c3, rfl, h3⟩, hb3⟩
  have HB3 : Hid (Below w.heap.size w w3) := Lib.hid (bl_next' HB2.out hb3)
  have H3 := Lib.hid h3
  have K2 := Lib.hid (H2.out.below hb3)
  clear h3 hb3
  go_wp2_with fail
  refine (HSC.out _ _ H3.out).mono ?_
  rintro e w4 ⟨⟨A4, c4, rfl, h4⟩, hb4⟩
  rw [← Sem.sort_canonical] at h4
  have HB4 : Hid (Below w.heap.size w w4) := Lib.hid (bl_next' HB3.out hb4)
  have H4 := Lib.hid h4
  have L2 := Lib.hid (K2.out.below hb4)
  clear h4 hb4
  go_wp2_with fail
  refine (sameTexts_yes _ _ _ _ L2.out H4.out).mono ?_
  rintro e w5 ⟨rfl, n5, rfl⟩
  go_wp2_with fail
  refine (HS.out _ (H0.out.below (bl_drewN HB4.out _))).mono ?_
  rintro e w6 ⟨⟨A6, c6, rfl, -⟩, hb6⟩
  have HB6 : Hid (Below w.heap.size w w6) := Lib.hid (bl_next' (bl_drewN HB4.out _) hb6)
  clear hb6
  go_wp2_with (first | (go_at_call 24; refine (impl_CompareVersions _ _ _ (by first | omega | (simp; done) | (simp; omega)) (by first | omega | (simp; done) | (simp; omega))).mono ?_; rintro e w' ⟨rfl, hb⟩) | (go_at_call 27; refine (impl_VersionOk _ _ (by first | omega | (simp; done) | (simp; omega))).mono ?_; rintro e w' ⟨rfl, hb⟩) | (go_at_call 17; refine (impl_CanonicalVersion _ _ (by first | omega | (simp; done) | (simp; omega))).mono ?_; rintro e w' ⟨rfl, hb⟩) | (go_at_call 16; refine (impl_MaxVersion _ _ _ (by first | omega | (simp; done) | (simp; omega)) (by first | omega | (simp; done) | (simp; omega))).mono ?_; rintro e w' ⟨rfl, hb⟩) | (go_at_call 11; refine (veWorks_any _).mono ?_; rintro e w' ⟨rfl, hb⟩))
  go_ret
  exact ⟨rfl, by repeat (first | exact HB6.out | (with_reducible assumption) | (with_reducible refine bl_next' ?_ (by with_reducible assumption)))⟩

theorem max_bound {xs : List (List UInt8)} (hl : ∀ x ∈ xs, x.length ≤ 140737488351232) {k : Nat} (hk : k ≤ xs.length) : ((xs.take k).foldl Sem.maxV []).length ≤ 281474976710656 := by
  obtain ⟨h, -⟩ := Sem.isMax_take xs k hk
  rcases h with e | ⟨x, hx, e⟩
  · rw [e]; simp
  · rw [e]
    have := canonical_len' x
    have := hl x (List.mem_of_mem_take hx)
    omega
theorem max_v1v2 : Sem.maxV [118, 49] [118, 50] = [118, 50, 46, 48, 46, 48] := by rfl
set_option maxHeartbeats 1000000 in
theorem walk_FnMaxSort (v0 : Value) (xs : List (List UInt8)) (w : World) (h0 : StrsAt w v0 xs ∧ (∀ x ∈ xs, x.length ≤ 140737488351232) ∧ xs.length ≤ 8796093021952) :
    Calls Try.prog 5 #[v0] w fun e w' => e = .returned (.bool true) ∧ Below w.heap.size w w' := by
  obtain ⟨h0, hl, hn⟩ := h0
  obtain ⟨A0, c0, rfl, hc0, hm0, hA⟩ := id h0
  have H0 := Lib.hid h0
  have HA := Lib.hid hA
  have HL := Lib.hid hl
  have HS := Lib.hid (fun W (h : StrsAt W (.slice A0 xs.length c0) xs) => impl_SortVersions _ xs W h (fun x hx => by have := hl x hx; omega) (by omega))
  have HMB := Lib.hid (fun k (hk : k ≤ xs.length) => max_bound hl hk)
  have hv12 := max_v1v2
  clear h0 hl hA
  go_enter Try.func5, Try.ntmps5
  go_wp2_with fail
  go_loopw [3, 9] (fun m i wr => ∃ k : Nat, i = .int .i64 k ∧ k ≤ xs.length ∧ m = str ((xs.take k).foldl Sem.maxV []) ∧ Hid (Below w.heap.size w wr)) (fun _ i _ => xs.length - (intOf i).toNat)
  case atStart => exact ⟨0, rfl, by omega, rfl, Lib.hid (Below.refl _ _)⟩
  case round =>
    obtain ⟨k, rfl, hk, rfl, hb⟩ := hrel
    have hml := HMB.out k hk
    by_cases hlt : k < xs.length
    · obtain ⟨b, off, rfl, hbl, hx⟩ := strs_at' HA.out hlt
      have hx' : wr.cell? ⟨b, off + k, none⟩ = some (str xs[k]) := (hb.out.cell (p := ⟨b, off + k, none⟩) hbl).trans hx
      have hxl := HL.out xs[k] (List.getElem_mem hlt)
      have HT : Hid ((xs.take (k + 1)).foldl Sem.maxV [] = Sem.maxV ((xs.take k).foldl Sem.maxV []) xs[k]) := Lib.hid (by rw [List.take_succ_eq_append_getElem hlt, Sem.foldl_snoc])
      generalize xs[k] = x at *
      generalize (xs.take k).foldl Sem.maxV [] = M at *
      clear hx
      go_wp2_with fail
      refine (impl_MaxVersion M x wr (by omega) (by omega)).mono ?_
      rintro e wc ⟨rfl, hbc⟩
      have HB2 : Hid (Below w.heap.size w wc) := Lib.hid (bl_next' hb.out hbc)
      clear hbc
      go_wp2_with fail
      go_roundw
      case rel => exact ⟨k + 1, by go_num, by omega, by rw [HT.out], HB2⟩
      case measure => simp [intOf]; omega
    · obtain rfl : k = xs.length := by omega
      rw [List.take_length] at hml ⊢
      by_cases hne : xs.length = 0
      · have hz : ((xs.length : Int) == 0) = true := by simp; exact List.eq_nil_of_length_eq_zero hne
        clear hne
        go_wp2_with fail
        refine (HS.out _ (H0.out.below hb.out)).mono ?_
        rintro e w1 ⟨⟨A1, c1, rfl, -⟩, hb1⟩
        have HB2 : Hid (Below w.heap.size w w1) := Lib.hid (bl_next' hb.out hb1)
        clear hb1
        go_wp2_with (first | (go_at_call 24; refine (impl_CompareVersions _ _ _ (by first | omega | (simp; done) | (simp; omega)) (by first | omega | (simp; done) | (simp; omega))).mono ?_; rintro e w' ⟨rfl, hb⟩) | (go_at_call 27; refine (impl_VersionOk _ _ (by first | omega | (simp; done) | (simp; omega))).mono ?_; rintro e w' ⟨rfl, hb⟩) | (go_at_call 17; refine (impl_CanonicalVersion _ _ (by first | omega | (simp; done) | (simp; omega))).mono ?_; rintro e w' ⟨rfl, hb⟩) | (go_at_call 16; refine (impl_MaxVersion _ _ _ (by first | omega | (simp; done) | (simp; omega)) (by first | omega | (simp; done) | (simp; omega))).mono ?_; rintro e w' ⟨rfl, hb⟩) | (go_at_call 11; refine (veWorks_any _).mono ?_; rintro e w' ⟨rfl, hb⟩))
        go_ret
        exact ⟨rfl, by repeat (first | exact HB2.out | (with_reducible assumption) | (with_reducible refine bl_next' ?_ (by with_reducible assumption)))⟩
      · have hz : ((xs.length : Int) == 0) = false := by rw [beq_eq_false_iff_ne]; omega
        have hq : ((xs.length : Int) == (xs.length : Int)) = true := by simp
        go_wp2_with fail
        refine (HS.out _ (H0.out.below hb.out)).mono ?_
        rintro e w1 ⟨⟨A1, c1, rfl, h1⟩, hb1⟩
        have HB2 : Hid (Below w.heap.size w w1) := Lib.hid (bl_next' hb.out hb1)
        obtain ⟨A1', c1', e1, hcc, hcm, h1⟩ := h1
        simp only [Value.slice.injEq] at e1
        obtain ⟨rfl, -, rfl⟩ := e1
        obtain ⟨b, off, rfl, hbl, hx⟩ := strs_at' h1 (k := xs.length - 1) (by rw [Sem.sortV_len]; omega)
        have hlast := Sem.sort_last (xs := xs) (List.getElem?_eq_getElem (show xs.length - 1 < (Sem.sortV xs).length by rw [Sem.sortV_len]; omega))
        have hml2 := HL.out _ (Sem.sortV_mem.1 (List.getElem_mem (show xs.length - 1 < (Sem.sortV xs).length by rw [Sem.sortV_len]; omega)))
        rw [Sem.sortV_len] at hcc
        generalize (Sem.sortV xs)[xs.length - 1]'(by rw [Sem.sortV_len]; omega) = y at *
        have hidx : ((xs.length : Int) - 1) = ((xs.length - 1 : Nat) : Int) := by omega
        have hix : ((xs.length : Int) - 1).toNat = xs.length - 1 := by omega
        have hfold : xs.foldl Sem.maxV [] = Sem.maxAll xs := rfl
        rw [hfold] at hml ⊢
        have hyy : (Sem.canonical y == Sem.maxAll xs) = true := by rw [hlast]; simp
        generalize Sem.maxAll xs = M at *
        clear hb1 h1 hfold HMB
        go_wp2_with (first | (go_at_call 24; refine (impl_CompareVersions _ _ _ (by first | omega | (simp; done) | (simp; omega)) (by first | omega | (simp; done) | (simp; omega))).mono ?_; rintro e w' ⟨rfl, hb⟩) | (go_at_call 27; refine (impl_VersionOk _ _ (by first | omega | (simp; done) | (simp; omega))).mono ?_; rintro e w' ⟨rfl, hb⟩) | (go_at_call 17; refine (impl_CanonicalVersion _ _ (by first | omega | (simp; done) | (simp; omega))).mono ?_; rintro e w' ⟨rfl, hb⟩) | (go_at_call 16; refine (impl_MaxVersion _ _ _ (by first | omega | (simp; done) | (simp; omega)) (by first | omega | (simp; done) | (simp; omega))).mono ?_; rintro e w' ⟨rfl, hb⟩) | (go_at_call 11; refine (veWorks_any _).mono ?_; rintro e w' ⟨rfl, hb⟩))
        go_ret
        exact ⟨rfl, by repeat (first | exact HB2.out | (with_reducible assumption) | (with_reducible refine bl_next' ?_ (by with_reducible assumption)))⟩

end Go.Proofs.Ytienkoadkhcghaa
