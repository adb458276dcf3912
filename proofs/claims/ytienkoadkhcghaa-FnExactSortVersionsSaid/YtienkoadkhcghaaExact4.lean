/- The walk of FnExactSortVersions: it returns true. Condition: each text takes at most 2 to the power of 47 bytes. -/
import Derived.Test.YtienkoadkhcghaaExact3
namespace Go.Proofs.Ytienkoadkhcghaa
open Go.RowKit
attribute [local go_sem] app_str

theorem cell_heap {w w' : World} {a : Addr} (h : w'.heap[a.block]? = w.heap[a.block]?) : w'.cell? a = w.cell? a ∧ w'.frozen? a = w.frozen? a := by
  simp only [World.cell?, World.frozen?, h, and_self]
theorem RowAt.but {w w' : World} {g g' : Nat} {xs : List (List UInt8)} (h : RowAt w g xs) (hb : But g' w w') (hne : g ≠ g') : RowAt w' g xs := by
  have e := hb.2.2.2.2 g h.1 hne
  refine ⟨Nat.lt_of_lt_of_le h.1 hb.2.2.2.1, fun k u hu => ?_⟩
  obtain ⟨h1, h2⟩ := cell_heap (a := ⟨g, k, none⟩) e
  rw [h1, h2]
  exact h.2 k u hu
theorem RowAt.drewN {w : World} {g : Nat} {xs : List (List UInt8)} (h : RowAt w g xs) (n : Nat) : RowAt (w.drewN n) g xs := h

set_option maxHeartbeats 2000000 in
theorem walk_FnExactSortVersions (v0 : Value) (xs : List (List UInt8)) (w : World) (h0 : StrsAt w v0 xs ∧ ∀ x ∈ xs, x.length ≤ 140737488351232) :
    Calls Try.prog 6 #[v0] w fun e w' => e = .returned (.bool true) ∧ Below w.heap.size w w' := by
  obtain ⟨h0, hl⟩ := h0
  have H0 := Lib.hid h0
  have HSZ := Lib.hid (szStringS_any v0 xs w h0 (fun x hx => by have := hl x hx; omega))
  clear h0 hl
  go_enter Try.func6, Try.ntmps6
  go_wp2_with fail
  refine HSZ.out.mono ?_
  rintro e w' ⟨h | ⟨q, hq, rfl, hn, hx⟩, rfl⟩
  · subst h
    go_wp2
    go_ret
    exact ⟨rfl, Below.refl _ _⟩
  · have HX := Lib.hid hx
    have hsl : (Sem.sortV xs).length = xs.length := Sem.sortV_len xs
    have HSL := Lib.hid hsl
    have HSR := Lib.hid (fun v W (h : StrsAt W v xs) => impl_SortVersions_row v xs W h (fun x hx' => by have := hx x hx'; omega) (by omega))
    have HMK := Lib.hid (fun g cap ys W (h : RowAt W g ys) (hy : ys.length = xs.length) (hc : xs.length ≤ cap ∧ cap ≤ 9223372036854775807) => markStringS_any g cap ys W h (by rw [hy]; exact hc) (by omega))
    have HHL := Lib.hid (fun g cap W (h : RowAt W g (marks 1 xs.length)) (hc : xs.length ≤ cap ∧ cap ≤ 9223372036854775807) => heldStringS_any g cap xs.length W h hc hn)
    have hbq : (((1 + xs.length : Nat) : Int) != ((1 + xs.length : Nat) : Int)) = false := by simp
    clear hx hsl
    go_wp2_with fail
    -- the reference's list
    refine (toStringS_any v0 xs w H0.out hn).mono ?_
    rintro e w1 ⟨⟨a, rfl, ha⟩, hb1⟩
    have HA := Lib.hid ha
    have HB1 := Lib.hid hb1
    clear ha hb1
    go_wp2_with fail
    refine (spec_SortVersions a xs w1 HA.out HX.out hn).mono ?_
    rintro e w2 ⟨⟨A2, c2, rfl, h2⟩, hb2⟩
    have H2 := Lib.hid h2
    have HB2 : Hid (Below w.heap.size w w2) := Lib.hid (bl_next' HB1.out hb2)
    have hs2 : w.heap.size ≤ w2.heap.size := HB2.out.size
    clear h2 hb2 HA HB1
    go_wp2_with fail
    -- the argument's copy
    refine (toStringS_row v0 xs w2 (H0.out.below HB2.out) hn).mono ?_
    rintro e w3 ⟨⟨rfl, h3⟩, hb3⟩
    have R3 := Lib.hid h3
    have HC3 : Hid (Below w2.heap.size w2 w3) := Lib.hid hb3
    have hs3 : w2.heap.size < w3.heap.size := h3.1
    clear h3 hb3
    go_wp2_with fail
    refine (HSR.out _ w3 (R3.out.strs (Nat.le_refl _) (by omega))).mono ?_
    rintro e w4 ⟨⟨g4, cap4, rfl, h4, hg4, hc4⟩, hb4⟩
    have R4 := Lib.hid h4
    have R34 := Lib.hid (R3.out.below hb4)
    have HC4 : Hid (Below w2.heap.size w2 w4) := Lib.hid (bl_next' HC3.out hb4)
    clear h4 hb4 R3
    have HS4 : Hid (∀ W, RowAt W g4 (Sem.sortV xs) → StrsAt W (.slice (some ⟨g4, 0, none⟩) xs.length cap4) (Sem.sortV xs)) := Lib.hid (fun W h => by have := h.strs (cap := cap4) (by rw [HSL.out]; exact hc4.1) hc4.2; rw [HSL.out] at this; exact this)
    go_wp2_with fail
    refine (eqStringS_any _ _ _ w4 (HS4.out _ R4.out) (H2.out.below HC4.out)).mono ?_
    rintro e w5 ⟨rfl, n5, rfl⟩
    go_wp2_with fail
    refine (toStringS_any v0 xs _ (H0.out.below (bl_drewN (bl_next' HB2.out HC4.out) n5)) hn).mono ?_
    rintro e w6 ⟨⟨t, rfl, ht⟩, hb6⟩
    have HT := Lib.hid ht
    have R36 := Lib.hid ((R34.out.drewN n5).below hb6)
    have R46 := Lib.hid ((R4.out.drewN n5).below hb6)
    have HC6 : Hid (Below w2.heap.size w2 w6) := Lib.hid (bl_next' (bl_drewN HC4.out n5) hb6)
    clear ht hb6 R34 R4 HC4
    go_wp2_with fail
    refine (eqStringS_any _ _ _ w6 (R36.out.strs (Nat.le_refl _) (by omega)) HT.out).mono ?_
    rintro e w7 ⟨rfl, n7, rfl⟩
    go_wp2_with fail
    -- the copy is marked
    refine (HMK.out _ _ _ _ (R36.out.drewN n7) rfl ⟨Nat.le_refl _, by omega⟩).mono ?_
    rintro e w8 ⟨rfl, -, hb8⟩
    have R48 := Lib.hid ((R46.out.drewN n7).but hb8 (by omega))
    have HC8 : Hid (Below w2.heap.size w2 w8) := Lib.hid ((bl_drewN HC6.out n7).trans (hb8.mono (Nat.le_refl _) (bl_drewN HC6.out n7).size))
    clear hb8 R36 R46 HC6 HT
    go_wp2_with fail
    refine (eqStringS_any _ _ _ w8 (HS4.out _ R48.out) (H2.out.below HC8.out)).mono ?_
    rintro e w9 ⟨rfl, n9, rfl⟩
    go_wp2_with fail
    -- the result is marked
    have HM9 := Lib.hid (HMK.out g4 cap4 _ _ (R48.out.drewN n9) HSL.out hc4)
    rw [HSL.out] at HM9
    refine HM9.out.mono ?_
    rintro e w10 ⟨rfl, h10, hb10⟩
    have R10 := Lib.hid h10
    have HC10 : Hid (Below w2.heap.size w2 w10) := Lib.hid ((bl_drewN HC8.out n9).trans (hb10.mono (by omega) (bl_drewN HC8.out n9).size))
    clear h10 hb10 HM9 R48 HC8
    go_wp2_with fail
    refine (HHL.out g4 cap4 w10 R10.out hc4).mono ?_
    rintro e w11 ⟨rfl, hb11⟩
    have R11 := Lib.hid (R10.out.below hb11)
    have HC11 : Hid (Below w2.heap.size w2 w11) := Lib.hid (bl_next' HC10.out hb11)
    clear hb11 R10 HC10
    go_wp2_with fail
    refine (toStringS_any v0 xs w11 (H0.out.below (bl_next' HB2.out HC11.out)) hn).mono ?_
    rintro e w12 ⟨⟨t2, rfl, ht2⟩, hb12⟩
    have HT2 := Lib.hid ht2
    have R12 := Lib.hid (R11.out.below hb12)
    have HC12 : Hid (Below w2.heap.size w2 w12) := Lib.hid (bl_next' HC11.out hb12)
    clear ht2 hb12 R11 HC11
    go_wp2_with fail
    refine (HSR.out _ w12 HT2.out).mono ?_
    rintro e w13 ⟨⟨g13, cap13, rfl, h13, hg13, hc13⟩, hb13⟩
    have R13 := Lib.hid h13
    have R14 := Lib.hid (R12.out.below hb13)
    have HC13 : Hid (Below w2.heap.size w2 w13) := Lib.hid (bl_next' HC12.out hb13)
    have HS13 : Hid (StrsAt w13 (.slice (some ⟨g13, 0, none⟩) xs.length cap13) (Sem.sortV xs)) := Lib.hid (by have := R13.out.strs (cap := cap13) (by rw [HSL.out]; exact hc13.1) hc13.2; rw [HSL.out] at this; exact this)
    clear h13 hb13 R12 HC12 R13
    go_wp2_with fail
    refine (eqStringS_any _ _ _ w13 HS13.out (H2.out.below HC13.out)).mono ?_
    rintro e w14 ⟨rfl, n14, rfl⟩
    go_wp2_with fail
    refine (HHL.out g4 cap4 _ (R14.out.drewN n14) hc4).mono ?_
    rintro e w15 ⟨rfl, hb15⟩
    have HBF : Hid (Below w.heap.size w w15) := Lib.hid (bl_next' (bl_next' HB2.out (bl_drewN HC13.out n14)) hb15)
    clear hb15
    go_wp2_with fail
    go_ret
    exact ⟨rfl, HBF.out⟩

end Go.Proofs.Ytienkoadkhcghaa
