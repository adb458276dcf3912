/- Contracts of semver.parse, Compare and compareVersion once more, with what a sort asks besides: no draw is taken back, so that what is left is the world with some draws and some blocks more (printed by gen_bel.py out of SemWalks4, 6 and 8). Condition: the texts are no longer than 2 to the power of 50. -/
import Derived.Test.YtienkoadkhcghaaSemWalks8
import Derived.Sort.Grow
namespace Go.Proofs.Ytienkoadkhcghaa.D
open Go.RowKit

structure Bel (B : Nat) (w w' : World) : Prop where
  bel : Below B w w'
  drawn : w.drawn ≤ w'.drawn
theorem Bel.refl (B : Nat) (w : World) : Bel B w w := ⟨Below.refl _ _, Nat.le_refl _⟩
theorem Bel.size {B : Nat} {w w' : World} (h : Bel B w w') : w.heap.size ≤ w'.heap.size := h.bel.size
theorem Bel.cell {B : Nat} {w w' : World} (h : Bel B w w') {p : Addr} (hp : p.block < B) : w'.cell? p = w.cell? p := h.bel.cell hp
theorem Bel.trans {B : Nat} {w w1 w2 : World} (h : Bel B w w1) (k : Bel B w1 w2) : Bel B w w2 := ⟨h.bel.trans k.bel, Nat.le_trans h.drawn k.drawn⟩
theorem Bel.mono {B B' : Nat} {w w1 : World} (h : Bel B w w1) (hb : B' ≤ B) : Bel B' w w1 := ⟨h.bel.mono hb, h.drawn⟩
theorem Bel.alloc {B : Nat} {w w1 : World} (h : Bel B w w1) (hB : B ≤ w1.heap.size) (o : Obj) : Bel B w (w1.alloc o) := ⟨h.bel.alloc hB o, h.drawn⟩
theorem Bel.setCell {B : Nat} {w w1 : World} (h : Bel B w w1) {p : Addr} (hp : B ≤ p.block) (v : Value) : Bel B w (w1.setCell p v) := ⟨h.bel.setCell hp v, h.drawn⟩
theorem bl_drewN {B : Nat} {a w : World} (h : Bel B a w) (n : Nat) : Bel B a (w.drewN n) := ⟨Go.Proofs.Ytienkoadkhcghaa.bl_drewN h.bel n, Nat.le_trans h.drawn (Nat.le_add_right _ _)⟩
theorem bl_put {B : Nat} {a w : World} (h : Bel B a w) (off : Nat) (v : Value) : Bel B a (w.setCell ⟨B, off, none⟩ v) := h.setCell (Nat.le_refl _) v
theorem bl_new (w : World) (o : Obj) : Bel w.heap.size w (w.alloc o) := (Bel.refl _ _).alloc (Nat.le_refl _) o
theorem bl_chain {w w1 w2 : World} {o : Obj} (h1 : Bel w.heap.size w w1) (h2 : Bel (w1.alloc o).heap.size (w1.alloc o) w2) : Bel w.heap.size w w2 :=
  (h1.alloc h1.size o).trans (h2.mono (by simp; have := h1.size; omega))
theorem bl_more {w w1 : World} (h1 : Bel w.heap.size w w1) (o : Obj) : Bel w.heap.size w (w1.alloc o) := h1.alloc h1.size o
theorem old_cell {w1 w2 : World} {cs : Array Value} {t : TypeId} (hb2 : Bel (w1.alloc (.cells cs t)).heap.size (w1.alloc (.cells cs t)) w2) (i : Nat) (v : Value) (h : cs[i]? = some v) (o : Obj) :
    (w2.alloc o).cell? ⟨w1.heap.size, i, none⟩ = some v := Go.Proofs.Ytienkoadkhcghaa.old_cell hb2.bel i v h o
/-- the world with some draws and some blocks more -/
theorem Bel.grown {w w' : World} (h : Bel w.heap.size w w') : ∃ q os, w' = Go.Sort.grow (w.drewN q) os := by
  refine ⟨w'.drawn - w.drawn, w'.heap.extract w.heap.size w'.heap.size, ?_⟩
  have hd := h.drawn
  have hs := h.size
  have e : w.heap ++ w'.heap.extract w.heap.size w'.heap.size = w'.heap := by
    apply Array.ext_getElem?
    intro k
    rw [Array.getElem?_append]
    split
    · rename_i hk; exact (h.bel.block k hk).symm
    · rename_i hk
      rw [Array.getElem?_extract]
      simp only [Nat.min_self]
      by_cases hk2 : k < w'.heap.size
      · rw [if_pos (by omega), show w.heap.size + (k - w.heap.size) = k by omega]
      · rw [if_neg (by omega), Array.getElem?_eq_none (by omega)]
  have e2 : w.drawn + (w'.drawn - w.drawn) = w'.drawn := by omega
  have h1 := h.bel.os; have h2 := h.bel.tape; have h3 := h.bel.output
  show w' = { (w.drewN (w'.drawn - w.drawn)) with heap := w.heap ++ w'.heap.extract w.heap.size w'.heap.size }
  rw [e]
  unfold World.drewN
  cases w'; cases w
  simp only at *
  subst h1 h2 h3
  rw [e2]

set_option maxHeartbeats 4000000 in
set_option maxRecDepth 100000 in
theorem parse_any (l : List UInt8) (w : World) (hl : l.length ≤ 1152921504606846976) :
    Calls Try.prog 37 #[str l] w fun e w' => PRet (Sem.parse l) e ∧ Bel w.heap.size w w' := by
  rcases l with _ | ⟨c0, l0⟩
  · go_enter Try.func37, Try.ntmps37
    go_wp2
    go_returns
    exact ⟨PRet.no ⟨[], [], [], [], [], []⟩ rfl, by (repeat (first | (with_reducible refine bl_put ?_ _ _) | (with_reducible refine bl_drewN ?_ _) | (with_reducible exact bl_new _ _) | exact Bel.refl _ _))⟩
  · have hlen : l0.length + 1 ≤ 1152921504606846976 := hl
    have hbR0 := get_bl (c0 :: l0)
    have heR0 : (c0 :: l0 : List UInt8).isEmpty = false := rfl
    have hfR0 : (!(c0 :: l0 : List UInt8).isEmpty) = true := rfl
    have hdR0 : (c0 :: l0 : List UInt8).drop 1 = l0 := rfl
    have hnR0 : (c0 :: l0 : List UInt8).length = l0.length + 1 := rfl
    have hpR0 : 0 < (c0 :: l0 : List UInt8).length := by simp
    by_cases hc0 : c0 = 118
    · obtain ⟨hx0, hy0⟩ := hd_eq (d := 118) l0 hc0
      change (Sem.bt (c0 :: l0) 0 != 118) = false at hx0
      have HC0 := Lib.hid hc0
      clear hc0 hy0
      generalize hGR0 : c0 :: l0 = R0 at *
      have HGR0 := Lib.hid hGR0.symm
      have HDR0 := Lib.hid hdR0
      have HNR0 := Lib.hid hnR0
      clear hGR0 hdR0 hnR0
      go_enter Try.func37, Try.ntmps37
      go_wp2_with fail
      rw [ext_str, HDR0.out, List.take_of_length_le (by have := HNR0.out; omega)]
      refine (parseInt_any l0 _ (by have := HNR0.out; omega)).mono ?_
      rintro e w' ⟨rfl, nR0, rfl⟩
      cases h1 : Sem.parseInt l0 with
      | none =>
        rw [tup3]
        go_wp2_with fail
        go_returns
        exact ⟨PRet.no ⟨[], [], [], [], [], []⟩ (by rw [HGR0.out];  simp [Sem.parse, HC0.out, h1]), by (repeat (first | (with_reducible refine bl_put ?_ _ _) | (with_reducible refine bl_drewN ?_ _) | (with_reducible exact bl_new _ _) | exact Bel.refl _ _))⟩
      | some x1 =>
        obtain ⟨a1, r1⟩ := x1
        have hs1 := Sem.len_of_split (Sem.parseInt_split h1)
        rw [tup3]
        have H1 := Lib.hid h1
        clear h1
        rcases r1 with _ | ⟨c1, l1⟩
        · go_wp2_with fail
          go_returns
          exact ⟨PRet.yes ⟨a1, [48], [48], [46, 48, 46, 48], [], []⟩ (by rw [HGR0.out];  simp [Sem.parse, HC0.out, H1.out]), by (repeat (first | (with_reducible refine bl_put ?_ _ _) | (with_reducible refine bl_drewN ?_ _) | (with_reducible exact bl_new _ _) | exact Bel.refl _ _))⟩
        · simp only [List.length_cons] at hs1
          have hbR1 := get_bl (c1 :: l1)
          have heR1 : (c1 :: l1 : List UInt8).isEmpty = false := rfl
          have hfR1 : (!(c1 :: l1 : List UInt8).isEmpty) = true := rfl
          have hdR1 : (c1 :: l1 : List UInt8).drop 1 = l1 := rfl
          have hnR1 : (c1 :: l1 : List UInt8).length = l1.length + 1 := rfl
          have hpR1 : 0 < (c1 :: l1 : List UInt8).length := by simp
          by_cases hc1 : c1 = 46
          · obtain ⟨hx1, hy1⟩ := hd_eq (d := 46) l1 hc1
            change (Sem.bt (c1 :: l1) 0 != 46) = false at hx1
            have HC1 := Lib.hid hc1
            clear hc1 hy1
            generalize hGR1 : c1 :: l1 = R1 at *
            have HGR1 := Lib.hid hGR1.symm
            have HDR1 := Lib.hid hdR1
            have HNR1 := Lib.hid hnR1
            clear hGR1 hdR1 hnR1
            go_wp2_with fail
            rw [ext_str, HDR1.out, List.take_of_length_le (by have := HNR1.out; omega)]
            refine (parseInt_any l1 _ (by have := HNR1.out; omega)).mono ?_
            rintro e w' ⟨rfl, nR1, rfl⟩
            cases h2 : Sem.parseInt l1 with
            | none =>
              rw [tup3]
              go_wp2_with fail
              go_returns
              exact ⟨PRet.no ⟨a1, [], [], [], [], []⟩ (by rw [HGR0.out];  simp [Sem.parse, HC0.out, H1.out, HGR1.out, HC1.out, h2]), by (repeat (first | (with_reducible refine bl_put ?_ _ _) | (with_reducible refine bl_drewN ?_ _) | (with_reducible exact bl_new _ _) | exact Bel.refl _ _))⟩
            | some x2 =>
              obtain ⟨a2, r2⟩ := x2
              have hs2 := Sem.len_of_split (Sem.parseInt_split h2)
              rw [tup3]
              have H2 := Lib.hid h2
              clear h2
              rcases r2 with _ | ⟨c2, l2⟩
              · go_wp2_with fail
                go_returns
                exact ⟨PRet.yes ⟨a1, a2, [48], [46, 48], [], []⟩ (by rw [HGR0.out];  simp [Sem.parse, HC0.out, H1.out, HGR1.out, HC1.out, H2.out]), by (repeat (first | (with_reducible refine bl_put ?_ _ _) | (with_reducible refine bl_drewN ?_ _) | (with_reducible exact bl_new _ _) | exact Bel.refl _ _))⟩
              · simp only [List.length_cons] at hs2
                have hbR2 := get_bl (c2 :: l2)
                have heR2 : (c2 :: l2 : List UInt8).isEmpty = false := rfl
                have hfR2 : (!(c2 :: l2 : List UInt8).isEmpty) = true := rfl
                have hdR2 : (c2 :: l2 : List UInt8).drop 1 = l2 := rfl
                have hnR2 : (c2 :: l2 : List UInt8).length = l2.length + 1 := rfl
                have hpR2 : 0 < (c2 :: l2 : List UInt8).length := by simp
                by_cases hc2 : c2 = 46
                · obtain ⟨hx2, hy2⟩ := hd_eq (d := 46) l2 hc2
                  change (Sem.bt (c2 :: l2) 0 != 46) = false at hx2
                  have HC2 := Lib.hid hc2
                  clear hc2 hy2
                  generalize hGR2 : c2 :: l2 = R2 at *
                  have HGR2 := Lib.hid hGR2.symm
                  have HDR2 := Lib.hid hdR2
                  have HNR2 := Lib.hid hnR2
                  clear hGR2 hdR2 hnR2
                  go_wp2_with fail
                  rw [ext_str, HDR2.out, List.take_of_length_le (by have := HNR2.out; omega)]
                  refine (parseInt_any l2 _ (by have := HNR2.out; omega)).mono ?_
                  rintro e w' ⟨rfl, nR2, rfl⟩
                  cases h3 : Sem.parseInt l2 with
                  | none =>
                    rw [tup3]
                    go_wp2_with fail
                    go_returns
                    exact ⟨PRet.no ⟨a1, a2, [], [], [], []⟩ (by rw [HGR0.out];  simp [Sem.parse, HC0.out, H1.out, HGR1.out, HC1.out, H2.out, HGR2.out, HC2.out, h3]), by (repeat (first | (with_reducible refine bl_put ?_ _ _) | (with_reducible refine bl_drewN ?_ _) | (with_reducible exact bl_new _ _) | exact Bel.refl _ _))⟩
                  | some x3 =>
                    obtain ⟨a3, r3⟩ := x3
                    have hs3 := Sem.len_of_split (Sem.parseInt_split h3)
                    rw [tup3]
                    have H3 := Lib.hid h3
                    clear h3
                    rcases r3 with _ | ⟨c3, l3⟩
                    · have h45 : ((0 : Int) < 0) = False := by simp
                      go_wp2_with fail
                      go_returns
                      exact ⟨PRet.yes ⟨a1, a2, a3, [], [], []⟩ (by rw [HGR0.out];  simp [Sem.parse, Sem.parseTail, Sem.endTail, HC0.out, H1.out, HGR1.out, HC1.out, H2.out, HGR2.out, HC2.out, H3.out]), by (repeat (first | (with_reducible refine bl_put ?_ _ _) | (with_reducible refine bl_drewN ?_ _) | (with_reducible exact bl_new _ _) | exact Bel.refl _ _))⟩
                    · simp only [List.length_cons] at hs3
                      have hbR3 := get_bl (c3 :: l3)
                      have heR3 : (c3 :: l3 : List UInt8).isEmpty = false := rfl
                      have hfR3 : (!(c3 :: l3 : List UInt8).isEmpty) = true := rfl
                      have hdR3 : (c3 :: l3 : List UInt8).drop 1 = l3 := rfl
                      have hnR3 : (c3 :: l3 : List UInt8).length = l3.length + 1 := rfl
                      have hpR3 : 0 < (c3 :: l3 : List UInt8).length := by simp
                      by_cases hm3 : c3 = 45
                      · obtain ⟨hx3, hy3⟩ := hd_eq (d := 45) l3 hm3
                        change (Sem.bt (c3 :: l3) 0 == 45) = true at hy3
                        clear hx3
                        subst hm3
                        have hpp := parsePre_any l3
                        have hparts := Lib.hid (fun (t r : List UInt8) (h : Sem.parsePre (45 :: l3) = some (t, r)) => Sem.len_of_split (Sem.parsePre_split h))
                        have HPP := Lib.hid hpp
                        clear hpp
                        generalize hGR3 : 45 :: l3 = R3 at *
                        have HGR3 := Lib.hid hGR3.symm
                        have HDR3 := Lib.hid hdR3
                        have HNR3 := Lib.hid hnR3
                        clear hGR3 hdR3 hnR3
                        go_wp2_with fail
                        refine (HPP.out _ (by have := HNR3.out; omega)).mono ?_
                        rintro e w' ⟨rfl, n3, rfl⟩
                        cases h4 : Sem.parsePre R3 with
                        | none =>
                          rw [tup3]
                          rw [HGR3.out] at h4
                          go_wp2_with fail
                          go_returns
                          exact ⟨PRet.no ⟨a1, a2, a3, [], [], []⟩ (by rw [HGR0.out];  simp [Sem.parse, Sem.parseTail, HC0.out, H1.out, HGR1.out, HC1.out, H2.out, HGR2.out, HC2.out, H3.out, HGR3.out, h4]), by (repeat (first | (with_reducible refine bl_put ?_ _ _) | (with_reducible refine bl_drewN ?_ _) | (with_reducible exact bl_new _ _) | exact Bel.refl _ _))⟩
                        | some x4 =>
                          obtain ⟨a4, r4⟩ := x4
                          have hs4 := hparts.out _ _ h4
                          rw [tup3]
                          rw [HGR3.out] at h4
                          have H4 := Lib.hid h4
                          clear h4
                          rcases r4 with _ | ⟨c4, l4⟩
                          · have h45 : ((0 : Int) < 0) = False := by simp
                            go_wp2_with fail
                            go_returns
                            exact ⟨PRet.yes ⟨a1, a2, a3, [], a4, []⟩ (by rw [HGR0.out];  simp [Sem.parse, Sem.parseTail, Sem.endTail, HC0.out, H1.out, HGR1.out, HC1.out, H2.out, HGR2.out, HC2.out, H3.out, HGR3.out, H4.out]), by (repeat (first | (with_reducible refine bl_put ?_ _ _) | (with_reducible refine bl_drewN ?_ _) | (with_reducible exact bl_new _ _) | exact Bel.refl _ _))⟩
                          · simp only [List.length_cons] at hs4
                            have hbR4 := get_bl (c4 :: l4)
                            have heR4 : (c4 :: l4 : List UInt8).isEmpty = false := rfl
                            have hfR4 : (!(c4 :: l4 : List UInt8).isEmpty) = true := rfl
                            have hdR4 : (c4 :: l4 : List UInt8).drop 1 = l4 := rfl
                            have hnR4 : (c4 :: l4 : List UInt8).length = l4.length + 1 := rfl
                            have hpR4 : 0 < (c4 :: l4 : List UInt8).length := by simp
                            by_cases hq4 : c4 = 43
                            · obtain ⟨hu4, hv4⟩ := hd_eq (d := 43) l4 hq4
                              change (Sem.bt (c4 :: l4) 0 == 43) = true at hv4
                              clear hu4
                              subst hq4
                              have HPB := Lib.hid (parseBuild_any l4)
                              have hsp := Lib.hid (fun (t r : List UInt8) (h : Sem.parseBuild (43 :: l4) = some (t, r)) => Sem.parseBuild_split h)
                              generalize hGR4 : 43 :: l4 = R4 at *
                              have HGR4 := Lib.hid hGR4.symm
                              have HDR4 := Lib.hid hdR4
                              have HNR4 := Lib.hid hnR4
                              clear hGR4 hdR4 hnR4
                              go_wp2_with fail
                              refine (HPB.out _ (by have := HNR4.out; have := HNR3.out; omega)).mono ?_
                              rintro e w' ⟨rfl, m4, rfl⟩
                              cases h5 : Sem.parseBuild R4 with
                              | none =>
                                rw [tup3]
                                rw [HGR4.out] at h5
                                go_wp2_with fail
                                go_returns
                                exact ⟨PRet.no ⟨a1, a2, a3, [], a4, []⟩ (by rw [HGR0.out];  simp [Sem.parse, Sem.parseTail, Sem.endTail, HC0.out, H1.out, HGR1.out, HC1.out, H2.out, HGR2.out, HC2.out, H3.out, HGR3.out, H4.out, HGR4.out, h5]), by (repeat (first | (with_reducible refine bl_put ?_ _ _) | (with_reducible refine bl_drewN ?_ _) | (with_reducible exact bl_new _ _) | exact Bel.refl _ _))⟩
                              | some x5 =>
                                obtain ⟨a5, r5⟩ := x5
                                obtain ⟨hq5, rfl⟩ := hsp.out _ _ h5
                                rw [tup3]
                                rw [HGR4.out] at h5
                                have HQ5 := Lib.hid hq5
                                have H5 := Lib.hid h5
                                clear h5 hq5
                                go_wp2_with fail
                                go_returns
                                exact ⟨PRet.yes ⟨a1, a2, a3, [], a4, a5⟩ (by rw [HGR0.out];  simp [Sem.parse, Sem.parseTail, Sem.endTail, HC0.out, H1.out, HGR1.out, HC1.out, H2.out, HGR2.out, HC2.out, H3.out, HGR3.out, H4.out, HGR4.out, H5.out]), by (repeat (first | (with_reducible refine bl_put ?_ _ _) | (with_reducible refine bl_drewN ?_ _) | (with_reducible exact bl_new _ _) | exact Bel.refl _ _))⟩
                            · obtain ⟨hu4, hv4⟩ := hd_ne (d := 43) l4 hq4
                              change (Sem.bt (c4 :: l4) 0 == 43) = false at hv4
                              have HQ4 := Lib.hid hq4
                              clear hu4 hq4
                              generalize hGR4 : c4 :: l4 = R4 at *
                              have HGR4 := Lib.hid hGR4.symm
                              have HDR4 := Lib.hid hdR4
                              have HNR4 := Lib.hid hnR4
                              clear hGR4 hdR4 hnR4
                              go_wp2_with fail
                              go_returns
                              exact ⟨PRet.no ⟨a1, a2, a3, [], a4, []⟩ (by rw [HGR0.out];  simp [Sem.parse, Sem.parseTail, Sem.endTail, HC0.out, H1.out, HGR1.out, HC1.out, H2.out, HGR2.out, HC2.out, H3.out, HGR3.out, H4.out, HGR4.out, HQ4.out]), by (repeat (first | (with_reducible refine bl_put ?_ _ _) | (with_reducible refine bl_drewN ?_ _) | (with_reducible exact bl_new _ _) | exact Bel.refl _ _))⟩
                      · obtain ⟨hx3, hy3⟩ := hd_ne (d := 45) l3 hm3
                        change (Sem.bt (c3 :: l3) 0 == 45) = false at hy3
                        have HM3 := Lib.hid hm3
                        clear hx3 hm3
                        by_cases hq3 : c3 = 43
                        · obtain ⟨hu3, hv3⟩ := hd_eq (d := 43) l3 hq3
                          change (Sem.bt (c3 :: l3) 0 == 43) = true at hv3
                          clear hu3
                          subst hq3
                          have HPB := Lib.hid (parseBuild_any l3)
                          have hsp := Lib.hid (fun (t r : List UInt8) (h : Sem.parseBuild (43 :: l3) = some (t, r)) => Sem.parseBuild_split h)
                          generalize hGR3 : 43 :: l3 = R3 at *
                          have HGR3 := Lib.hid hGR3.symm
                          have HDR3 := Lib.hid hdR3
                          have HNR3 := Lib.hid hnR3
                          clear hGR3 hdR3 hnR3
                          go_wp2_with fail
                          refine (HPB.out _ (by have := HNR3.out; omega)).mono ?_
                          rintro e w' ⟨rfl, m3, rfl⟩
                          cases h5 : Sem.parseBuild R3 with
                          | none =>
                            rw [tup3]
                            rw [HGR3.out] at h5
                            go_wp2_with fail
                            go_returns
                            exact ⟨PRet.no ⟨a1, a2, a3, [], [], []⟩ (by rw [HGR0.out];  simp [Sem.parse, Sem.parseTail, Sem.endTail, HC0.out, H1.out, HGR1.out, HC1.out, H2.out, HGR2.out, HC2.out, H3.out, HGR3.out, h5]), by (repeat (first | (with_reducible refine bl_put ?_ _ _) | (with_reducible refine bl_drewN ?_ _) | (with_reducible exact bl_new _ _) | exact Bel.refl _ _))⟩
                          | some x5 =>
                            obtain ⟨a5, r5⟩ := x5
                            obtain ⟨hq5, rfl⟩ := hsp.out _ _ h5
                            rw [tup3]
                            rw [HGR3.out] at h5
                            have HQ5 := Lib.hid hq5
                            have H5 := Lib.hid h5
                            clear h5 hq5
                            go_wp2_with fail
                            go_returns
                            exact ⟨PRet.yes ⟨a1, a2, a3, [], [], a5⟩ (by rw [HGR0.out];  simp [Sem.parse, Sem.parseTail, Sem.endTail, HC0.out, H1.out, HGR1.out, HC1.out, H2.out, HGR2.out, HC2.out, H3.out, HGR3.out, H5.out]), by (repeat (first | (with_reducible refine bl_put ?_ _ _) | (with_reducible refine bl_drewN ?_ _) | (with_reducible exact bl_new _ _) | exact Bel.refl _ _))⟩
                        · obtain ⟨hu3, hv3⟩ := hd_ne (d := 43) l3 hq3
                          change (Sem.bt (c3 :: l3) 0 == 43) = false at hv3
                          have HQ3 := Lib.hid hq3
                          clear hu3 hq3
                          generalize hGR3 : c3 :: l3 = R3 at *
                          have HGR3 := Lib.hid hGR3.symm
                          have HDR3 := Lib.hid hdR3
                          have HNR3 := Lib.hid hnR3
                          clear hGR3 hdR3 hnR3
                          go_wp2_with fail
                          go_returns
                          exact ⟨PRet.no ⟨a1, a2, a3, [], [], []⟩ (by rw [HGR0.out];  simp [Sem.parse, Sem.parseTail, Sem.endTail, HC0.out, H1.out, HGR1.out, HC1.out, H2.out, HGR2.out, HC2.out, H3.out, HGR3.out, HQ3.out, HM3.out]), by (repeat (first | (with_reducible refine bl_put ?_ _ _) | (with_reducible refine bl_drewN ?_ _) | (with_reducible exact bl_new _ _) | exact Bel.refl _ _))⟩
                · obtain ⟨hx2, hy2⟩ := hd_ne (d := 46) l2 hc2
                  change (Sem.bt (c2 :: l2) 0 != 46) = true at hx2
                  have HC2 := Lib.hid hc2
                  clear hc2 hy2
                  generalize hGR2 : c2 :: l2 = R2 at *
                  have HGR2 := Lib.hid hGR2.symm
                  have HDR2 := Lib.hid hdR2
                  have HNR2 := Lib.hid hnR2
                  clear hGR2 hdR2 hnR2
                  go_wp2_with fail
                  go_returns
                  exact ⟨PRet.no ⟨a1, a2, [], [], [], []⟩ (by rw [HGR0.out];  simp [Sem.parse, HC0.out, H1.out, HGR1.out, HC1.out, H2.out, HGR2.out, HC2.out]), by (repeat (first | (with_reducible refine bl_put ?_ _ _) | (with_reducible refine bl_drewN ?_ _) | (with_reducible exact bl_new _ _) | exact Bel.refl _ _))⟩
          · obtain ⟨hx1, hy1⟩ := hd_ne (d := 46) l1 hc1
            change (Sem.bt (c1 :: l1) 0 != 46) = true at hx1
            have HC1 := Lib.hid hc1
            clear hc1 hy1
            generalize hGR1 : c1 :: l1 = R1 at *
            have HGR1 := Lib.hid hGR1.symm
            have HDR1 := Lib.hid hdR1
            have HNR1 := Lib.hid hnR1
            clear hGR1 hdR1 hnR1
            go_wp2_with fail
            go_returns
            exact ⟨PRet.no ⟨a1, [], [], [], [], []⟩ (by rw [HGR0.out];  simp [Sem.parse, HC0.out, H1.out, HGR1.out, HC1.out]), by (repeat (first | (with_reducible refine bl_put ?_ _ _) | (with_reducible refine bl_drewN ?_ _) | (with_reducible exact bl_new _ _) | exact Bel.refl _ _))⟩
    · obtain ⟨hx0, hy0⟩ := hd_ne (d := 118) l0 hc0
      change (Sem.bt (c0 :: l0) 0 != 118) = true at hx0
      have HC0 := Lib.hid hc0
      clear hc0 hy0
      generalize hGR0 : c0 :: l0 = R0 at *
      have HGR0 := Lib.hid hGR0.symm
      have HDR0 := Lib.hid hdR0
      have HNR0 := Lib.hid hnR0
      clear hGR0 hdR0 hnR0
      go_enter Try.func37, Try.ntmps37
      go_wp2_with fail
      go_returns
      exact ⟨PRet.no ⟨[], [], [], [], [], []⟩ (by rw [HGR0.out];  simp [Sem.parse, HC0.out]), by (repeat (first | (with_reducible refine bl_put ?_ _ _) | (with_reducible refine bl_drewN ?_ _) | (with_reducible exact bl_new _ _) | exact Bel.refl _ _))⟩

set_option maxHeartbeats 2000000 in
set_option maxRecDepth 100000 in
theorem compare_any (x y : List UInt8) (w : World) (hx : x.length ≤ 1125899906842624) (hy : y.length ≤ 1125899906842624) :
    Calls Try.prog 33 #[str x, str y] w fun e w' => e = .returned (.int .i64 (Sem.compare x y)) ∧ Bel w.heap.size w w' := by
  go_enter Try.func33, Try.ntmps33
  go_wp2_with fail
  refine (parse_any x _ (by omega)).mono ?_
  rintro e w1 ⟨hP1, hb1⟩
  rcases hP1 with ⟨v, hv, rfl⟩ | ⟨hv, v, rfl⟩
  · obtain ⟨v1, v2, v3, v4, v5, v6⟩ := v
    have hlv := Sem.parse_len hv
    have hpv := Sem.parse_pre hv
    simp only at hlv hpv
    have HV := Lib.hid hv
    have HPV := Lib.hid hpv
    obtain ⟨hlv1, hlv2, hlv3, hlv4, hlv5, hlv6⟩ := hlv
    clear hv hpv
    unfold verV
    go_wp2_with fail
    refine (parse_any y _ (by omega)).mono ?_
    rintro e w2 ⟨hP2, hb2⟩
    have q0 := old_cell hb2 0 _ rfl
    have q1 := old_cell hb2 1 _ rfl
    have q2 := old_cell hb2 2 _ rfl
    have q4 := old_cell hb2 4 _ rfl
    have HB2 := Lib.hid hb2
    clear hb2
    rcases hP2 with ⟨u, hu, rfl⟩ | ⟨hu, u, rfl⟩
    · obtain ⟨u1, u2, u3, u4, u5, u6⟩ := u
      have hlu := Sem.parse_len hu
      have hpu := Sem.parse_pre hu
      simp only at hlu hpu
      have HU := Lib.hid hu
      have HPU := Lib.hid hpu
      obtain ⟨hlu1, hlu2, hlu3, hlu4, hlu5, hlu6⟩ := hlu
      clear hu hpu
      have hcv : Sem.compare x y = Sem.cmpVer ⟨v1, v2, v3, v4, v5, v6⟩ ⟨u1, u2, u3, u4, u5, u6⟩ := by unfold Sem.compare; rw [HV.out, HU.out]
      unfold Sem.cmpVer at hcv
      simp only at hcv
      have HCV := Lib.hid hcv
      clear hcv
      unfold verV
      by_cases k1 : Sem.cmpInt v1 u1 = 0
      · have K1 := Lib.hid k1
        have b1 := cmp_zero k1
        clear k1
        by_cases k2 : Sem.cmpInt v2 u2 = 0
        · have K2 := Lib.hid k2
          have b2 := cmp_zero k2
          clear k2
          by_cases k3 : Sem.cmpInt v3 u3 = 0
          · have K3 := Lib.hid k3
            have b3 := cmp_zero k3
            clear k3
            go_wp2_with (first | (go_at_call 39; refine (compareInt_any _ _ _ (by omega) (by omega)).mono ?_; rintro e w' ⟨rfl, rfl⟩) | (go_at_call 40; refine (comparePre_any _ _ _ (by omega) (by omega) HPV.out HPU.out).mono ?_; rintro e w' ⟨rfl, n, rfl⟩))
            go_ret
            exact ⟨ret_int' (by rw [HCV.out]; simp [K1.out, K2.out, K3.out]), bl_drewN (bl_more (bl_chain hb1 HB2.out) _) _⟩
          · have K3 := Lib.hid k3
            have b3 := cmp_nz k3
            clear k3
            go_wp2_with (first | (go_at_call 39; refine (compareInt_any _ _ _ (by omega) (by omega)).mono ?_; rintro e w' ⟨rfl, rfl⟩) | (go_at_call 40; refine (comparePre_any _ _ _ (by omega) (by omega) HPV.out HPU.out).mono ?_; rintro e w' ⟨rfl, n, rfl⟩))
            go_ret
            exact ⟨ret_int' (by rw [HCV.out]; simp [K1.out, K2.out, K3.out]), bl_more (bl_chain hb1 HB2.out) _⟩
        · have K2 := Lib.hid k2
          have b2 := cmp_nz k2
          clear k2
          go_wp2_with (first | (go_at_call 39; refine (compareInt_any _ _ _ (by omega) (by omega)).mono ?_; rintro e w' ⟨rfl, rfl⟩) | (go_at_call 40; refine (comparePre_any _ _ _ (by omega) (by omega) HPV.out HPU.out).mono ?_; rintro e w' ⟨rfl, n, rfl⟩))
          go_ret
          exact ⟨ret_int' (by rw [HCV.out]; simp [K1.out, K2.out]), bl_more (bl_chain hb1 HB2.out) _⟩
      · have K1 := Lib.hid k1
        have b1 := cmp_nz k1
        clear k1
        go_wp2_with (first | (go_at_call 39; refine (compareInt_any _ _ _ (by omega) (by omega)).mono ?_; rintro e w' ⟨rfl, rfl⟩) | (go_at_call 40; refine (comparePre_any _ _ _ (by omega) (by omega) HPV.out HPU.out).mono ?_; rintro e w' ⟨rfl, n, rfl⟩))
        go_ret
        exact ⟨ret_int' (by rw [HCV.out]; simp [K1.out]), bl_more (bl_chain hb1 HB2.out) _⟩
    · have HU := Lib.hid hu
      clear hu
      obtain ⟨u1, u2, u3, u4, u5, u6⟩ := u
      unfold verV
      go_wp2_with fail
      go_ret
      exact ⟨ret_int' (by unfold Sem.compare; rw [HV.out, HU.out]), bl_more (bl_chain hb1 HB2.out) _⟩
  · obtain ⟨v1, v2, v3, v4, v5, v6⟩ := v
    have HV := Lib.hid hv
    clear hv
    unfold verV
    go_wp2_with fail
    refine (parse_any y _ (by omega)).mono ?_
    rintro e w2 ⟨hP2, hb2⟩
    have HB2 := Lib.hid hb2
    clear hb2
    rcases hP2 with ⟨u, hu, rfl⟩ | ⟨hu, u, rfl⟩
    · have HU := Lib.hid hu
      clear hu
      obtain ⟨u1, u2, u3, u4, u5, u6⟩ := u
      unfold verV
      go_wp2_with fail
      go_ret
      exact ⟨ret_int' (by unfold Sem.compare; rw [HV.out, HU.out]), bl_more (bl_chain hb1 HB2.out) _⟩
    · have HU := Lib.hid hu
      clear hu
      obtain ⟨u1, u2, u3, u4, u5, u6⟩ := u
      unfold verV
      go_wp2_with fail
      go_ret
      exact ⟨ret_int' (by unfold Sem.compare; rw [HV.out, HU.out]), bl_more (bl_chain hb1 HB2.out) _⟩

set_option maxHeartbeats 400000 in
theorem compareVersion_any (x y : List UInt8) (w : World) (hx : x.length ≤ 1125899906842624) (hy : y.length ≤ 1125899906842624) :
    Calls Try.prog 34 #[str x, str y] w fun e w' => e = .returned (.int .i64 (Sem.cmpVersion x y)) ∧ Bel w.heap.size w w' := by
  go_enter Try.func34, Try.ntmps34
  go_wp2_with fail
  refine (compare_any x y _ hx hy).mono ?_
  rintro e w1 ⟨rfl, hb1⟩
  by_cases hc : Sem.compare x y = 0
  · have hcb := cmp_zero hc
    have HC := Lib.hid hc
    clear hc
    go_wp2_with (go_at_call 41; refine (strings_Compare x y _).mono ?_; rintro e w' ⟨rfl, rfl⟩)
    go_ret
    exact ⟨ret_int' (by unfold Sem.cmpVersion; simp [HC.out]), hb1⟩
  · have hcb := cmp_nz hc
    have HC := Lib.hid hc
    clear hc
    go_wp2_with fail
    go_ret
    exact ⟨ret_int' (by unfold Sem.cmpVersion; simp [HC.out]), hb1⟩

end Go.Proofs.Ytienkoadkhcghaa.D
