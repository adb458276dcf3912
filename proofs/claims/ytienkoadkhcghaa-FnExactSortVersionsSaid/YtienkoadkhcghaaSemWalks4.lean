/- The contract of semver.parse: what it returns, as the plain function Sem.parse tells. Condition: the text is no longer than 2 to the power of 60. -/
import Derived.Test.YtienkoadkhcghaaSemWalks3
import Derived.Handy
namespace Go.Proofs.Ytienkoadkhcghaa
open Go.RowKit

def verV (v : Sem.Ver) : Value := .agg #[str v.major, str v.minor, str v.patch, str v.short, str v.pre, str v.build]
/-- what parse returns -/
def PRet (o : Option Sem.Ver) (e : Ending) : Prop :=
  (∃ v, o = some v ∧ e = .returned (.tuple #[verV v, .bool true])) ∨ (o = none ∧ ∃ v, e = .returned (.tuple #[verV v, .bool false]))

theorem bl_drewN {B : Nat} {a w : World} (h : Below B a w) (n : Nat) : Below B a (w.drewN n) := ⟨h.os, h.tape, h.output, h.size, h.block⟩
theorem bl_drew {B : Nat} {a w : World} (h : Below B a w) : Below B a w.drew := ⟨h.os, h.tape, h.output, h.size, h.block⟩
theorem bl_set {B : Nat} {a w : World} (h : Below B a w) {p : Addr} (hp : B ≤ p.block) (v : Value) : Below B a (w.setCell p v) := h.setCell hp v
theorem bl_alloc {B : Nat} {a w : World} (h : Below B a w) (hB : B ≤ w.heap.size) (o : Obj) : Below B a (w.alloc o) := h.alloc hB o
theorem bl_put {B : Nat} {a w : World} (h : Below B a w) (off : Nat) (v : Value) : Below B a (w.setCell ⟨B, off, none⟩ v) := h.setCell (Nat.le_refl _) v
theorem bl_new (w : World) (o : Obj) : Below w.heap.size w (w.alloc o) := (Below.refl _ _).alloc (Nat.le_refl _) o

theorem PRet.yes {o : Option Sem.Ver} (v : Sem.Ver) (h : o = some v) : PRet o (.returned (.tuple #[verV v, .bool true])) := .inl ⟨v, h, rfl⟩
theorem PRet.no {o : Option Sem.Ver} (v : Sem.Ver) (h : o = none) : PRet o (.returned (.tuple #[verV v, .bool false])) := .inr ⟨h, v, rfl⟩
theorem hd_ne {c d : UInt8} (l : List UInt8) (h : ¬ c = d) : (Sem.bt (c :: l) 0 != d.toNat) = true ∧ (Sem.bt (c :: l) 0 == d.toNat) = false := by
  have e : Sem.bt (c :: l) 0 = c.toNat := by simp [Sem.bt]
  have n : ¬ (c.toNat : Int) = d.toNat := fun k => h (UInt8.toNat_inj.1 (by omega))
  rw [e]
  simp [n]
theorem hd_eq {c d : UInt8} (l : List UInt8) (h : c = d) : (Sem.bt (c :: l) 0 != d.toNat) = false ∧ (Sem.bt (c :: l) 0 == d.toNat) = true := by
  subst h
  have e : Sem.bt (c :: l) 0 = c.toNat := by simp [Sem.bt]
  rw [e]
  simp
set_option maxHeartbeats 4000000 in
set_option maxRecDepth 100000 in
theorem parse_any (l : List UInt8) (w : World) (hl : l.length ≤ 1152921504606846976) :
    Calls Try.prog 37 #[str l] w fun e w' => PRet (Sem.parse l) e ∧ Below w.heap.size w w' := by
  rcases l with _ | ⟨c0, l0⟩
  · go_enter Try.func37, Try.ntmps37
    go_wp2
    go_returns
    exact ⟨PRet.no ⟨[], [], [], [], [], []⟩ rfl, by (repeat (first | (with_reducible refine bl_put ?_ _ _) | (with_reducible refine bl_drewN ?_ _) | (with_reducible exact bl_new _ _) | exact Below.refl _ _))⟩
  · have hlen : l0.length + 1 ≤ 1152921504606846976 := hl
    have hbR0 := get_bl (c0 :: l0)
    have heR0 : (c0 :: l0 : List UInt8).isEmpty = false := rfl
    have hfR0 : (!(c0 :: l0 : List UInt8).isEmpty) = true := rfl
    have hdR0 : (c0 :: l0 : List UInt8).drop 1 = l0 := rfl
    have hnR0 : (c0 :: l0 : List UInt8).length = l0.length + 1 := rfl
    have hpR0 : 0 < (c0 :: l0 : List UInt8).length := by simp
    by_cases hc0 : c0 = 118
    · obtain ⟨hx0, hy0⟩ := hd_eq (d := 118) l0 hc0
      change (Sem.bt (c0 :: l0) 0 != 118) = false at hx0
      have HC0 := Lib.hid hc0
      clear hc0 hy0
      generalize hGR0 : c0 :: l0 = R0 at *
      have HGR0 := Lib.hid hGR0.symm
      have HDR0 := Lib.hid hdR0
      have HNR0 := Lib.hid hnR0
      clear hGR0 hdR0 hnR0
      go_enter Try.func37, Try.ntmps37
      go_wp2_with fail
      rw [ext_str, HDR0.out, List.take_of_length_le (by have := HNR0.out; omega)]
      refine (parseInt_any l0 _ (by have := HNR0.out; omega)).mono ?_
      rintro e w' ⟨rfl, nR0, rfl⟩
      cases h1 : Sem.parseInt l0 with
      | none =>
        rw [tup3]
        go_wp2_with fail
        go_returns
        exact ⟨PRet.no ⟨[], [], [], [], [], []⟩ (by rw [HGR0.out];  simp [Sem.parse, HC0.out, h1]), by (repeat (first | (with_reducible refine bl_put ?_ _ _) | (with_reducible refine bl_drewN ?_ _) | (with_reducible exact bl_new _ _) | exact Below.refl _ _))⟩
      | some x1 =>
        obtain ⟨a1, r1⟩ := x1
        have hs1 := Sem.len_of_split (Sem.parseInt_split h1)
        rw [tup3]
        have H1 := Lib.hid h1
        clear h1
        rcases r1 with _ | ⟨c1, l1⟩
        · go_wp2_with fail
          go_returns
          exact ⟨PRet.yes ⟨a1, [48], [48], [46, 48, 46, 48], [], []⟩ (by rw [HGR0.out];  simp [Sem.parse, HC0.out, H1.out]), by (repeat (first | (with_reducible refine bl_put ?_ _ _) | (with_reducible refine bl_drewN ?_ _) | (with_reducible exact bl_new _ _) | exact Below.refl _ _))⟩
        · simp only [List.length_cons] at hs1
          have hbR1 := get_bl (c1 :: l1)
          have heR1 : (c1 :: l1 : List UInt8).isEmpty = false := rfl
          have hfR1 : (!(c1 :: l1 : List UInt8).isEmpty) = true := rfl
          have hdR1 : (c1 :: l1 : List UInt8).drop 1 = l1 := rfl
          have hnR1 : (c1 :: l1 : List UInt8).length = l1.length + 1 := rfl
          have hpR1 : 0 < (c1 :: l1 : List UInt8).length := by simp
          by_cases hc1 : c1 = 46
          · obtain ⟨hx1, hy1⟩ := hd_eq (d := 46) l1 hc1
            change (Sem.bt (c1 :: l1) 0 != 46) = false at hx1
            have HC1 := Lib.hid hc1
            clear hc1 hy1
            generalize hGR1 : c1 :: l1 = R1 at *
            have HGR1 := Lib.hid hGR1.symm
            have HDR1 := Lib.hid hdR1
            have HNR1 := Lib.hid hnR1
            clear hGR1 hdR1 hnR1
            go_wp2_with fail
            rw [ext_str, HDR1.out, List.take_of_length_le (by have := HNR1.out; omega)]
            refine (parseInt_any l1 _ (by have := HNR1.out; omega)).mono ?_
            rintro e w' ⟨rfl, nR1, rfl⟩
            cases h2 : Sem.parseInt l1 with
            | none =>
              rw [tup3]
              go_wp2_with fail
              go_returns
              exact ⟨PRet.no ⟨a1, [], [], [], [], []⟩ (by rw [HGR0.out];  simp [Sem.parse, HC0.out, H1.out, HGR1.out, HC1.out, h2]), by (repeat (first | (with_reducible refine bl_put ?_ _ _) | (with_reducible refine bl_drewN ?_ _) | (with_reducible exact bl_new _ _) | exact Below.refl _ _))⟩
            | some x2 =>
              obtain ⟨a2, r2⟩ := x2
              have hs2 := Sem.len_of_split (Sem.parseInt_split h2)
              rw [tup3]
              have H2 := Lib.hid h2
              clear h2
              rcases r2 with _ | ⟨c2, l2⟩
              · go_wp2_with fail
                go_returns
                exact ⟨PRet.yes ⟨a1, a2, [48], [46, 48], [], []⟩ (by rw [HGR0.out];  simp [Sem.parse, HC0.out, H1.out, HGR1.out, HC1.out, H2.out]), by (repeat (first | (with_reducible refine bl_put ?_ _ _) | (with_reducible refine bl_drewN ?_ _) | (with_reducible exact bl_new _ _) | exact Below.refl _ _))⟩
              · simp only [List.length_cons] at hs2
                have hbR2 := get_bl (c2 :: l2)
                have heR2 : (c2 :: l2 : List UInt8).isEmpty = false := rfl
                have hfR2 : (!(c2 :: l2 : List UInt8).isEmpty) = true := rfl
                have hdR2 : (c2 :: l2 : List UInt8).drop 1 = l2 := rfl
                have hnR2 : (c2 :: l2 : List UInt8).length = l2.length + 1 := rfl
                have hpR2 : 0 < (c2 :: l2 : List UInt8).length := by simp
                by_cases hc2 : c2 = 46
                · obtain ⟨hx2, hy2⟩ := hd_eq (d := 46) l2 hc2
                  change (Sem.bt (c2 :: l2) 0 != 46) = false at hx2
                  have HC2 := Lib.hid hc2
                  clear hc2 hy2
                  generalize hGR2 : c2 :: l2 = R2 at *
                  have HGR2 := Lib.hid hGR2.symm
                  have HDR2 := Lib.hid hdR2
                  have HNR2 := Lib.hid hnR2
                  clear hGR2 hdR2 hnR2
                  go_wp2_with fail
                  rw [ext_str, HDR2.out, List.take_of_length_le (by have := HNR2.out; omega)]
                  refine (parseInt_any l2 _ (by have := HNR2.out; omega)).mono ?_
                  rintro e w' ⟨rfl, nR2, rfl⟩
                  cases h3 : Sem.parseInt l2 with
                  | none =>
                    rw [tup3]
                    go_wp2_with fail
                    go_returns
                    exact ⟨PRet.no ⟨a1, a2, [], [], [], []⟩ (by rw [HGR0.out];  simp [Sem.parse, HC0.out, H1.out, HGR1.out, HC1.out, H2.out, HGR2.out, HC2.out, h3]), by (repeat (first | (with_reducible refine bl_put ?_ _ _) | (with_reducible refine bl_drewN ?_ _) | (with_reducible exact bl_new _ _) | exact Below.refl _ _))⟩
                  | some x3 =>
                    obtain ⟨a3, r3⟩ := x3
                    have hs3 := Sem.len_of_split (Sem.parseInt_split h3)
                    rw [tup3]
                    have H3 := Lib.hid h3
                    clear h3
                    rcases r3 with _ | ⟨c3, l3⟩
                    · have h45 : ((0 : Int) < 0) = False := by simp
                      go_wp2_with fail
                      go_returns
                      exact ⟨PRet.yes ⟨a1, a2, a3, [], [], []⟩ (by rw [HGR0.out];  simp [Sem.parse, Sem.parseTail, Sem.endTail, HC0.out, H1.out, HGR1.out, HC1.out, H2.out, HGR2.out, HC2.out, H3.out]), by (repeat (first | (with_reducible refine bl_put ?_ _ _) | (with_reducible refine bl_drewN ?_ _) | (with_reducible exact bl_new _ _) | exact Below.refl _ _))⟩
                    · simp only [List.length_cons] at hs3
                      have hbR3 := get_bl (c3 :: l3)
                      have heR3 : (c3 :: l3 : List UInt8).isEmpty = false := rfl
                      have hfR3 : (!(c3 :: l3 : List UInt8).isEmpty) = true := rfl
                      have hdR3 : (c3 :: l3 : List UInt8).drop 1 = l3 := rfl
                      have hnR3 : (c3 :: l3 : List UInt8).length = l3.length + 1 := rfl
                      have hpR3 : 0 < (c3 :: l3 : List UInt8).length := by simp
                      by_cases hm3 : c3 = 45
                      · obtain ⟨hx3, hy3⟩ := hd_eq (d := 45) l3 hm3
                        change (Sem.bt (c3 :: l3) 0 == 45) = true at hy3
                        clear hx3
                        subst hm3
                        have hpp := parsePre_any l3
                        have hparts := Lib.hid (fun (t r : List UInt8) (h : Sem.parsePre (45 :: l3) = some (t, r)) => Sem.len_of_split (Sem.parsePre_split h))
                        have HPP := Lib.hid hpp
                        clear hpp
                        generalize hGR3 : 45 :: l3 = R3 at *
                        have HGR3 := Lib.hid hGR3.symm
                        have HDR3 := Lib.hid hdR3
                        have HNR3 := Lib.hid hnR3
                        clear hGR3 hdR3 hnR3
                        go_wp2_with fail
                        refine (HPP.out _ (by have := HNR3.out; omega)).mono ?_
                        rintro e w' ⟨rfl, n3, rfl⟩
                        cases h4 : Sem.parsePre R3 with
                        | none =>
                          rw [tup3]
                          rw [HGR3.out] at h4
                          go_wp2_with fail
                          go_returns
                          exact ⟨PRet.no ⟨a1, a2, a3, [], [], []⟩ (by rw [HGR0.out];  simp [Sem.parse, Sem.parseTail, HC0.out, H1.out, HGR1.out, HC1.out, H2.out, HGR2.out, HC2.out, H3.out, HGR3.out, h4]), by (repeat (first | (with_reducible refine bl_put ?_ _ _) | (with_reducible refine bl_drewN ?_ _) | (with_reducible exact bl_new _ _) | exact Below.refl _ _))⟩
                        | some x4 =>
                          obtain ⟨a4, r4⟩ := x4
                          have hs4 := hparts.out _ _ h4
                          rw [tup3]
                          rw [HGR3.out] at h4
                          have H4 := Lib.hid h4
                          clear h4
                          rcases r4 with _ | ⟨c4, l4⟩
                          · have h45 : ((0 : Int) < 0) = False := by simp
                            go_wp2_with fail
                            go_returns
                            exact ⟨PRet.yes ⟨a1, a2, a3, [], a4, []⟩ (by rw [HGR0.out];  simp [Sem.parse, Sem.parseTail, Sem.endTail, HC0.out, H1.out, HGR1.out, HC1.out, H2.out, HGR2.out, HC2.out, H3.out, HGR3.out, H4.out]), by (repeat (first | (with_reducible refine bl_put ?_ _ _) | (with_reducible refine bl_drewN ?_ _) | (with_reducible exact bl_new _ _) | exact Below.refl _ _))⟩
                          · simp only [List.length_cons] at hs4
                            have hbR4 := get_bl (c4 :: l4)
                            have heR4 : (c4 :: l4 : List UInt8).isEmpty = false := rfl
                            have hfR4 : (!(c4 :: l4 : List UInt8).isEmpty) = true := rfl
                            have hdR4 : (c4 :: l4 : List UInt8).drop 1 = l4 := rfl
                            have hnR4 : (c4 :: l4 : List UInt8).length = l4.length + 1 := rfl
                            have hpR4 : 0 < (c4 :: l4 : List UInt8).length := by simp
                            by_cases hq4 : c4 = 43
                            · obtain ⟨hu4, hv4⟩ := hd_eq (d := 43) l4 hq4
                              change (Sem.bt (c4 :: l4) 0 == 43) = true at hv4
                              clear hu4
                              subst hq4
                              have HPB := Lib.hid (parseBuild_any l4)
                              have hsp := Lib.hid (fun (t r : List UInt8) (h : Sem.parseBuild (43 :: l4) = some (t, r)) => Sem.parseBuild_split h)
                              generalize hGR4 : 43 :: l4 = R4 at *
                              have HGR4 := Lib.hid hGR4.symm
                              have HDR4 := Lib.hid hdR4
                              have HNR4 := Lib.hid hnR4
                              clear hGR4 hdR4 hnR4
                              go_wp2_with fail
                              refine (HPB.out _ (by have := HNR4.out; have := HNR3.out; omega)).mono ?_
                              rintro e w' ⟨rfl, m4, rfl⟩
                              cases h5 : Sem.parseBuild R4 with
                              | none =>
                                rw [tup3]
                                rw [HGR4.out] at h5
                                go_wp2_with fail
                                go_returns
                                exact ⟨PRet.no ⟨a1, a2, a3, [], a4, []⟩ (by rw [HGR0.out];  simp [Sem.parse, Sem.parseTail, Sem.endTail, HC0.out, H1.out, HGR1.out, HC1.out, H2.out, HGR2.out, HC2.out, H3.out, HGR3.out, H4.out, HGR4.out, h5]), by (repeat (first | (with_reducible refine bl_put ?_ _ _) | (with_reducible refine bl_drewN ?_ _) | (with_reducible exact bl_new _ _) | exact Below.refl _ _))⟩
                              | some x5 =>
                                obtain ⟨a5, r5⟩ := x5
                                obtain ⟨hq5, rfl⟩ := hsp.out _ _ h5
                                rw [tup3]
                                rw [HGR4.out] at h5
                                have HQ5 := Lib.hid hq5
                                have H5 := Lib.hid h5
                                clear h5 hq5
                                go_wp2_with fail
                                go_returns
                                exact ⟨PRet.yes ⟨a1, a2, a3, [], a4, a5⟩ (by rw [HGR0.out];  simp [Sem.parse, Sem.parseTail, Sem.endTail, HC0.out, H1.out, HGR1.out, HC1.out, H2.out, HGR2.out, HC2.out, H3.out, HGR3.out, H4.out, HGR4.out, H5.out]), by (repeat (first | (with_reducible refine bl_put ?_ _ _) | (with_reducible refine bl_drewN ?_ _) | (with_reducible exact bl_new _ _) | exact Below.refl _ _))⟩
                            · obtain ⟨hu4, hv4⟩ := hd_ne (d := 43) l4 hq4
                              change (Sem.bt (c4 :: l4) 0 == 43) = false at hv4
                              have HQ4 := Lib.hid hq4
                              clear hu4 hq4
                              generalize hGR4 : c4 :: l4 = R4 at *
                              have HGR4 := Lib.hid hGR4.symm
                              have HDR4 := Lib.hid hdR4
                              have HNR4 := Lib.hid hnR4
                              clear hGR4 hdR4 hnR4
                              go_wp2_with fail
                              go_returns
                              exact ⟨PRet.no ⟨a1, a2, a3, [], a4, []⟩ (by rw [HGR0.out];  simp [Sem.parse, Sem.parseTail, Sem.endTail, HC0.out, H1.out, HGR1.out, HC1.out, H2.out, HGR2.out, HC2.out, H3.out, HGR3.out, H4.out, HGR4.out, HQ4.out]), by (repeat (first | (with_reducible refine bl_put ?_ _ _) | (with_reducible refine bl_drewN ?_ _) | (with_reducible exact bl_new _ _) | exact Below.refl _ _))⟩
                      · obtain ⟨hx3, hy3⟩ := hd_ne (d := 45) l3 hm3
                        change (Sem.bt (c3 :: l3) 0 == 45) = false at hy3
                        have HM3 := Lib.hid hm3
                        clear hx3 hm3
                        by_cases hq3 : c3 = 43
                        · obtain ⟨hu3, hv3⟩ := hd_eq (d := 43) l3 hq3
                          change (Sem.bt (c3 :: l3) 0 == 43) = true at hv3
                          clear hu3
                          subst hq3
                          have HPB := Lib.hid (parseBuild_any l3)
                          have hsp := Lib.hid (fun (t r : List UInt8) (h : Sem.parseBuild (43 :: l3) = some (t, r)) => Sem.parseBuild_split h)
                          generalize hGR3 : 43 :: l3 = R3 at *
                          have HGR3 := Lib.hid hGR3.symm
                          have HDR3 := Lib.hid hdR3
                          have HNR3 := Lib.hid hnR3
                          clear hGR3 hdR3 hnR3
                          go_wp2_with fail
                          refine (HPB.out _ (by have := HNR3.out; omega)).mono ?_
                          rintro e w' ⟨rfl, m3, rfl⟩
                          cases h5 : Sem.parseBuild R3 with
                          | none =>
                            rw [tup3]
                            rw [HGR3.out] at h5
                            go_wp2_with fail
                            go_returns
                            exact ⟨PRet.no ⟨a1, a2, a3, [], [], []⟩ (by rw [HGR0.out];  simp [Sem.parse, Sem.parseTail, Sem.endTail, HC0.out, H1.out, HGR1.out, HC1.out, H2.out, HGR2.out, HC2.out, H3.out, HGR3.out, h5]), by (repeat (first | (with_reducible refine bl_put ?_ _ _) | (with_reducible refine bl_drewN ?_ _) | (with_reducible exact bl_new _ _) | exact Below.refl _ _))⟩
                          | some x5 =>
                            obtain ⟨a5, r5⟩ := x5
                            obtain ⟨hq5, rfl⟩ := hsp.out _ _ h5
                            rw [tup3]
                            rw [HGR3.out] at h5
                            have HQ5 := Lib.hid hq5
                            have H5 := Lib.hid h5
                            clear h5 hq5
                            go_wp2_with fail
                            go_returns
                            exact ⟨PRet.yes ⟨a1, a2, a3, [], [], a5⟩ (by rw [HGR0.out];  simp [Sem.parse, Sem.parseTail, Sem.endTail, HC0.out, H1.out, HGR1.out, HC1.out, H2.out, HGR2.out, HC2.out, H3.out, HGR3.out, H5.out]), by (repeat (first | (with_reducible refine bl_put ?_ _ _) | (with_reducible refine bl_drewN ?_ _) | (with_reducible exact bl_new _ _) | exact Below.refl _ _))⟩
                        · obtain ⟨hu3, hv3⟩ := hd_ne (d := 43) l3 hq3
                          change (Sem.bt (c3 :: l3) 0 == 43) = false at hv3
                          have HQ3 := Lib.hid hq3
                          clear hu3 hq3
                          generalize hGR3 : c3 :: l3 = R3 at *
                          have HGR3 := Lib.hid hGR3.symm
                          have HDR3 := Lib.hid hdR3
                          have HNR3 := Lib.hid hnR3
                          clear hGR3 hdR3 hnR3
                          go_wp2_with fail
                          go_returns
                          exact ⟨PRet.no ⟨a1, a2, a3, [], [], []⟩ (by rw [HGR0.out];  simp [Sem.parse, Sem.parseTail, Sem.endTail, HC0.out, H1.out, HGR1.out, HC1.out, H2.out, HGR2.out, HC2.out, H3.out, HGR3.out, HQ3.out, HM3.out]), by (repeat (first | (with_reducible refine bl_put ?_ _ _) | (with_reducible refine bl_drewN ?_ _) | (with_reducible exact bl_new _ _) | exact Below.refl _ _))⟩
                · obtain ⟨hx2, hy2⟩ := hd_ne (d := 46) l2 hc2
                  change (Sem.bt (c2 :: l2) 0 != 46) = true at hx2
                  have HC2 := Lib.hid hc2
                  clear hc2 hy2
                  generalize hGR2 : c2 :: l2 = R2 at *
                  have HGR2 := Lib.hid hGR2.symm
                  have HDR2 := Lib.hid hdR2
                  have HNR2 := Lib.hid hnR2
                  clear hGR2 hdR2 hnR2
                  go_wp2_with fail
                  go_returns
                  exact ⟨PRet.no ⟨a1, a2, [], [], [], []⟩ (by rw [HGR0.out];  simp [Sem.parse, HC0.out, H1.out, HGR1.out, HC1.out, H2.out, HGR2.out, HC2.out]), by (repeat (first | (with_reducible refine bl_put ?_ _ _) | (with_reducible refine bl_drewN ?_ _) | (with_reducible exact bl_new _ _) | exact Below.refl _ _))⟩
          · obtain ⟨hx1, hy1⟩ := hd_ne (d := 46) l1 hc1
            change (Sem.bt (c1 :: l1) 0 != 46) = true at hx1
            have HC1 := Lib.hid hc1
            clear hc1 hy1
            generalize hGR1 : c1 :: l1 = R1 at *
            have HGR1 := Lib.hid hGR1.symm
            have HDR1 := Lib.hid hdR1
            have HNR1 := Lib.hid hnR1
            clear hGR1 hdR1 hnR1
            go_wp2_with fail
            go_returns
            exact ⟨PRet.no ⟨a1, [], [], [], [], []⟩ (by rw [HGR0.out];  simp [Sem.parse, HC0.out, H1.out, HGR1.out, HC1.out]), by (repeat (first | (with_reducible refine bl_put ?_ _ _) | (with_reducible refine bl_drewN ?_ _) | (with_reducible exact bl_new _ _) | exact Below.refl _ _))⟩
    · obtain ⟨hx0, hy0⟩ := hd_ne (d := 118) l0 hc0
      change (Sem.bt (c0 :: l0) 0 != 118) = true at hx0
      have HC0 := Lib.hid hc0
      clear hc0 hy0
      generalize hGR0 : c0 :: l0 = R0 at *
      have HGR0 := Lib.hid hGR0.symm
      have HDR0 := Lib.hid hdR0
      have HNR0 := Lib.hid hnR0
      clear hGR0 hdR0 hnR0
      go_enter Try.func37, Try.ntmps37
      go_wp2_with fail
      go_returns
      exact ⟨PRet.no ⟨[], [], [], [], [], []⟩ (by rw [HGR0.out];  simp [Sem.parse, HC0.out]), by (repeat (first | (with_reducible refine bl_put ?_ _ _) | (with_reducible refine bl_drewN ?_ _) | (with_reducible exact bl_new _ _) | exact Below.refl _ _))⟩

end Go.Proofs.Ytienkoadkhcghaa
