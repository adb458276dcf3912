/- The contracts of the reference's CompareVersions, MaxVersion, VersionsInOrder, and the walks of FnExactCompareVersions and FnExactMaxVersion. Condition: the texts are no longer than 2 to the power of 20. -/
import Derived.Test.YtienkoadkhcghaaSpec11
namespace Go.Proofs.Ytienkoadkhcghaa
open Go.RowKit
attribute [local go_sem] app_str

/-- three numbers, then the prerelease -/
theorem cmp_lex (a b : Sem.Ver) : Sem.cmpVer a b = if Sem.listLex Sem.cmpInt [a.major, a.minor, a.patch] [b.major, b.minor, b.patch] ≠ 0 then Sem.listLex Sem.cmpInt [a.major, a.minor, a.patch] [b.major, b.minor, b.patch] else Sem.preIds (Sem.partsOf a.pre) (Sem.partsOf b.pre) := by
  rw [← Sem.cmpPre_parts]
  simp only [Sem.cmpVer, Sem.listLex, ne_eq]
  by_cases h1 : Sem.cmpInt a.major b.major = 0
  · by_cases h2 : Sem.cmpInt a.minor b.minor = 0
    · by_cases h3 : Sem.cmpInt a.patch b.patch = 0
      · simp [h1, h2, h3]
      · simp [h1, h2, h3]
    · simp [h1, h2]
  · simp [h1]
theorem int_self (x : Sem.Bs) : Sem.cmpInt x x = 0 := (Sem.int_zero x x).2 rfl
theorem cmp_at {a b : Sem.Ver} {k : Nat} (h : [a.major, a.minor, a.patch].take k = [b.major, b.minor, b.patch].take k) (hk : k < 3) (hne : Sem.cmpInt ([a.major, a.minor, a.patch][k]'hk) ([b.major, b.minor, b.patch][k]'hk) ≠ 0) :
    Sem.cmpVer a b = Sem.cmpInt ([a.major, a.minor, a.patch][k]'hk) ([b.major, b.minor, b.patch][k]'hk) := by
  rw [cmp_lex, Sem.lex_at int_self h (by exact hk) (by exact hk) hne, if_pos hne]
theorem cmp_end {a b : Sem.Ver} (h : [a.major, a.minor, a.patch].take 3 = [b.major, b.minor, b.patch].take 3) : Sem.cmpVer a b = Sem.preIds (Sem.partsOf a.pre) (Sem.partsOf b.pre) := by
  rw [cmp_lex, if_neg (by
    have h' : [a.major, a.minor, a.patch] = [b.major, b.minor, b.patch] := h
    rw [h', (Sem.Lin.list Sem.lin_int).self]; simp)]
theorem parts_ok {l : List UInt8} {v : Sem.Ver} (h : Sem.parse l = some v) : ∀ x ∈ Sem.partsOf v.pre, x ≠ [] ∧ x.length ≤ l.length := by
  intro x hx
  have h1 : x.length + 1 ≤ ((Sem.partsOf v.pre).map fun x : List UInt8 => x.length + 1).sum := by
    obtain ⟨k, hk, rfl⟩ := List.getElem_of_mem hx
    exact strs_at_le hk
  have h2 := parts_sum v.pre
  have h3 := part_len h
  have h4 : x.length + 1 ≤ v.pre.length + 1 := Nat.le_trans h1 h2
  refine ⟨?_, by omega⟩
  have hg := Sem.good_verGood (Sem.parse_iff.1 h).1
  unfold Sem.verGood at hg
  simp only [Bool.and_eq_true] at hg
  have := List.all_eq_true.1 hg.2.2.1 x hx
  rintro rfl
  revert this
  decide
theorem parts_count {l : List UInt8} {v : Sem.Ver} (h : Sem.parse l = some v) : (Sem.partsOf v.pre).length ≤ l.length + 1 := by
  have h2 := parts_sum v.pre
  have h3 := part_len h
  have : ∀ xs : List (List UInt8), xs.length ≤ (xs.map fun x : List UInt8 => x.length + 1).sum := fun xs => by
    induction xs with
    | nil => simp
    | cons x r ih => simp only [List.length_cons, List.map_cons, List.sum_cons]; omega
  have h4 : (Sem.partsOf v.pre).length ≤ v.pre.length + 1 := Nat.le_trans (this (Sem.partsOf v.pre)) h2
  omega

set_option maxHeartbeats 2000000 in
theorem spec_CompareVersions (l r : List UInt8) (w : World) (hl : l.length ≤ 1048576) (hr : r.length ≤ 1048576) :
    Calls Try.prog 38 #[str l, str r] w fun e w' => e = .returned (.int .i64 (Sem.compare l r)) ∧ Below w.heap.size w w' := by
  have HCO := Lib.hid (Sem.compare_opt l r)
  go_enter Try.func38, Try.ntmps38
  go_wp2_with fail
  refine (parseVersion_any l w hl).mono ?_
  rintro e w1 ⟨hr1, hb1⟩
  have hsz1 := hb1.size
  rcases hr1.read with ⟨A1, A2, A3, n1, n2, n3, c1, c2, c3, v, hv, rfl, h1, h2, h3⟩ | ⟨hv, rfl⟩
  · have HV := Lib.hid hv
    have hv' := hv
    have H1 := Lib.hid h1
    have H2 := Lib.hid h2
    have HB1 := Lib.hid hb1
    clear hr1 hv h1 h2 h3 hb1
    go_wp2_with fail
    refine (parseVersion_any r _ hr).mono ?_
    rintro e w2 ⟨hr2, hb2⟩
    have hsz2 := hb2.size
    have hc0 : w2.cell? ⟨w1.heap.size, 0, none⟩ = some (.slice A1 n1 c1) := by
      rw [hb2.cell (p := ⟨w1.heap.size, 0, none⟩) (by simp)]; exact cell_of_row (w1.alloc _) _ _ _ 51 (0, 0) (heap_alloc_new w1 _)
    have hc1 : w2.cell? ⟨w1.heap.size, 1, none⟩ = some (.slice A2 n2 c2) := by
      rw [hb2.cell (p := ⟨w1.heap.size, 1, none⟩) (by simp)]; exact cell_of_row (w1.alloc _) _ _ _ 51 (0, 0) (heap_alloc_new w1 _)
    have hc2 : w2.cell? ⟨w1.heap.size, 2, none⟩ = some (.slice A3 n3 c3) := by
      rw [hb2.cell (p := ⟨w1.heap.size, 2, none⟩) (by simp)]; exact cell_of_row (w1.alloc _) _ _ _ 51 (0, 0) (heap_alloc_new w1 _)
    have HB2 : Hid (Below w.heap.size w w2) := Lib.hid (bl_next' (bl_alloc HB1.out hsz1 _) hb2)
    have hp1 : w1.heap.size < w2.heap.size := by simp at hsz2; omega
    have hp0 : w.heap.size ≤ w2.heap.size := by omega
    have K1 : Hid (StrsAt w2 (.slice A1 n1 c1) (Sem.numsOf v)) := Lib.hid ((H1.out.alloc _).below hb2)
    have K2 : Hid (StrsAt w2 (.slice A2 n2 c2) (Sem.partsOf v.pre)) := Lib.hid ((H2.out.alloc _).below hb2)
    clear H1 H2 hb2 hsz2
    rcases hr2.read with ⟨B1, B2, B3, m1, m2, m3, d1, d2, d3, u, hu, rfl, g1, g2, g3⟩ | ⟨hu, rfl⟩
    · have HU := Lib.hid hu
      have G1 := Lib.hid g1
      have G2 := Lib.hid g2
      have HN := Lib.hid (nums_pos v)
      have HM := Lib.hid (nums_pos u)
      have HT := Lib.hid (three_nums hv')
      have HTU := Lib.hid (three_nums hu)
      clear hr2 hu g1 g2 g3
      -- what every world behind has
      have hK : ∀ w', Below ((w2.alloc (Obj.cells #[.slice B1 m1 d1, .slice B2 m2 d2, .slice B3 m3 d3] 51)).drew).heap.size (w2.alloc (Obj.cells #[.slice B1 m1 d1, .slice B2 m2 d2, .slice B3 m3 d3] 51)).drew w' →
          w'.cell? ⟨w1.heap.size, 0, none⟩ = some (.slice A1 n1 c1) ∧ w'.cell? ⟨w1.heap.size, 1, none⟩ = some (.slice A2 n2 c2) ∧ w'.cell? ⟨w1.heap.size, 2, none⟩ = some (.slice A3 n3 c3) ∧
          w'.cell? ⟨w2.heap.size, 0, none⟩ = some (.slice B1 m1 d1) ∧ w'.cell? ⟨w2.heap.size, 1, none⟩ = some (.slice B2 m2 d2) ∧ w'.cell? ⟨w2.heap.size, 2, none⟩ = some (.slice B3 m3 d3) ∧
          Hid (Below w.heap.size w w') ∧ Hid (StrsAt w' (.slice B1 m1 d1) (Sem.numsOf u)) ∧ Hid (StrsAt w' (.slice A2 n2 c2) (Sem.partsOf v.pre)) ∧ Hid (StrsAt w' (.slice B2 m2 d2) (Sem.partsOf u.pre)) := by
        intro w' hb
        have old : ∀ o, w'.cell? ⟨w1.heap.size, o, none⟩ = w2.cell? ⟨w1.heap.size, o, none⟩ := fun o => by
          rw [hb.cell (p := ⟨w1.heap.size, o, none⟩) (by simp; omega)]
          exact World.cell?_alloc_lt _ _ _ hp1
        have new : ∀ o x, #[Value.slice B1 m1 d1, .slice B2 m2 d2, .slice B3 m3 d3][o]? = some x → w'.cell? ⟨w2.heap.size, o, none⟩ = some x := fun o x hx => by
          rw [hb.cell (p := ⟨w2.heap.size, o, none⟩) (by simp), ← hx]
          exact cell_of_row (w2.alloc _) _ _ _ 51 (0, 0) (heap_alloc_new w2 _)
        exact ⟨(old 0).trans hc0, (old 1).trans hc1, (old 2).trans hc2, new 0 _ rfl, new 1 _ rfl, new 2 _ rfl, Lib.hid ((bl_drew (bl_alloc HB2.out hp0 _)).trans (hb.mono (by simp; omega))), Lib.hid ((G1.out.alloc _).drew.below hb), Lib.hid ((K2.out.alloc _).drew.below hb), Lib.hid ((G2.out.alloc _).drew.below hb)⟩
      have HK := Lib.hid hK
      clear hK
      have HT1 : Hid (Calls Try.prog 48 #[.agg #[.slice A1 n1 c1, .slice A2 n2 c2, .slice A3 n3 c3]] (w2.alloc (Obj.cells #[.slice B1 m1 d1, .slice B2 m2 d2, .slice B3 m3 d3] 51)).drew fun e w3 =>
          ∃ Ax cx, e = .returned (.slice Ax 3 cx) ∧ Hid (StrsAt w3 (.slice Ax 3 cx) [v.major, v.minor, v.patch]) ∧ Hid (Below ((w2.alloc (Obj.cells #[.slice B1 m1 d1, .slice B2 m2 d2, .slice B3 m3 d3] 51)).drew).heap.size (w2.alloc (Obj.cells #[.slice B1 m1 d1, .slice B2 m2 d2, .slice B3 m3 d3] 51)).drew w3)) := Lib.hid (by
        refine (veThree_any _ _ _ (Sem.numsOf v) _ (K1.out.alloc _).drew HN.out).mono ?_
        rintro e w3 ⟨⟨x, rfl, hx, -⟩, hb⟩
        rw [HT.out] at hx
        have hx' := hx
        obtain ⟨Ax, cx, rfl, -⟩ := hx'
        exact ⟨Ax, cx, rfl, Lib.hid hx, Lib.hid hb⟩)
      have HT2 : Hid (∀ (x : Value) (w3 : World), Hid (StrsAt w3 x [v.major, v.minor, v.patch]) → Hid (Below ((w2.alloc (Obj.cells #[.slice B1 m1 d1, .slice B2 m2 d2, .slice B3 m3 d3] 51)).drew).heap.size (w2.alloc (Obj.cells #[.slice B1 m1 d1, .slice B2 m2 d2, .slice B3 m3 d3] 51)).drew w3) →
          Calls Try.prog 48 #[.agg #[.slice B1 m1 d1, .slice B2 m2 d2, .slice B3 m3 d3]] w3 fun e w4 =>
          ∃ Ay cy, e = .returned (.slice Ay 3 cy) ∧ Hid (StrsAt w4 (.slice Ay 3 cy) [u.major, u.minor, u.patch]) ∧ Hid (StrsAt w4 x [v.major, v.minor, v.patch]) ∧ Hid (Below ((w2.alloc (Obj.cells #[.slice B1 m1 d1, .slice B2 m2 d2, .slice B3 m3 d3] 51)).drew).heap.size (w2.alloc (Obj.cells #[.slice B1 m1 d1, .slice B2 m2 d2, .slice B3 m3 d3] 51)).drew w4)) := Lib.hid (fun x w3 hx hb => by
        refine (veThree_any _ _ _ (Sem.numsOf u) _ (HK.out _ hb.out).2.2.2.2.2.2.2.1.out HM.out).mono ?_
        rintro e w4 ⟨⟨y, rfl, hy, -⟩, hb4⟩
        rw [HTU.out] at hy
        have hy' := hy
        obtain ⟨Ay, cy, rfl, -⟩ := hy'
        exact ⟨Ay, cy, rfl, Lib.hid hy, Lib.hid (hx.out.below hb4), Lib.hid (bl_next' hb.out hb4)⟩)
      clear K1 K2 G1 G2 HB2 HB1 HN HM HT HTU
      have HCV : Hid (Sem.compare l r = Sem.cmpVer v u) := Lib.hid (by rw [HCO.out, HV.out, HU.out]; rfl)
      have HLV := Lib.hid (part_len HV.out)
      have HLU := Lib.hid (part_len HU.out)
      have HPV := Lib.hid (parts_ok HV.out)
      have HPU := Lib.hid (parts_ok HU.out)
      have HQV := Lib.hid (parts_count HV.out)
      have HQU := Lib.hid (parts_count HU.out)
      clear HV HU HCO
      go_wp2_with fail
      go_region_with (first
        | (go_at_call_of 48 (Value.slice A1 n1 c1)
           refine HT1.out.mono ?_
           rintro e w3 ⟨Ax, cx, rfl, HX3, hb3⟩
           obtain ⟨a0, a1, a2, a3, a4, a5, -⟩ := HK.out _ hb3.out)
        | (go_at_call_of 48 (Value.slice B1 m1 d1)
           refine (HT2.out _ _ HX3 hb3).mono ?_
           rintro e w4 ⟨Ay, cy, rfl, HY, HX, hb4⟩
           obtain ⟨e0, e1, e2, e3, e4, e5, HBE, -, HPA, HPB⟩ := HK.out _ hb4.out))
      all_goals
        have hx' := HX.out
        have hy' := HY.out
        obtain ⟨_, _, eX, hcx, hmx, hx'⟩ := hx'
        obtain ⟨_, _, eY, hcy, hmy, hy'⟩ := hy'
        simp only [Value.slice.injEq, List.length_cons, List.length_nil] at eX eY
        obtain ⟨rfl, -, rfl⟩ := eX
        obtain ⟨rfl, -, rfl⟩ := eY
        have HXC := Lib.hid (hx'.resolve_left (by simp))
        have HYC := Lib.hid (hy'.resolve_left (by simp))
        clear hx' hy' HX HY HX3 hb3 hb4 a0 a1 a2 a3 a4 a5 e0 e2 e3 e5 hc0 hc1 hc2
        obtain ⟨b, off, rfl, hltx, hcellx⟩ := HXC.out
        obtain ⟨b', off', rfl, hlty, hcelly⟩ := HYC.out
        have HCX := Lib.hid hcellx
        have HCY := Lib.hid hcelly
        clear hcellx hcelly HXC HYC
        have lx : ∀ k (h : k < 3), (([v.major, v.minor, v.patch] : List (List UInt8))[k]'h).length ≤ 1152921504606846976 := by
          have := HLV.out
          intro k h
          match k, h with
          | 0, _ => simp; omega
          | 1, _ => simp; omega
          | 2, _ => simp; omega
        have ly : ∀ k (h : k < 3), (([u.major, u.minor, u.patch] : List (List UInt8))[k]'h).length ≤ 1152921504606846976 := by
          have := HLU.out
          intro k h
          match k, h with
          | 0, _ => simp; omega
          | 1, _ => simp; omega
          | 2, _ => simp; omega
        have HLX := Lib.hid lx
        have HLY := Lib.hid ly
        clear lx ly
        have hcx3 : 3 ≤ cx := hcx
        have hcy3 : 3 ≤ cy := hcy
        go_wp2_with fail
        go_loopw [42] (fun i wr => ∃ k n : Nat, i = .int .i64 k ∧ k ≤ 3 ∧ wr = w4.drewN n ∧ Hid ([v.major, v.minor, v.patch].take k = [u.major, u.minor, u.patch].take k)) (fun i _ => 3 - (intOf i).toNat)
        case atStart => exact ⟨0, 0, rfl, by omega, rfl, Lib.hid rfl⟩
        case round =>
          obtain ⟨k, n, rfl, hk, rfl, heq⟩ := hrel
          by_cases hlt : k < 3
          · have hx := HCX.out k _ (List.getElem?_eq_getElem (l := [v.major, v.minor, v.patch]) hlt)
            have hy := HCY.out k _ (List.getElem?_eq_getElem (l := [u.major, u.minor, u.patch]) hlt)
            have hxl := HLX.out k hlt
            have hyl := HLY.out k hlt
            have hat := cmp_at heq.out hlt
            have hst := Sem.take_step heq.out (show k < [v.major, v.minor, v.patch].length from hlt) (show k < [u.major, u.minor, u.patch].length from hlt)
            generalize [v.major, v.minor, v.patch][k]'hlt = x at *
            generalize [u.major, u.minor, u.patch][k]'hlt = y at *
            have HAT := Lib.hid hat
            have HST := Lib.hid hst
            clear hat hst
            have HI := Lib.hid (fun w => veSize_any x y w hxl hyl)
            clear hxl hyl
            by_cases hz : Sem.cmpInt x y = 0
            · have hz2 : (Sem.cmpInt x y != 0) = false := by simp [hz]
              have HE := Lib.hid ((Sem.int_zero x y).1 hz)
              clear hz
              go_wp2_with fail
              go_quiet (exact quiet2 (HI.out _))
              go_wp2_with fail
              go_roundw
              case rel => exact ⟨k + 1, _, by go_num, by omega, rfl, Lib.hid (HST.out HE.out)⟩
              case measure => simp [intOf]; omega
            · have hz2 : (Sem.cmpInt x y != 0) = true := by simp [hz]
              have HE := Lib.hid (HAT.out hz)
              clear hz
              go_wp2_with fail
              go_quiet (exact quiet2 (HI.out _))
              go_wp2_with fail
              go_ret
              exact ⟨ret_i64 (by rw [HCV.out, HE.out]), by repeat (first | exact HBE.out | refine bl_drewN ?_ _)⟩
          · obtain rfl : k = 3 := by omega
            have HS := Lib.hid (cmp_end heq.out)
            go_wp2_with fail
            refine (specPre_any _ _ _ _ _ (HPA.out.drewN _) (HPB.out.drewN _) (fun x hx => ⟨(HPV.out x hx).1, by have := (HPV.out x hx).2; omega⟩) (fun x hx => ⟨(HPU.out x hx).1, by have := (HPU.out x hx).2; omega⟩) (by have := HQV.out; omega) (by have := HQU.out; omega)).mono ?_
            rintro e w' ⟨rfl, n', rfl⟩
            go_wp2_with fail
            go_ret
            exact ⟨ret_i64 (by rw [HCV.out, HS.out]), by repeat (first | exact HBE.out | refine bl_drewN ?_ _)⟩
    · have HF : Hid (Sem.compare l r = 1) := Lib.hid (by rw [HCO.out, HV.out, hu]; rfl)
      clear hr2 hu
      go_wp2
      go_ret
      exact ⟨ret_i64 HF.out.symm, by (repeat (first | exact HB2.out | (refine bl_set ?_ hp0 _) | (refine bl_alloc ?_ hp0 _)))⟩
  · have HB1 := Lib.hid hb1
    have HV := Lib.hid hv
    clear hr1 hv hb1
    go_wp2_with fail
    refine (parseVersion_any r _ hr).mono ?_
    rintro e w2 ⟨hr2, hb2⟩
    have HB2 : Hid (Below w.heap.size w w2) := Lib.hid (bl_next' (bl_alloc HB1.out hsz1 _) hb2)
    have hsz2 := hb2.size
    have hp0 : w.heap.size ≤ w2.heap.size := by simp at hsz2; omega
    clear hb2 hsz2
    rcases hr2.read with ⟨B1, B2, B3, m1, m2, m3, d1, d2, d3, u, hu, rfl, g1, g2, g3⟩ | ⟨hu, rfl⟩
    · have HF : Hid (Sem.compare l r = -1) := Lib.hid (by rw [HCO.out, HV.out, hu]; rfl)
      clear hr2 hu g1 g2 g3
      go_wp2
      go_ret
      exact ⟨ret_i64 HF.out.symm, by (repeat (first | exact HB2.out | (refine bl_set ?_ hp0 _) | (refine bl_alloc ?_ hp0 _)))⟩
    · have HF : Hid (Sem.compare l r = 0) := Lib.hid (by rw [HCO.out, HV.out, hu]; rfl)
      clear hr2 hu
      go_wp2
      go_ret
      exact ⟨ret_i64 HF.out.symm, by (repeat (first | exact HB2.out | (refine bl_set ?_ hp0 _) | (refine bl_alloc ?_ hp0 _)))⟩




end Go.Proofs.Ytienkoadkhcghaa
