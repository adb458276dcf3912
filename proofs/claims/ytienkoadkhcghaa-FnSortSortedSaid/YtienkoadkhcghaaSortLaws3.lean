/- The contract of the laws' sameBag, and the walk of FnSortSorted: it returns true. Condition: each text takes at most 2 to the power of 47 bytes, and so do the list's headers. -/
import Derived.Test.YtienkoadkhcghaaSortLaws
import Derived.Test.YtienkoadkhcghaaBw
namespace Go.Proofs.Ytienkoadkhcghaa
open Go.RowKit
attribute [local go_sem] app_str bw_cell

theorem count_step (s : List UInt8) {xs : List (List UInt8)} {k : Nat} (h : k < xs.length) : (xs.take (k + 1)).count s = (xs.take k).count s + (if xs[k] = s then 1 else 0) := by
  rw [List.take_succ_eq_append_getElem h, List.count_append]
  by_cases e : xs[k] = s
  · simp [e]
  · simp [e]
set_option maxHeartbeats 4000000 in
theorem sameBag_yes (v1 v2 : Value) (xs ys : List (List UInt8)) (w : World) (h1 : StrsAt w v1 xs) (h2 : StrsAt w v2 ys) (hp : ys.Perm xs) (hn : xs.length ≤ 1152921504606846976) :
    Calls Try.prog 25 #[v1, v2] w fun e w' => e = .returned (.bool true) ∧ w = w' := by
  have hlen : ys.length = xs.length := hp.length_eq
  have HCE := Lib.hid (fun s => hp.count_eq s)
  obtain ⟨A, c, rfl, hc, hm, h1⟩ := h1
  obtain ⟨A', c', rfl, hc', hm', h2⟩ := h2
  rw [hlen] at hc' ⊢
  have HLY := Lib.hid hlen
  have HA := Lib.hid h1
  have HA' := Lib.hid h2
  have hq : ((xs.length : Int) != (xs.length : Int)) = false := by simp
  clear h1 h2 hp hlen
  go_enter Try.func25, Try.ntmps25
  go_wp2
  go_loop [19] (fun i => ∃ k : Nat, i = .int .i64 k ∧ k ≤ xs.length) (fun i => xs.length - (intOf i).toNat)
  case atStart => exact ⟨0, rfl, by omega⟩
  case round =>
    obtain ⟨k, rfl, hk⟩ := hrel
    by_cases hlt : k < xs.length
    · obtain ⟨b, off, rfl, hbl, hx⟩ := strs_at' HA.out hlt
      generalize xs[k] = s at *
      go_wp2
      go_loop [7, 25] (fun q i => ∃ (j m : Nat), i = .int .i64 j ∧ j ≤ xs.length ∧ q = .int .i64 m ∧ m ≤ j ∧ Hid (m = (xs.take j).count s)) (fun _ i => xs.length - (intOf i).toNat)
      case atStart => exact ⟨0, 0, rfl, by omega, rfl, by omega, Lib.hid rfl⟩
      case round =>
        obtain ⟨j, m, rfl, hj, rfl, hmj, hcm⟩ := hrel
        by_cases hjl : j < xs.length
        · obtain ⟨b2, off2, eA, hbl2, hx2⟩ := strs_at' HA.out hjl
          cases eA
          have HCS := Lib.hid (count_step s hjl)
          generalize xs[j] = t at *
          by_cases hst : s = t
          · have hb1 : (s == t) = true := by simp [hst]
            have hc1 : Hid (m + 1 = (xs.take (j + 1)).count s) := Lib.hid (by rw [HCS.out, if_pos hst.symm, hcm.out])
            clear hst
            go_wp2
            go_round
            case rel => exact ⟨j + 1, m + 1, by go_num, by omega, by go_num, by omega, hc1⟩
            case measure => simp [intOf]; omega
          · have hb1 : (s == t) = false := by simp [hst]
            have hc1 : Hid (m = (xs.take (j + 1)).count s) := Lib.hid (by rw [HCS.out, if_neg (fun e => hst e.symm), hcm.out]; rfl)
            clear hst
            go_wp2
            go_round
            case rel => exact ⟨j + 1, m, by go_num, by omega, rfl, by omega, hc1⟩
            case measure => simp [intOf]; omega
        · obtain rfl : j = xs.length := by omega
          have HM : Hid (m = ys.count s) := Lib.hid (by have := hcm.out; rw [List.take_length] at this; rw [this, HCE.out])
          clear hcm
          go_wp2
          go_loop [7, 37] (fun q i => ∃ (j r : Nat), i = .int .i64 j ∧ j ≤ xs.length ∧ q = .int .i64 ((m : Int) - r) ∧ r ≤ j ∧ Hid (r = (ys.take j).count s)) (fun _ i => xs.length - (intOf i).toNat)
          case atStart => exact ⟨0, 0, rfl, by omega, by go_num, by omega, Lib.hid rfl⟩
          case round =>
            obtain ⟨j, r, rfl, hj, rfl, hrj, hcr⟩ := hrel
            by_cases hjl : j < xs.length
            · have hjy : j < ys.length := by rw [HLY.out]; exact hjl
              obtain ⟨b3, off3, rfl, hbl3, hx3⟩ := strs_at' HA'.out hjy
              have HCS := Lib.hid (count_step s hjy)
              generalize ys[j] = t at *
              by_cases hst : s = t
              · have hb1 : (s == t) = true := by simp [hst]
                have hc1 : Hid (r + 1 = (ys.take (j + 1)).count s) := Lib.hid (by rw [HCS.out, if_pos hst.symm, hcr.out])
                clear hst
                go_wp2
                go_round
                case rel => exact ⟨j + 1, r + 1, by go_num, by omega, by go_num, by omega, hc1⟩
                case measure => simp [intOf]; omega
              · have hb1 : (s == t) = false := by simp [hst]
                have hc1 : Hid (r = (ys.take (j + 1)).count s) := Lib.hid (by rw [HCS.out, if_neg (fun e => hst e.symm), hcr.out]; rfl)
                clear hst
                go_wp2
                go_round
                case rel => exact ⟨j + 1, r, by go_num, by omega, rfl, by omega, hc1⟩
                case measure => simp [intOf]; omega
            · obtain rfl : j = xs.length := by omega
              have hr : r = m := by have := hcr.out; rw [List.take_of_length_le (by rw [HLY.out]; omega)] at this; rw [this, HM.out]
              subst hr
              have hz : ((r : Int) - r) = 0 := by omega
              have hz2 : (((r : Int) - r) != 0) = false := by rw [hz]; rfl
              clear HM hcr
              go_wp2
              go_round
              case rel => exact ⟨k + 1, by go_num, by omega⟩
              case measure => simp [intOf]; omega
    · obtain rfl : k = xs.length := by omega
      go_wp2
      go_ret
      exact ⟨rfl, rfl⟩

theorem text_cases {x y : List UInt8} (h : Sem.cmpText x y ≤ 0) : (x == y) = true ∨ Op.bytesLess x y = true := by
  unfold Sem.cmpText at h
  by_cases e : x = y
  · exact .inl (by simp [e])
  · rw [if_neg e] at h
    rw [bytesLess_less]
    cases hl : Sem.less x y with
    | true => exact .inr rfl
    | false => rw [hl] at h; simp at h
theorem version_text {x y : List UInt8} (h : Sem.cmpVersion x y ≤ 0) (h0 : Sem.compare x y = 0) : Sem.cmpText x y ≤ 0 := by
  unfold Sem.cmpVersion at h
  rwa [if_neg (by omega)] at h
set_option maxHeartbeats 2000000 in
theorem walk_FnSortSorted (v0 : Value) (xs : List (List UInt8)) (w : World) (h0 : StrsAt w v0 xs ∧ (∀ x ∈ xs, x.length ≤ 140737488351232) ∧ xs.length ≤ 8796093021952) :
    Calls Try.prog 8 #[v0] w fun e w' => e = .returned (.bool true) ∧ Below w.heap.size w w' := by
  obtain ⟨h0, hl, hn⟩ := h0
  obtain ⟨A0, c0, rfl, hc0, hm0, -⟩ := id h0
  have H0 := Lib.hid h0
  have HS := Lib.hid (fun W (h : StrsAt W (.slice A0 xs.length c0) xs) => impl_SortVersions _ xs W h (fun x hx => by have := hl x hx; omega) (by omega))
  have HL := Lib.hid (fun x (hx : x ∈ Sem.sortV xs) => hl x (Sem.sortV_mem.1 hx))
  clear h0 hl
  go_enter Try.func8, Try.ntmps8
  go_wp2_with fail
  refine (HS.out _ H0.out).mono ?_
  rintro e w1 ⟨⟨A1, c1, rfl, h1⟩, hb1⟩
  have H1 := Lib.hid h1
  have HB1 := Lib.hid hb1
  obtain ⟨A1', c1', e1, hcc, hcm, h1⟩ := h1
  simp only [Value.slice.injEq] at e1
  obtain ⟨rfl, -, rfl⟩ := e1
  rw [Sem.sortV_len] at hcc
  have HA := Lib.hid h1
  clear h1 hb1
  go_wp2_with fail
  go_loopw [4] (fun i wr => ∃ m : Nat, i = .int .i64 ((m + 1 : Nat) : Int) ∧ (m = 0 ∨ m + 1 ≤ xs.length) ∧ Hid (Below w1.heap.size w1 wr)) (fun i _ => xs.length + 1 - (intOf i).toNat)
  case atStart => exact ⟨0, rfl, .inl rfl, Lib.hid (Below.refl _ _)⟩
  case round =>
    obtain ⟨m, rfl, hm, hb⟩ := hrel
    by_cases hlt : m + 1 < xs.length
    · have hms : m + 1 < (Sem.sortV xs).length := by rw [Sem.sortV_len]; exact hlt
      have hm0 : m < (Sem.sortV xs).length := by omega
      obtain ⟨b, off, rfl, hbl, hx⟩ := strs_at' HA.out hm0
      obtain ⟨b2, off2, eA, hbl2, hy⟩ := strs_at' HA.out hms
      simp only [Option.some.injEq, Addr.mk.injEq, and_true] at eA
      obtain ⟨rfl, rfl⟩ := eA
      have hsrt := Sem.sorted_next hms
      have hxl := HL.out _ (List.getElem_mem hm0)
      have hyl := HL.out _ (List.getElem_mem hms)
      have cx : wr.cell? ⟨b, off + m, none⟩ = some (str (Sem.sortV xs)[m]) := (hb.out.cell (p := ⟨b, off + m, none⟩) hbl).trans hx
      have cy : wr.cell? ⟨b, off + (m + 1), none⟩ = some (str (Sem.sortV xs)[m + 1]) := (hb.out.cell (p := ⟨b, off + (m + 1), none⟩) hbl).trans hy
      have hbw : b < wr.heap.size := Nat.lt_of_lt_of_le hbl hb.out.size
      generalize (Sem.sortV xs)[m] = x at *
      generalize (Sem.sortV xs)[m + 1] = y at *
      have hi : (((m + 1 : Nat) : Int) - 1) = (m : Int) := by omega
      have hcle := Sem.version_compare hsrt
      have HC := Lib.hid (fun W => impl_CompareVersions x y W (by omega) (by omega))
      have g1 : decide (0 < Sem.compare x y) = false := by simp; omega
      clear hx hy hm hms hm0
      by_cases hz : Sem.compare x y = 0
      · have g2 : (Sem.compare x y == 0) = true := by simp [hz]
        have hcase := text_cases (version_text hsrt hz)
        clear hz hsrt hcle
        generalize Sem.compare x y = C at *
        rcases hcase with g3 | g3
        all_goals
          go_wp2_with fail
          refine wp_region_bw (by kernel_rfl) (by kernel_rfl) ?_
          repeat (go_big_quiet_step (exact bw_call (HC.out _)))
          refine wpQuiet_nil ?_
          intro wq hw'
          have hbq : Below wr.heap.size wr wq := by obtain ⟨p, rfl⟩ := hw'; exact p.bel
          clear hw'
          have dx : wq.cell? ⟨b, off + m, none⟩ = some (str x) := (hbq.cell (p := ⟨b, off + m, none⟩) hbw).trans cx
          have dy : wq.cell? ⟨b, off + (m + 1), none⟩ = some (str y) := (hbq.cell (p := ⟨b, off + (m + 1), none⟩) hbw).trans cy
          have HBQ : Hid (Below w1.heap.size w1 wq) := Lib.hid (bl_next' hb.out hbq)
          clear hbq
          go_wp2_with fail
          go_quiet (fail)
          go_wp2_with fail
          go_roundw
          case rel => exact ⟨m + 1, by go_num, .inr (by omega), Lib.hid (bl_drewN HBQ.out _)⟩
          case measure => simp [intOf]; omega
      · have g2 : (Sem.compare x y == 0) = false := by simp [hz]
        clear hz hsrt hcle
        generalize Sem.compare x y = C at *
        go_wp2_with fail
        refine wp_region_bw (by kernel_rfl) (by kernel_rfl) ?_
        repeat (go_big_quiet_step (exact bw_call (HC.out _)))
        refine wpQuiet_nil ?_
        intro wq hw'
        have hbq : Below wr.heap.size wr wq := by obtain ⟨p, rfl⟩ := hw'; exact p.bel
        clear hw'
        have HBQ : Hid (Below w1.heap.size w1 wq) := Lib.hid (bl_next' hb.out hbq)
        clear hbq
        go_wp2_with fail
        go_quiet (fail)
        go_wp2_with fail
        go_roundw
        case rel => exact ⟨m + 1, by go_num, .inr (by omega), Lib.hid (bl_drewN HBQ.out _)⟩
        case measure => simp [intOf]; omega
    · have HBW : Hid (Below w.heap.size w wr) := Lib.hid (bl_next' HB1.out hb.out)
      go_wp2_with fail
      refine (sameBag_yes _ _ xs (Sem.sortV xs) _ (H0.out.below HBW.out) (H1.out.below hb.out) (Sem.sortV_perm xs) (by omega)).mono ?_
      rintro e w' ⟨rfl, rfl⟩
      go_wp2_with (first | (go_at_call 24; refine (impl_CompareVersions _ _ _ (by first | omega | (simp; done) | (simp; omega)) (by first | omega | (simp; done) | (simp; omega))).mono ?_; rintro e w' ⟨rfl, hb⟩) | (go_at_call 27; refine (impl_VersionOk _ _ (by first | omega | (simp; done) | (simp; omega))).mono ?_; rintro e w' ⟨rfl, hb⟩) | (go_at_call 17; refine (impl_CanonicalVersion _ _ (by first | omega | (simp; done) | (simp; omega))).mono ?_; rintro e w' ⟨rfl, hb⟩) | (go_at_call 16; refine (impl_MaxVersion _ _ _ (by first | omega | (simp; done) | (simp; omega)) (by first | omega | (simp; done) | (simp; omega))).mono ?_; rintro e w' ⟨rfl, hb⟩) | (go_at_call 11; refine (veWorks_any _).mono ?_; rintro e w' ⟨rfl, hb⟩))
      go_ret
      exact ⟨rfl, by repeat (first | exact HBW.out | (with_reducible assumption) | (with_reducible refine bl_next' ?_ (by with_reducible assumption)))⟩

end Go.Proofs.Ytienkoadkhcghaa
