/- The walk of the law FnCompareNumbers: it returns true. Condition: each text takes at most 2 to the power of 47 bytes. -/
import Derived.Test.YthgdmalhihaknaaSpec1
namespace Go.Proofs.Ythgdmalhihaknaa
open Go.RowKit
attribute [local go_sem] app_str

theorem good3 {xs : List (List UInt8)} (h : Sem.numsGood xs = true) : ∃ a b c, xs = [a, b, c] ∧ Sem.Num a ∧ Sem.Num b ∧ Sem.Num c := by
  unfold Sem.numsGood at h
  simp only [Bool.and_eq_true, decide_eq_true_eq] at h
  obtain ⟨h1, h2⟩ := h
  match xs, h2 with
  | [a, b, c], _ =>
    simp only [List.all_cons, List.all_nil, Bool.and_true, Bool.and_eq_true] at h1
    exact ⟨a, b, c, rfl, (Sem.veNum_iff a).1 h1.1, (Sem.veNum_iff b).1 h1.2.1, (Sem.veNum_iff c).1 h1.2.2⟩
theorem parse3 {a b c : List UInt8} (ha : Sem.Num a) (hb : Sem.Num b) (hc : Sem.Num c) : Sem.parse (118 :: Sem.joinBy [46] [a, b, c]) = some ⟨a, b, c, [], [], []⟩ := by
  rw [Sem.parse_iff]
  exact ⟨⟨ha, hb, hc, .inl ⟨rfl, .inl rfl, .inl rfl⟩⟩, by simp [Sem.textOf, Sem.joinBy]⟩
theorem compare3 {xs ys : List (List UInt8)} (hx : Sem.numsGood xs = true) (hy : Sem.numsGood ys = true) :
    Sem.compare (118 :: Sem.joinBy [46] xs) (118 :: Sem.joinBy [46] ys) = Sem.listLex Sem.cmpInt xs ys := by
  obtain ⟨a, b, c, rfl, ha, hb, hc⟩ := good3 hx
  obtain ⟨d, e, f, rfl, hd, he, hf⟩ := good3 hy
  rw [Sem.compare_opt, parse3 ha hb hc, parse3 hd he hf]
  simp only [Sem.cmpOpt, Sem.cmpVer, Sem.listLex, ne_eq]
  have : Sem.cmpPre [] [] = 0 := by simp [Sem.cmpPre]
  rw [this]
theorem lex_at {α : Type} {c : α → α → Int} (hz : ∀ x, c x x = 0) {xs ys : List α} {k : Nat} (hk : k < xs.length) (hk' : k < ys.length) (h : xs.take k = ys.take k) (hne : c xs[k] ys[k] ≠ 0) : Sem.listLex c xs ys = c xs[k] ys[k] := by
  induction k generalizing xs ys with
  | zero =>
    cases xs with
    | nil => simp at hk
    | cons x xs =>
      cases ys with
      | nil => simp at hk'
      | cons y ys => rw [Sem.listLex]; simp at hne ⊢; intro e; exact absurd e hne
  | succ k ih =>
    cases xs with
    | nil => simp at hk
    | cons x xs =>
      cases ys with
      | nil => simp at hk'
      | cons y ys =>
        simp only [List.take_succ_cons, List.cons.injEq] at h
        rw [Sem.listLex, h.1, if_neg (by simp [hz])]
        exact ih (by simpa using hk) (by simpa using hk') h.2 hne

set_option maxHeartbeats 4000000 in
set_option maxRecDepth 100000 in
theorem walk_FnCompareNumbers (v0 : Value) (xs : List (List UInt8)) (v1 : Value) (ys : List (List UInt8)) (w : World)
    (h0 : StrsAt w v0 xs ∧ ∀ x ∈ xs, x.length ≤ 140737488351232) (h1 : StrsAt w v1 ys ∧ ∀ x ∈ ys, x.length ≤ 140737488351232) :
    Calls Try.prog 8 #[v0, v1] w fun e w' => e = .returned (.bool true) ∧ Below w.heap.size w w' := by
  obtain ⟨h0, hl0⟩ := h0
  obtain ⟨h1, hl1⟩ := h1
  have HN0 := Lib.hid (numbersGood_any v0 xs w h0 (fun x hx => by have := hl0 x hx; omega))
  have HN1 := Lib.hid (numbersGood_any v1 ys w h1 (fun x hx => by have := hl1 x hx; omega))
  cases g0 : Sem.numsGood xs with
  | false =>
    clear hl0 hl1 h0 h1
    go_enter Try.func8, Try.ntmps8
    go_wp2_with (first | (go_at_call 18; refine HN0.out.mono ?_; rintro e w' ⟨rfl, rfl⟩) | (first | (go_at_call 14; refine (impl_CompareVersions _ _ _ (by first | omega | (simp; done) | (simp; omega)) (by first | omega | (simp; done) | (simp; omega))).mono ?_; rintro e w' ⟨rfl, hb⟩) | (go_at_call 21; refine (impl_VersionOk _ _ (by first | omega | (simp; done) | (simp; omega))).mono ?_; rintro e w' ⟨rfl, hb⟩) | (go_at_call 22; refine (impl_CanonicalVersion _ _ (by first | omega | (simp; done) | (simp; omega))).mono ?_; rintro e w' ⟨rfl, hb⟩) | (go_at_call 23; refine (impl_BuildOf _ _ (by first | omega | (simp; done) | (simp; omega))).mono ?_; rintro e w' ⟨rfl, hb⟩) | (go_at_call 16; refine (veWorks_any _).mono ?_; rintro e w' ⟨rfl, hb⟩)))
    go_ret
    exact ⟨rfl, (by repeat (first | (with_reducible assumption) | (with_reducible exact Below.refl _ _) | (with_reducible refine bl_next' ?_ (by with_reducible assumption))))⟩
  | true =>
    cases g1 : Sem.numsGood ys with
    | false =>
      clear hl0 hl1 h0 h1
      go_enter Try.func8, Try.ntmps8
      go_wp2_with fail
      refine HN0.out.mono ?_
      rintro e w' ⟨rfl, rfl⟩
      go_wp2_with fail
      refine HN1.out.mono ?_
      rintro e w' ⟨rfl, rfl⟩
      go_wp2_with (first | (go_at_call 14; refine (impl_CompareVersions _ _ _ (by first | omega | (simp; done) | (simp; omega)) (by first | omega | (simp; done) | (simp; omega))).mono ?_; rintro e w' ⟨rfl, hb⟩) | (go_at_call 21; refine (impl_VersionOk _ _ (by first | omega | (simp; done) | (simp; omega))).mono ?_; rintro e w' ⟨rfl, hb⟩) | (go_at_call 22; refine (impl_CanonicalVersion _ _ (by first | omega | (simp; done) | (simp; omega))).mono ?_; rintro e w' ⟨rfl, hb⟩) | (go_at_call 23; refine (impl_BuildOf _ _ (by first | omega | (simp; done) | (simp; omega))).mono ?_; rintro e w' ⟨rfl, hb⟩) | (go_at_call 16; refine (veWorks_any _).mono ?_; rintro e w' ⟨rfl, hb⟩))
      go_ret
      exact ⟨rfl, (by repeat (first | (with_reducible assumption) | (with_reducible exact Below.refl _ _) | (with_reducible refine bl_next' ?_ (by with_reducible assumption))))⟩
    | true =>
      have hc3 := compare3 g0 g1
      have hn0 : xs.length = 3 := by obtain ⟨a, b, c, rfl, _⟩ := good3 g0; rfl
      have hn1 : ys.length = 3 := by obtain ⟨a, b, c, rfl, _⟩ := good3 g1; rfl
      have hs0 : (xs.map fun x => x.length + 1).sum ≤ 562949953421312 := by
        obtain ⟨a, b, c, rfl, _⟩ := good3 g0
        have := hl0 a (by simp); have := hl0 b (by simp); have := hl0 c (by simp)
        simp; omega
      have hs1 : (ys.map fun x => x.length + 1).sum ≤ 562949953421312 := by
        obtain ⟨a, b, c, rfl, _⟩ := good3 g1
        have := hl1 a (by simp); have := hl1 b (by simp); have := hl1 c (by simp)
        simp; omega
      have HJ0 := Lib.hid (fun n => joinedBy_any v0 xs [46] (w.drewN n) (h0.drewN n) (by simp) (by omega))
      have HJ1 := Lib.hid (fun n => joinedBy_any v1 ys [46] (w.drewN n) (h1.drewN n) (by simp) (by omega))
      have jl0 : (Sem.joinBy [46] xs).length ≤ 562949953421312 := Nat.le_trans (Sem.joinBy_len [46] xs (n := 1) (by simp)) hs0
      have jl1 : (Sem.joinBy [46] ys).length ≤ 562949953421312 := Nat.le_trans (Sem.joinBy_len [46] ys (n := 1) (by simp)) hs1
      obtain ⟨A, c, rfl, hc, hm, h0⟩ := h0
      obtain ⟨A', c', rfl, hc', hm', h1⟩ := h1
      rcases h0 with h | ⟨b, off, rfl, hlt, hcell⟩
      · rw [h] at hn0; simp at hn0
      rcases h1 with h | ⟨b', off', rfl, hlt', hcell'⟩
      · rw [h] at hn1; simp at hn1
      have HC := Lib.hid hcell
      have HC' := Lib.hid hcell'
      have HL := Lib.hid hl0
      have HL' := Lib.hid hl1
      have HC3 := Lib.hid hc3
      have HN := Lib.hid hn0
      have HN' := Lib.hid hn1
      rw [hn0] at HN0 HJ0 hc ⊢
      rw [hn1] at HN1 HJ1 hc' ⊢
      clear hcell hcell' hl0 hl1 hc3 hn0 hn1
      go_enter Try.func8, Try.ntmps8
      go_wp2_with fail
      refine HN0.out.mono ?_
      rintro e w' ⟨rfl, rfl⟩
      go_wp2_with fail
      refine HN1.out.mono ?_
      rintro e w' ⟨rfl, rfl⟩
      go_wp2_with fail
      go_loopw [5, 18] (fun q a wr => ∃ k n : Nat, q = .int .i64 0 ∧ a = .int .i64 k ∧ k ≤ 3 ∧ wr = w.drewN n ∧ Hid (xs.take k = ys.take k)) (fun _ a _ => 3 - (intOf a).toNat)
      case atStart => exact ⟨0, 0, rfl, rfl, by omega, rfl, Lib.hid rfl⟩
      case round =>
        obtain ⟨k, n, rfl, rfl, hk3, rfl, heq⟩ := hrel
        by_cases hk : k < 3
        · have hkx : k < xs.length := by rw [HN.out]; exact hk
          have hky : k < ys.length := by rw [HN'.out]; exact hk
          have hx := HC.out k xs[k] (List.getElem?_eq_getElem hkx)
          have hy := HC'.out k ys[k] (List.getElem?_eq_getElem hky)
          have hxl := HL.out xs[k] (List.getElem_mem hkx)
          have hyl := HL'.out ys[k] (List.getElem_mem hky)
          have hlex := lex_at (c := Sem.cmpInt) Sem.lin_int.self hkx hky heq.out
          have htx : xs.take (k + 1) = xs.take k ++ [xs[k]] := List.take_succ_eq_append_getElem hkx
          have hty : ys.take (k + 1) = ys.take k ++ [ys[k]] := List.take_succ_eq_append_getElem hky
          generalize xs[k] = x at *
          generalize ys[k] = y at *
          have HLEX := Lib.hid hlex
          have HTX := Lib.hid htx
          have HTY := Lib.hid hty
          clear hlex htx hty
          by_cases hxy : x = y
          · have hb : (x == y) = true := by simp [hxy]
            have HXY := Lib.hid hxy
            clear hxy
            go_wp2_with fail
            go_quiet (fail)
            go_wp2_with fail
            go_roundw
            case rel => exact ⟨k + 1, _, rfl, by go_num, by omega, rfl, Lib.hid (by rw [HTX.out, HTY.out, heq.out, HXY.out])⟩
            case measure => simp [intOf]; omega
          · have hb : (x == y) = false := by simp [hxy]
            have hcn : Sem.cmpInt x y ≠ 0 := fun e => hxy ((Sem.int_zero x y).1 e)
            have hfin := HC3.out.trans (HLEX.out hcn)
            have hci : Sem.cmpInt x y = if x.length < y.length then -1 else if y.length < x.length then 1 else if Sem.less x y then -1 else 1 := by unfold Sem.cmpInt; rw [if_neg hxy]
            rw [hci] at hfin
            clear hci hcn hxy
            by_cases l1 : x.length < y.length
            · rw [if_pos l1] at hfin
              have d1 : decide ((x.length : Int) < (y.length : Int)) = true := decide_eq_true (by omega)
              go_wp2_with fail
              go_quiet (fail)
              go_wp2_with fail
              go_quiet (fail)
              go_wp2_with fail
              refine (HJ0.out _).mono ?_
              rintro e w' ⟨rfl, rfl⟩
              go_wp2_with fail
              refine (HJ1.out _).mono ?_
              rintro e w' ⟨rfl, rfl⟩
              go_wp2_with (first | (go_at_call 14; refine (impl_CompareVersions _ _ _ (by first | omega | (simp; done) | (simp; omega)) (by first | omega | (simp; done) | (simp; omega))).mono ?_; rintro e w' ⟨rfl, hb⟩) | (go_at_call 21; refine (impl_VersionOk _ _ (by first | omega | (simp; done) | (simp; omega))).mono ?_; rintro e w' ⟨rfl, hb⟩) | (go_at_call 22; refine (impl_CanonicalVersion _ _ (by first | omega | (simp; done) | (simp; omega))).mono ?_; rintro e w' ⟨rfl, hb⟩) | (go_at_call 23; refine (impl_BuildOf _ _ (by first | omega | (simp; done) | (simp; omega))).mono ?_; rintro e w' ⟨rfl, hb⟩) | (go_at_call 16; refine (veWorks_any _).mono ?_; rintro e w' ⟨rfl, hb⟩))
              go_ret
              exact ⟨rfl, bl_next' (bl_next' (bl_drewN (Below.refl _ _) _) (by with_reducible assumption)) (by with_reducible assumption)⟩
            · rw [if_neg l1] at hfin
              have d1 : decide ((x.length : Int) < (y.length : Int)) = false := decide_eq_false (by omega)
              have d1' : decide (x.length < y.length) = false := decide_eq_false l1
              by_cases l2 : y.length < x.length
              · rw [if_pos l2] at hfin
                have d2 : ((x.length : Int) == (y.length : Int)) = false := by rw [beq_eq_false_iff_ne]; omega
                have d3 : (x.length == y.length) = false := by rw [beq_eq_false_iff_ne]; omega
                go_wp2_with fail
                go_quiet (fail)
                go_wp2_with fail
                go_quiet (fail)
                go_wp2_with fail
                refine (HJ0.out _).mono ?_
                rintro e w' ⟨rfl, rfl⟩
                go_wp2_with fail
                refine (HJ1.out _).mono ?_
                rintro e w' ⟨rfl, rfl⟩
                go_wp2_with (first | (go_at_call 14; refine (impl_CompareVersions _ _ _ (by first | omega | (simp; done) | (simp; omega)) (by first | omega | (simp; done) | (simp; omega))).mono ?_; rintro e w' ⟨rfl, hb⟩) | (go_at_call 21; refine (impl_VersionOk _ _ (by first | omega | (simp; done) | (simp; omega))).mono ?_; rintro e w' ⟨rfl, hb⟩) | (go_at_call 22; refine (impl_CanonicalVersion _ _ (by first | omega | (simp; done) | (simp; omega))).mono ?_; rintro e w' ⟨rfl, hb⟩) | (go_at_call 23; refine (impl_BuildOf _ _ (by first | omega | (simp; done) | (simp; omega))).mono ?_; rintro e w' ⟨rfl, hb⟩) | (go_at_call 16; refine (veWorks_any _).mono ?_; rintro e w' ⟨rfl, hb⟩))
                go_ret
                exact ⟨rfl, bl_next' (bl_next' (bl_drewN (Below.refl _ _) _) (by with_reducible assumption)) (by with_reducible assumption)⟩
              · rw [if_neg l2] at hfin
                have d2 : ((x.length : Int) == (y.length : Int)) = true := by rw [beq_iff_eq]; omega
                have d3 : (x.length == y.length) = true := by rw [beq_iff_eq]; omega
                cases l4 : Sem.less x y with
                | true =>
                  rw [if_pos l4] at hfin
                  have l5 : Op.bytesLess x y = true := by rw [bytesLess_less, l4]
                  go_wp2_with fail
                  go_quiet (fail)
                  go_wp2_with fail
                  go_quiet (fail)
                  go_wp2_with fail
                  refine (HJ0.out _).mono ?_
                  rintro e w' ⟨rfl, rfl⟩
                  go_wp2_with fail
                  refine (HJ1.out _).mono ?_
                  rintro e w' ⟨rfl, rfl⟩
                  go_wp2_with (first | (go_at_call 14; refine (impl_CompareVersions _ _ _ (by first | omega | (simp; done) | (simp; omega)) (by first | omega | (simp; done) | (simp; omega))).mono ?_; rintro e w' ⟨rfl, hb⟩) | (go_at_call 21; refine (impl_VersionOk _ _ (by first | omega | (simp; done) | (simp; omega))).mono ?_; rintro e w' ⟨rfl, hb⟩) | (go_at_call 22; refine (impl_CanonicalVersion _ _ (by first | omega | (simp; done) | (simp; omega))).mono ?_; rintro e w' ⟨rfl, hb⟩) | (go_at_call 23; refine (impl_BuildOf _ _ (by first | omega | (simp; done) | (simp; omega))).mono ?_; rintro e w' ⟨rfl, hb⟩) | (go_at_call 16; refine (veWorks_any _).mono ?_; rintro e w' ⟨rfl, hb⟩))
                  go_ret
                  exact ⟨rfl, bl_next' (bl_next' (bl_drewN (Below.refl _ _) _) (by with_reducible assumption)) (by with_reducible assumption)⟩
                | false =>
                  rw [if_neg (by rw [l4]; simp)] at hfin
                  have l5 : Op.bytesLess x y = false := by rw [bytesLess_less, l4]
                  go_wp2_with fail
                  go_quiet (fail)
                  go_wp2_with fail
                  go_quiet (fail)
                  go_wp2_with fail
                  refine (HJ0.out _).mono ?_
                  rintro e w' ⟨rfl, rfl⟩
                  go_wp2_with fail
                  refine (HJ1.out _).mono ?_
                  rintro e w' ⟨rfl, rfl⟩
                  go_wp2_with (first | (go_at_call 14; refine (impl_CompareVersions _ _ _ (by first | omega | (simp; done) | (simp; omega)) (by first | omega | (simp; done) | (simp; omega))).mono ?_; rintro e w' ⟨rfl, hb⟩) | (go_at_call 21; refine (impl_VersionOk _ _ (by first | omega | (simp; done) | (simp; omega))).mono ?_; rintro e w' ⟨rfl, hb⟩) | (go_at_call 22; refine (impl_CanonicalVersion _ _ (by first | omega | (simp; done) | (simp; omega))).mono ?_; rintro e w' ⟨rfl, hb⟩) | (go_at_call 23; refine (impl_BuildOf _ _ (by first | omega | (simp; done) | (simp; omega))).mono ?_; rintro e w' ⟨rfl, hb⟩) | (go_at_call 16; refine (veWorks_any _).mono ?_; rintro e w' ⟨rfl, hb⟩))
                  go_ret
                  exact ⟨rfl, bl_next' (bl_next' (bl_drewN (Below.refl _ _) _) (by with_reducible assumption)) (by with_reducible assumption)⟩
        · obtain rfl : k = 3 := by omega
          have hxs : xs = ys := by have := heq.out; rw [List.take_of_length_le (by rw [HN.out]; omega), List.take_of_length_le (by rw [HN'.out]; omega)] at this; exact this
          have hfin : Sem.compare (118 :: Sem.joinBy [46] xs) (118 :: Sem.joinBy [46] ys) = 0 := by rw [HC3.out, hxs]; exact (Sem.Lin.list Sem.lin_int).self ys
          clear hxs
          go_wp2_with fail
          refine (HJ0.out _).mono ?_
          rintro e w' ⟨rfl, rfl⟩
          go_wp2_with fail
          refine (HJ1.out _).mono ?_
          rintro e w' ⟨rfl, rfl⟩
          go_wp2_with (first | (go_at_call 14; refine (impl_CompareVersions _ _ _ (by first | omega | (simp; done) | (simp; omega)) (by first | omega | (simp; done) | (simp; omega))).mono ?_; rintro e w' ⟨rfl, hb⟩) | (go_at_call 21; refine (impl_VersionOk _ _ (by first | omega | (simp; done) | (simp; omega))).mono ?_; rintro e w' ⟨rfl, hb⟩) | (go_at_call 22; refine (impl_CanonicalVersion _ _ (by first | omega | (simp; done) | (simp; omega))).mono ?_; rintro e w' ⟨rfl, hb⟩) | (go_at_call 23; refine (impl_BuildOf _ _ (by first | omega | (simp; done) | (simp; omega))).mono ?_; rintro e w' ⟨rfl, hb⟩) | (go_at_call 16; refine (veWorks_any _).mono ?_; rintro e w' ⟨rfl, hb⟩))
          go_ret
          exact ⟨rfl, bl_next' (bl_next' (bl_drewN (Below.refl _ _) _) (by with_reducible assumption)) (by with_reducible assumption)⟩

end Go.Proofs.Ythgdmalhihaknaa
