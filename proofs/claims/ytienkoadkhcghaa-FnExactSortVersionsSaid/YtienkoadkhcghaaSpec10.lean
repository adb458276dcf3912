/- Contracts of the reference's veSign, veText, veSize, veIdentifiers and ComparePre. Condition: the texts are no longer than 2 to the power of 60. -/
import Derived.Test.YtienkoadkhcghaaSpec9
import Derived.Test.YtienkoadkhcghaaSpecLaw2
namespace Go.Proofs.Ytienkoadkhcghaa
open Go.RowKit
attribute [local go_sem] app_str

/-- a callee's contract in a world behind some draws -/
theorem quiet2 {P : Program} {f : FuncId} {args : Array Value} {w : World} {m x : Nat} {v : Value}
    (h : Calls P f args (w.drewN (m + x)) fun e w' => e = .returned v ∧ ∃ k, w' = (w.drewN (m + x)).drewN k) : Calls P f args (w.drewN (m + x)) fun e w'' => e = .returned v ∧ ∃ k, w'' = w.drewN (m + k) :=
  h.mono fun _ _ ⟨he, k, hk⟩ => ⟨he, x + k, by rw [hk, World.drewN_drewN, Nat.add_assoc]⟩
theorem quiet2_same {P : Program} {f : FuncId} {args : Array Value} {w : World} {m x : Nat} {v : Value}
    (h : Calls P f args (w.drewN (m + x)) fun e w' => e = .returned v ∧ w.drewN (m + x) = w') : Calls P f args (w.drewN (m + x)) fun e w'' => e = .returned v ∧ ∃ k, w'' = w.drewN (m + k) :=
  h.mono fun _ _ ⟨he, hk⟩ => ⟨he, x, hk.symm⟩

theorem veSign_any (n : Int) (w : World) : Calls Try.prog 69 #[.int .i64 n] w fun e w' => e = .returned (.int .i64 (Sem.sgn n)) ∧ w = w' := by
  by_cases h : n < 0
  · have HS : Hid (Sem.sgn n = -1) := Lib.hid (by unfold Sem.sgn; rw [if_pos h])
    go_enter Try.func69, Try.ntmps69
    go_wp2
    go_ret
    exact ⟨ret_i64 HS.out.symm, rfl⟩
  · by_cases h2 : 0 < n
    · have HS : Hid (Sem.sgn n = 1) := Lib.hid (by unfold Sem.sgn; rw [if_neg h, if_pos h2])
      go_enter Try.func69, Try.ntmps69
      go_wp2
      go_ret
      exact ⟨ret_i64 HS.out.symm, rfl⟩
    · have HS : Hid (Sem.sgn n = 0) := Lib.hid (by unfold Sem.sgn; rw [if_neg h, if_neg h2])
      go_enter Try.func69, Try.ntmps69
      go_wp2
      go_ret
      exact ⟨ret_i64 HS.out.symm, rfl⟩

set_option maxHeartbeats 1000000 in
theorem veText_any (a b : List UInt8) (w : World) (ha : a.length ≤ 1152921504606846976) (hb : b.length ≤ 1152921504606846976) :
    Calls Try.prog 70 #[str a, str b] w fun e w' => e = .returned (.int .i64 (Sem.cmpText a b)) ∧ ∃ n, w' = w.drewN n := by
  have hga := get_bl a
  have hgb := get_bl b
  rcases Nat.lt_or_ge b.length a.length with hba | hba
  all_goals
    go_enter Try.func70, Try.ntmps70
    go_wp2
    go_loopw [11] (fun i wr => ∃ k n : Nat, i = .int .i64 k ∧ k ≤ min a.length b.length ∧ wr = w.drewN n ∧ Hid (a.take k = b.take k)) (fun i _ => min a.length b.length - (intOf i).toNat)
    case atStart => exact ⟨0, 0, rfl, by omega, rfl, Lib.hid rfl⟩
    case round =>
      obtain ⟨k, n, rfl, hk, rfl, heq⟩ := hrel
      have hlo := Sem.bt_lo a k
      have hhi := Sem.bt_hi a k
      have hlo' := Sem.bt_lo b k
      have hhi' := Sem.bt_hi b k
      by_cases hlt : k < min a.length b.length
      · have h1 : k < a.length := by omega
        have h2 : k < b.length := by omega
        by_cases he : Sem.bt a k = Sem.bt b k
        · have hbq : (Sem.bt a k != Sem.bt b k) = false := by simp [he]
          have HS : Hid (a.take (k + 1) = b.take (k + 1)) := Lib.hid (Sem.take_step heq.out h1 h2 (by
            have e1 : Sem.bt a k = (a[k].toNat : Int) := by simp [Sem.bt, h1]
            have e2 : Sem.bt b k = (b[k].toNat : Int) := by simp [Sem.bt, h2]
            rw [e1, e2] at he
            exact UInt8.toNat_inj.1 (by omega)))
          clear he
          go_wp2_with fail
          go_quiet (fail)
          go_wp2_with fail
          go_roundw
          case rel => exact ⟨k + 1, _, by go_num, by omega, rfl, HS⟩
          case measure => simp [intOf]; omega
        · have hbq : (Sem.bt a k != Sem.bt b k) = true := by simp [he]
          have HS := Lib.hid (Sem.text_at heq.out h1 h2 he)
          clear he
          go_wp2_with fail
          go_quiet (fail)
          go_wp2_with fail
          go_quiet (exact quiet2_same (veSign_any _ _))
          go_wp2_with fail
          go_ret
          exact ⟨ret_i64 HS.out.symm, _, by rw [World.drewN_drewN, World.drewN_drewN]⟩
      · have HS := Lib.hid (Sem.text_end heq.out (show k = min a.length b.length by omega))
        go_wp2_with (go_at_call 69; refine (veSign_any _ _).mono ?_; rintro e w' ⟨rfl, rfl⟩)
        go_ret
        exact ⟨ret_i64 HS.out.symm, _, rfl⟩

set_option maxHeartbeats 1000000 in
theorem veSize_any (a b : List UInt8) (w : World) (ha : a.length ≤ 1152921504606846976) (hb : b.length ≤ 1152921504606846976) :
    Calls Try.prog 49 #[str a, str b] w fun e w' => e = .returned (.int .i64 (Sem.cmpInt a b)) ∧ ∃ n, w' = w.drewN n := by
  by_cases he : a.length = b.length
  · have hq : ((a.length : Int) != (b.length : Int)) = false := by simp [he]
    have HS := Lib.hid (Sem.int_text he)
    clear he
    go_enter Try.func49, Try.ntmps49
    go_wp2_with fail
    refine (veText_any a b w ha hb).mono ?_
    rintro e w' ⟨rfl, n, rfl⟩
    go_wp2_with fail
    go_ret
    exact ⟨ret_i64 HS.out.symm, _, rfl⟩
  · have hq : ((a.length : Int) != (b.length : Int)) = true := by simp; omega
    have HS := Lib.hid (Sem.int_len he)
    clear he
    go_enter Try.func49, Try.ntmps49
    go_wp2_with (go_at_call 69; refine (veSign_any _ _).mono ?_; rintro e w' ⟨rfl, rfl⟩)
    go_ret
    exact ⟨ret_i64 HS.out.symm, 0, rfl⟩

set_option maxHeartbeats 1000000 in
theorem veIdentifiers_any (a b : List UInt8) (w : World) (ha : a.length ≤ 1152921504606846976) (hb : b.length ≤ 1152921504606846976) (na : a ≠ []) (nb : b ≠ []) :
    Calls Try.prog 71 #[str a, str b] w fun e w' => e = .returned (.int .i64 (Sem.cmpId a b)) ∧ ∃ n, w' = w.drewN n := by
  have ea := Sem.dig_num na
  have eb := Sem.dig_num nb
  clear na nb
  cases h1 : Sem.veDig a with
  | true =>
    rw [h1] at ea
    cases h2 : Sem.veDig b with
    | true =>
      rw [h2] at eb
      have HS := Lib.hid (Sem.id_both ea.symm eb.symm)
      clear ea eb
      go_enter Try.func71, Try.ntmps71
      go_wp2_with (first | (go_at_call 80; refine (veDigits_any _ _ (by assumption)).mono ?_; rintro e w' ⟨rfl, rfl⟩) | (go_at_call 49; refine (veSize_any _ _ _ ha hb).mono ?_; rintro e w' ⟨rfl, n, rfl⟩))
      go_ret
      exact ⟨ret_i64 HS.out.symm, _, rfl⟩
    | false =>
      rw [h2] at eb
      have HS := Lib.hid (Sem.id_low ea.symm eb.symm)
      clear ea eb
      go_enter Try.func71, Try.ntmps71
      go_wp2_with (first | (go_at_call 80; refine (veDigits_any _ _ (by assumption)).mono ?_; rintro e w' ⟨rfl, rfl⟩))
      go_ret
      exact ⟨ret_i64 HS.out.symm, 0, rfl⟩
  | false =>
    rw [h1] at ea
    cases h2 : Sem.veDig b with
    | true =>
      rw [h2] at eb
      have HS := Lib.hid (Sem.id_high ea.symm eb.symm)
      clear ea eb
      go_enter Try.func71, Try.ntmps71
      go_wp2_with (first | (go_at_call 80; refine (veDigits_any _ _ (by assumption)).mono ?_; rintro e w' ⟨rfl, rfl⟩))
      go_ret
      exact ⟨ret_i64 HS.out.symm, 0, rfl⟩
    | false =>
      rw [h2] at eb
      have HS := Lib.hid (Sem.id_text ea.symm eb.symm)
      clear ea eb
      go_enter Try.func71, Try.ntmps71
      go_wp2_with (first | (go_at_call 80; refine (veDigits_any _ _ (by assumption)).mono ?_; rintro e w' ⟨rfl, rfl⟩) | (go_at_call 70; refine (veText_any _ _ _ ha hb).mono ?_; rintro e w' ⟨rfl, n, rfl⟩))
      go_ret
      exact ⟨ret_i64 HS.out.symm, _, rfl⟩

set_option maxHeartbeats 2000000 in
theorem specPre_any (v1 v2 : Value) (xs ys : List (List UInt8)) (w : World) (h1 : StrsAt w v1 xs) (h2 : StrsAt w v2 ys)
    (l1 : ∀ x ∈ xs, x ≠ [] ∧ x.length ≤ 1152921504606846976) (l2 : ∀ x ∈ ys, x ≠ [] ∧ x.length ≤ 1152921504606846976)
    (b1 : xs.length ≤ 1152921504606846976) (b2 : ys.length ≤ 1152921504606846976) :
    Calls Try.prog 50 #[v1, v2] w fun e w' => e = .returned (.int .i64 (Sem.preIds xs ys)) ∧ ∃ n, w' = w.drewN n := by
  obtain ⟨A1, c1, rfl, hc1, hm1, h1⟩ := h1
  obtain ⟨A2, c2, rfl, hc2, hm2, h2⟩ := h2
  by_cases hn : xs = [] ∨ ys = []
  · have HS := Lib.hid (Sem.preIds_none hn)
    have s0 : Sem.sgn (0 : Int) = 0 := rfl
    rcases hn with rfl | rfl
    · have hsg : Sem.sgn (ys.length : Int) = -1 ∨ Sem.sgn (ys.length : Int) = 0 ∨ Sem.sgn (ys.length : Int) = 1 := by unfold Sem.sgn; split <;> (try split) <;> simp
      clear l1 l2 h1 h2
      go_enter Try.func50, Try.ntmps50
      go_wp2_with (go_at_call 69; refine (veSign_any _ _).mono ?_; rintro e w' ⟨rfl, rfl⟩)
      go_ret
      refine ⟨ret_i64 ?_, 0, rfl⟩
      rw [HS.out]
      simp [s0]
      try omega
    · have hsg : Sem.sgn (xs.length : Int) = -1 ∨ Sem.sgn (xs.length : Int) = 0 ∨ Sem.sgn (xs.length : Int) = 1 := by unfold Sem.sgn; split <;> (try split) <;> simp
      clear l1 l2 h1 h2
      by_cases hx : xs.length = 0
      · obtain rfl := List.eq_nil_of_length_eq_zero hx
        go_enter Try.func50, Try.ntmps50
        go_wp2_with (go_at_call 69; refine (veSign_any _ _).mono ?_; rintro e w' ⟨rfl, rfl⟩)
        go_ret
        exact ⟨ret_i64 (by rw [HS.out]; rfl), 0, rfl⟩
      · have hq : ((xs.length : Int) == 0) = false := by rw [beq_eq_false_iff_ne]; omega
        go_enter Try.func50, Try.ntmps50
        go_wp2_with (go_at_call 69; refine (veSign_any _ _).mono ?_; rintro e w' ⟨rfl, rfl⟩)
        go_ret
        refine ⟨ret_i64 ?_, 0, rfl⟩
        rw [HS.out]
        simp [s0]
        try omega
  · obtain ⟨hx, hy⟩ := not_or.1 hn
    have p1 : 0 < xs.length := by cases xs with | nil => exact absurd rfl hx | cons => simp
    have p2 : 0 < ys.length := by cases ys with | nil => exact absurd rfl hy | cons => simp
    rcases h1 with h1 | ⟨b, off, rfl, hlt, hcell⟩
    · exact absurd h1 hx
    rcases h2 with h2 | ⟨b', off', rfl, hlt', hcell'⟩
    · exact absurd h2 hy
    have q1 : ((xs.length : Int) == 0) = false := by simp; omega
    have q2 : ((ys.length : Int) == 0) = false := by simp; omega
    have HC := Lib.hid hcell
    have HC' := Lib.hid hcell'
    have HL := Lib.hid l1
    have HL' := Lib.hid l2
    have HX := Lib.hid hx
    have HY := Lib.hid hy
    clear hcell hcell' l1 l2 hx hy hn
    rcases Nat.lt_or_ge ys.length xs.length with hba | hba
    all_goals
      go_enter Try.func50, Try.ntmps50
      go_wp2
      go_loopw [27] (fun i wr => ∃ k n : Nat, i = .int .i64 k ∧ k ≤ min xs.length ys.length ∧ wr = w.drewN n ∧ Hid (xs.take k = ys.take k)) (fun i _ => min xs.length ys.length - (intOf i).toNat)
      case atStart => exact ⟨0, 0, rfl, by omega, rfl, Lib.hid rfl⟩
      case round =>
        obtain ⟨k, n, rfl, hk, rfl, heq⟩ := hrel
        by_cases hlt : k < min xs.length ys.length
        · have h1 : k < xs.length := by omega
          have h2 : k < ys.length := by omega
          have hx := HC.out k xs[k] (List.getElem?_eq_getElem h1)
          have hy := HC'.out k ys[k] (List.getElem?_eq_getElem h2)
          have hxl := HL.out xs[k] (List.getElem_mem h1)
          have hyl := HL'.out ys[k] (List.getElem_mem h2)
          have hat := Sem.pre_at heq.out h1 h2
          have hst := Sem.take_step heq.out h1 h2
          generalize xs[k] = x at *
          generalize ys[k] = y at *
          have HAT := Lib.hid hat
          have HST := Lib.hid hst
          clear hat hst
          have HI := Lib.hid (fun w => veIdentifiers_any x y w hxl.2 hyl.2 hxl.1 hyl.1)
          clear hxl hyl
          by_cases hz : Sem.cmpId x y = 0
          · have hz2 : (Sem.cmpId x y != 0) = false := by simp [hz]
            have HE := Lib.hid ((Sem.id_zero x y).1 hz)
            clear hz
            go_wp2_with fail
            go_quiet (exact quiet2 (HI.out _))
            go_wp2_with fail
            go_roundw
            case rel => exact ⟨k + 1, _, by go_num, by omega, rfl, Lib.hid (HST.out HE.out)⟩
            case measure => simp [intOf]; omega
          · have hz2 : (Sem.cmpId x y != 0) = true := by simp [hz]
            have HE := Lib.hid (HAT.out hz)
            clear hz
            go_wp2_with fail
            go_quiet (exact quiet2 (HI.out _))
            go_wp2_with fail
            go_ret
            exact ⟨ret_i64 HE.out.symm, _, rfl⟩
        · have HS := Lib.hid (Sem.pre_end heq.out HX.out HY.out (show k = min xs.length ys.length by omega))
          go_wp2_with (go_at_call 69; refine (veSign_any _ _).mono ?_; rintro e w' ⟨rfl, rfl⟩)
          go_ret
          exact ⟨ret_i64 HS.out.symm, _, rfl⟩

end Go.Proofs.Ytienkoadkhcghaa
