/- Contracts of the reference's veDigits, veNumber, veIdentifier, NumbersGood, IdentifiersGood and of the laws' joinedBy, versionWith: what each returns, as the plain functions of SpecDefs tell. Condition: the texts are no longer than 2 to the power of 60, and joined no longer than this. -/
import Derived.Test.YtienkoadkhcghaaStrs
import Derived.Test.YtienkoadkhcghaaSpecDefs
namespace Go.Proofs.Ytienkoadkhcghaa
open Go.RowKit
attribute [local go_sem] app_str

set_option maxHeartbeats 400000 in
theorem veDigits_any (l : List UInt8) (w : World) (hl : l.length ≤ 1152921504606846976) :
    Calls Try.prog 80 #[str l] w fun e w' => e = .returned (.bool (Sem.veDig l)) ∧ w = w' := by
  have hb := get_bl l
  go_enter Try.func80, Try.ntmps80
  go_wp2
  go_loop [6] (fun a => ∃ k : Nat, a = .int .i64 k ∧ k ≤ l.length ∧ Hid ((l.take k).all Sem.isDig = true)) (fun a => l.length - (intOf a).toNat)
  case atStart => exact ⟨0, rfl, by omega, Lib.hid (by simp)⟩
  case round =>
    obtain ⟨k, rfl, hkl, hinv⟩ := hrel
    have hlo := Sem.bt_lo l k
    have hhi := Sem.bt_hi l k
    by_cases hlt : k < l.length
    · by_cases hdk : 48 ≤ Sem.bt l k ∧ Sem.bt l k ≤ 57
      · have HS : Hid ((l.take (k + 1)).all Sem.isDig = true) := Lib.hid (by rw [Sem.all_take_succ _ _ hlt, hinv.out, (Sem.isDig_at hlt).2 hdk]; rfl)
        obtain ⟨hd1, hd2⟩ := hdk
        go_wp2
        go_round
        case rel => exact ⟨k + 1, by go_num, by omega, HS⟩
        case measure => simp [intOf]; omega
      · have HS : Hid (Sem.veDig l = false) := Lib.hid (by
          have : Sem.isDig l[k] = false := by have := (Sem.isDig_at hlt); simpa using (fun e => hdk (this.1 e))
          unfold Sem.veDig; rw [Sem.all_false _ _ hlt this]; rfl)
        by_cases hd1 : 48 ≤ Sem.bt l k
        · have hd2 : 57 < Sem.bt l k := by omega
          clear hdk
          go_wp2
          go_ret
          exact ⟨ret_bool HS.out.symm, rfl⟩
        · clear hdk
          go_wp2
          go_ret
          exact ⟨ret_bool HS.out.symm, rfl⟩
    · obtain rfl : k = l.length := by omega
      have HS : Hid (Sem.veDig l = decide (0 < l.length)) := Lib.hid (by have := hinv.out; rw [List.take_length] at this; unfold Sem.veDig; rw [this]; rfl)
      by_cases h0 : 0 < l.length
      · go_wp2
        go_ret
        exact ⟨ret_bool (by rw [HS.out, decide_eq_true h0]), rfl⟩
      · go_wp2
        go_ret
        exact ⟨ret_bool (by rw [HS.out, decide_eq_false h0]), rfl⟩

set_option maxHeartbeats 400000 in
theorem veNumber_any (l : List UInt8) (w : World) (hl : l.length ≤ 1152921504606846976) :
    Calls Try.prog 78 #[str l] w fun e w' => e = .returned (.bool (Sem.veNum l)) ∧ w = w' := by
  have hb := get_bl l
  have hlo := Sem.bt_lo l 0
  have hhi := Sem.bt_hi l 0
  have HN : Hid (Sem.veNum l = (Sem.veDig l && (decide (l.length = 1) || decide (Sem.bt l 0 ≠ 48)))) := Lib.hid rfl
  cases hd : Sem.veDig l with
  | false =>
    go_enter Try.func78, Try.ntmps78
    go_wp2_with (go_at_call 80; refine (veDigits_any _ _ hl).mono ?_; rintro e w' ⟨rfl, rfl⟩)
    go_ret
    exact ⟨ret_bool (by rw [HN.out, hd]; rfl), rfl⟩
  | true =>
    have h0 : 0 < l.length := by unfold Sem.veDig at hd; simp at hd; exact hd.2
    by_cases h1 : l.length = 1
    · have h1b : ((l.length : Int) == 1) = true := by simp; omega
      have H1 := Lib.hid h1
      clear h1
      go_enter Try.func78, Try.ntmps78
      go_wp2_with (go_at_call 80; refine (veDigits_any _ _ hl).mono ?_; rintro e w' ⟨rfl, rfl⟩)
      go_ret
      exact ⟨ret_bool (by rw [HN.out, hd]; simp [H1.out]), rfl⟩
    · have h1b : ((l.length : Int) == 1) = false := by simp; omega
      have H1 := Lib.hid h1
      clear h1
      by_cases h2 : Sem.bt l 0 = 48
      · have h2b : (Sem.bt l 0 != 48) = false := by simp [h2]
        have H2 := Lib.hid h2
        clear h2
        go_enter Try.func78, Try.ntmps78
        go_wp2_with (go_at_call 80; refine (veDigits_any _ _ hl).mono ?_; rintro e w' ⟨rfl, rfl⟩)
        go_ret
        exact ⟨ret_bool (by rw [HN.out, hd]; simp [H1.out, H2.out]), rfl⟩
      · have h2b : (Sem.bt l 0 != 48) = true := by simp [h2]
        have H2 := Lib.hid h2
        clear h2
        go_enter Try.func78, Try.ntmps78
        go_wp2_with (go_at_call 80; refine (veDigits_any _ _ hl).mono ?_; rintro e w' ⟨rfl, rfl⟩)
        go_ret
        exact ⟨ret_bool (by rw [HN.out, hd]; simp [H2.out]), rfl⟩

set_option maxHeartbeats 1000000 in
theorem veIdentifier_any (l : List UInt8) (w : World) (hl : l.length ≤ 1152921504606846976) :
    Calls Try.prog 79 #[str l] w fun e w' => e = .returned (.bool (Sem.veId l)) ∧ w = w' := by
  have hb := get_bl l
  go_enter Try.func79, Try.ntmps79
  go_wp2
  go_loop [7] (fun a => ∃ k : Nat, a = .int .i64 k ∧ k ≤ l.length ∧ Hid ((l.take k).all Sem.isId = true)) (fun a => l.length - (intOf a).toNat)
  case atStart => exact ⟨0, rfl, by omega, Lib.hid (by simp)⟩
  case round =>
    obtain ⟨k, rfl, hkl, hinv⟩ := hrel
    have hlo := Sem.bt_lo l k
    have hhi := Sem.bt_hi l k
    by_cases hlt : k < l.length
    · cases hid : Sem.idB (Sem.bt l k) with
      | true =>
        have HS : Hid ((l.take (k + 1)).all Sem.isId = true) := Lib.hid (by rw [Sem.all_take_succ _ _ hlt, hinv.out, ← Sem.idB_at hlt, hid]; rfl)
        have hcase : (65 ≤ Sem.bt l k ∧ Sem.bt l k ≤ 90) ∨ (97 ≤ Sem.bt l k ∧ Sem.bt l k ≤ 122) ∨ (48 ≤ Sem.bt l k ∧ Sem.bt l k ≤ 57) ∨ Sem.bt l k = 45 := by unfold Sem.idB at hid; simpa using hid
        clear hid
        rcases hcase with ⟨c1, c2⟩ | ⟨c1, c2⟩ | ⟨c1, c2⟩ | c1
        · have c3 : (Sem.bt l k == 45) = false := by rw [beq_eq_false_iff_ne]; omega
          go_wp2
          go_round
          case rel => exact ⟨k + 1, by go_num, by omega, HS⟩
          case measure => simp [intOf]; omega
        · have c3 : (Sem.bt l k == 45) = false := by rw [beq_eq_false_iff_ne]; omega
          go_wp2
          go_round
          case rel => exact ⟨k + 1, by go_num, by omega, HS⟩
          case measure => simp [intOf]; omega
        · have c3 : (Sem.bt l k == 45) = false := by rw [beq_eq_false_iff_ne]; omega
          go_wp2
          go_round
          case rel => exact ⟨k + 1, by go_num, by omega, HS⟩
          case measure => simp [intOf]; omega
        · have c3 : (Sem.bt l k == 45) = true := by simp [c1]
          have c4 : Sem.bt l k < 48 := by omega
          clear c1
          go_wp2
          go_round
          case rel => exact ⟨k + 1, by go_num, by omega, HS⟩
          case measure => simp [intOf]; omega
      | false =>
        have HS : Hid (Sem.veId l = false) := Lib.hid (by
          have : Sem.isId l[k] = false := by rw [← Sem.idB_at hlt]; exact hid
          unfold Sem.veId; rw [Sem.all_false _ _ hlt this]; rfl)
        have hcase : ¬ (65 ≤ Sem.bt l k ∧ Sem.bt l k ≤ 90) ∧ ¬ (97 ≤ Sem.bt l k ∧ Sem.bt l k ≤ 122) ∧ ¬ (48 ≤ Sem.bt l k ∧ Sem.bt l k ≤ 57) ∧ ¬ Sem.bt l k = 45 := by
          unfold Sem.idB at hid
          simp only [decide_eq_false_iff_not, not_or] at hid
          exact hid
        obtain ⟨n1, n2, n3, n4⟩ := hcase
        have c3 : (Sem.bt l k == 45) = false := by simp [n4]
        clear hid n4
        by_cases k1 : 48 ≤ Sem.bt l k
        · have k2 : 57 < Sem.bt l k := by omega
          have d1 : decide (Sem.bt l k ≤ 57) = false := decide_eq_false (by omega)
          by_cases k3 : 97 ≤ Sem.bt l k
          · have k4 : 122 < Sem.bt l k := by omega
            have d2 : decide (Sem.bt l k ≤ 122) = false := decide_eq_false (by omega)
            have d3 : decide (Sem.bt l k ≤ 90) = false := decide_eq_false (by omega)
            clear n1 n2 n3
            go_wp2
            go_ret
            exact ⟨ret_bool HS.out.symm, rfl⟩
          · by_cases k5 : 65 ≤ Sem.bt l k
            · have k6 : 90 < Sem.bt l k := by omega
              have d3 : decide (Sem.bt l k ≤ 90) = false := decide_eq_false (by omega)
              clear n1 n2 n3
              go_wp2
              go_ret
              exact ⟨ret_bool HS.out.symm, rfl⟩
            · clear n1 n2 n3
              go_wp2
              go_ret
              exact ⟨ret_bool HS.out.symm, rfl⟩
        · clear n1 n2 n3
          go_wp2
          go_ret
          exact ⟨ret_bool HS.out.symm, rfl⟩
    · obtain rfl : k = l.length := by omega
      have HS : Hid (Sem.veId l = decide (0 < l.length)) := Lib.hid (by have := hinv.out; rw [List.take_length] at this; unfold Sem.veId; rw [this]; rfl)
      by_cases h0 : 0 < l.length
      · go_wp2
        go_ret
        exact ⟨ret_bool (by rw [HS.out, decide_eq_true h0]), rfl⟩
      · go_wp2
        go_ret
        exact ⟨ret_bool (by rw [HS.out, decide_eq_false h0]), rfl⟩



theorem strs_sum_le {xs : List (List UInt8)} {k : Nat} {n : Nat} : ((xs.take k).map fun x => x.length + n).sum ≤ (xs.map fun x => x.length + n).sum := by
  have e : (xs.map fun x => x.length + n) = ((xs.take k).map fun x => x.length + n) ++ ((xs.drop k).map fun x => x.length + n) := by rw [← List.map_append, List.take_append_drop]
  rw [e, List.sum_append]
  omega
theorem strs_at_le {xs : List (List UInt8)} {k : Nat} (hk : k < xs.length) {n : Nat} : (xs[k]).length + n ≤ (xs.map fun x => x.length + n).sum := by
  induction xs generalizing k with
  | nil => simp at hk
  | cons x r ih =>
    cases k with
    | zero => simp only [List.getElem_cons_zero, List.map_cons, List.sum_cons]; omega
    | succ k => simp only [List.getElem_cons_succ, List.map_cons, List.sum_cons]; have := @ih k (by simpa using hk); omega



end Go.Proofs.Ytienkoadkhcghaa
