/- Contracts of the reference's veDigits, veNumber, veIdentifier, NumbersGood, IdentifiersGood and of the laws' joinedBy, versionWith: what each returns, as the plain functions of SpecDefs tell. Condition: the texts are no longer than 2 to the power of 60, and joined no longer than this. -/
import Derived.Test.YtpcmdgmbacokfaaStrs
import Derived.Test.YtpcmdgmbacokfaaSpecDefs
namespace Go.Proofs.Ytpcmdgmbacokfaa
open Go.RowKit
attribute [local go_sem] app_str

set_option maxHeartbeats 400000 in
theorem veDigits_any (l : List UInt8) (w : World) (hl : l.length ≤ 1152921504606846976) :
    Calls Try.prog 51 #[str l] w fun e w' => e = .returned (.bool (Sem.veDig l)) ∧ w = w' := by
  have hb := get_bl l
  go_enter Try.func51, Try.ntmps51
  go_wp2
  go_loop [6] (fun a => ∃ k : Nat, a = .int .i64 k ∧ k ≤ l.length ∧ Hid ((l.take k).all Sem.isDig = true)) (fun a => l.length - (intOf a).toNat)
  case atStart => exact ⟨0, rfl, by omega, Lib.hid (by simp)⟩
  case round =>
    obtain ⟨k, rfl, hkl, hinv⟩ := hrel
    have hlo := Sem.bt_lo l k
    have hhi := Sem.bt_hi l k
    by_cases hlt : k < l.length
    · by_cases hdk : 48 ≤ Sem.bt l k ∧ Sem.bt l k ≤ 57
      · have HS : Hid ((l.take (k + 1)).all Sem.isDig = true) := Lib.hid (by rw [Sem.all_take_succ _ _ hlt, hinv.out, (Sem.isDig_at hlt).2 hdk]; rfl)
        obtain ⟨hd1, hd2⟩ := hdk
        go_wp2
        go_round
        case rel => exact ⟨k + 1, by go_num, by omega, HS⟩
        case measure => simp [intOf]; omega
      · have HS : Hid (Sem.veDig l = false) := Lib.hid (by
          have : Sem.isDig l[k] = false := by have := (Sem.isDig_at hlt); simpa using (fun e => hdk (this.1 e))
          unfold Sem.veDig; rw [Sem.all_false _ _ hlt this]; rfl)
        by_cases hd1 : 48 ≤ Sem.bt l k
        · have hd2 : 57 < Sem.bt l k := by omega
          clear hdk
          go_wp2
          go_ret
          exact ⟨ret_bool HS.out.symm, rfl⟩
        · clear hdk
          go_wp2
          go_ret
          exact ⟨ret_bool HS.out.symm, rfl⟩
    · obtain rfl : k = l.length := by omega
      have HS : Hid (Sem.veDig l = decide (0 < l.length)) := Lib.hid (by have := hinv.out; rw [List.take_length] at this; unfold Sem.veDig; rw [this]; rfl)
      by_cases h0 : 0 < l.length
      · go_wp2
        go_ret
        exact ⟨ret_bool (by rw [HS.out, decide_eq_true h0]), rfl⟩
      · go_wp2
        go_ret
        exact ⟨ret_bool (by rw [HS.out, decide_eq_false h0]), rfl⟩

set_option maxHeartbeats 400000 in
theorem veNumber_any (l : List UInt8) (w : World) (hl : l.length ≤ 1152921504606846976) :
    Calls Try.prog 52 #[str l] w fun e w' => e = .returned (.bool (Sem.veNum l)) ∧ w = w' := by
  have hb := get_bl l
  have hlo := Sem.bt_lo l 0
  have hhi := Sem.bt_hi l 0
  have HN : Hid (Sem.veNum l = (Sem.veDig l && (decide (l.length = 1) || decide (Sem.bt l 0 ≠ 48)))) := Lib.hid rfl
  cases hd : Sem.veDig l with
  | false =>
    go_enter Try.func52, Try.ntmps52
    go_wp2_with (go_at_call 51; refine (veDigits_any _ _ hl).mono ?_; rintro e w' ⟨rfl, rfl⟩)
    go_ret
    exact ⟨ret_bool (by rw [HN.out, hd]; rfl), rfl⟩
  | true =>
    have h0 : 0 < l.length := by unfold Sem.veDig at hd; simp at hd; exact hd.2
    by_cases h1 : l.length = 1
    · have h1b : ((l.length : Int) == 1) = true := by simp; omega
      have H1 := Lib.hid h1
      clear h1
      go_enter Try.func52, Try.ntmps52
      go_wp2_with (go_at_call 51; refine (veDigits_any _ _ hl).mono ?_; rintro e w' ⟨rfl, rfl⟩)
      go_ret
      exact ⟨ret_bool (by rw [HN.out, hd]; simp [H1.out]), rfl⟩
    · have h1b : ((l.length : Int) == 1) = false := by simp; omega
      have H1 := Lib.hid h1
      clear h1
      by_cases h2 : Sem.bt l 0 = 48
      · have h2b : (Sem.bt l 0 != 48) = false := by simp [h2]
        have H2 := Lib.hid h2
        clear h2
        go_enter Try.func52, Try.ntmps52
        go_wp2_with (go_at_call 51; refine (veDigits_any _ _ hl).mono ?_; rintro e w' ⟨rfl, rfl⟩)
        go_ret
        exact ⟨ret_bool (by rw [HN.out, hd]; simp [H1.out, H2.out]), rfl⟩
      · have h2b : (Sem.bt l 0 != 48) = true := by simp [h2]
        have H2 := Lib.hid h2
        clear h2
        go_enter Try.func52, Try.ntmps52
        go_wp2_with (go_at_call 51; refine (veDigits_any _ _ hl).mono ?_; rintro e w' ⟨rfl, rfl⟩)
        go_ret
        exact ⟨ret_bool (by rw [HN.out, hd]; simp [H2.out]), rfl⟩

set_option maxHeartbeats 1000000 in
theorem veIdentifier_any (l : List UInt8) (w : World) (hl : l.length ≤ 1152921504606846976) :
    Calls Try.prog 50 #[str l] w fun e w' => e = .returned (.bool (Sem.veId l)) ∧ w = w' := by
  have hb := get_bl l
  go_enter Try.func50, Try.ntmps50
  go_wp2
  go_loop [7] (fun a => ∃ k : Nat, a = .int .i64 k ∧ k ≤ l.length ∧ Hid ((l.take k).all Sem.isId = true)) (fun a => l.length - (intOf a).toNat)
  case atStart => exact ⟨0, rfl, by omega, Lib.hid (by simp)⟩
  case round =>
    obtain ⟨k, rfl, hkl, hinv⟩ := hrel
    have hlo := Sem.bt_lo l k
    have hhi := Sem.bt_hi l k
    by_cases hlt : k < l.length
    · cases hid : Sem.idB (Sem.bt l k) with
      | true =>
        have HS : Hid ((l.take (k + 1)).all Sem.isId = true) := Lib.hid (by rw [Sem.all_take_succ _ _ hlt, hinv.out, ← Sem.idB_at hlt, hid]; rfl)
        have hcase : (65 ≤ Sem.bt l k ∧ Sem.bt l k ≤ 90) ∨ (97 ≤ Sem.bt l k ∧ Sem.bt l k ≤ 122) ∨ (48 ≤ Sem.bt l k ∧ Sem.bt l k ≤ 57) ∨ Sem.bt l k = 45 := by unfold Sem.idB at hid; simpa using hid
        clear hid
        rcases hcase with ⟨c1, c2⟩ | ⟨c1, c2⟩ | ⟨c1, c2⟩ | c1
        · have c3 : (Sem.bt l k == 45) = false := by rw [beq_eq_false_iff_ne]; omega
          go_wp2
          go_round
          case rel => exact ⟨k + 1, by go_num, by omega, HS⟩
          case measure => simp [intOf]; omega
        · have c3 : (Sem.bt l k == 45) = false := by rw [beq_eq_false_iff_ne]; omega
          go_wp2
          go_round
          case rel => exact ⟨k + 1, by go_num, by omega, HS⟩
          case measure => simp [intOf]; omega
        · have c3 : (Sem.bt l k == 45) = false := by rw [beq_eq_false_iff_ne]; omega
          go_wp2
          go_round
          case rel => exact ⟨k + 1, by go_num, by omega, HS⟩
          case measure => simp [intOf]; omega
        · have c3 : (Sem.bt l k == 45) = true := by simp [c1]
          have c4 : Sem.bt l k < 48 := by omega
          clear c1
          go_wp2
          go_round
          case rel => exact ⟨k + 1, by go_num, by omega, HS⟩
          case measure => simp [intOf]; omega
      | false =>
        have HS : Hid (Sem.veId l = false) := Lib.hid (by
          have : Sem.isId l[k] = false := by rw [← Sem.idB_at hlt]; exact hid
          unfold Sem.veId; rw [Sem.all_false _ _ hlt this]; rfl)
        have hcase : ¬ (65 ≤ Sem.bt l k ∧ Sem.bt l k ≤ 90) ∧ ¬ (97 ≤ Sem.bt l k ∧ Sem.bt l k ≤ 122) ∧ ¬ (48 ≤ Sem.bt l k ∧ Sem.bt l k ≤ 57) ∧ ¬ Sem.bt l k = 45 := by
          unfold Sem.idB at hid
          simp only [decide_eq_false_iff_not, not_or] at hid
          exact hid
        obtain ⟨n1, n2, n3, n4⟩ := hcase
        have c3 : (Sem.bt l k == 45) = false := by simp [n4]
        clear hid n4
        by_cases k1 : 48 ≤ Sem.bt l k
        · have k2 : 57 < Sem.bt l k := by omega
          have d1 : decide (Sem.bt l k ≤ 57) = false := decide_eq_false (by omega)
          by_cases k3 : 97 ≤ Sem.bt l k
          · have k4 : 122 < Sem.bt l k := by omega
            have d2 : decide (Sem.bt l k ≤ 122) = false := decide_eq_false (by omega)
            have d3 : decide (Sem.bt l k ≤ 90) = false := decide_eq_false (by omega)
            clear n1 n2 n3
            go_wp2
            go_ret
            exact ⟨ret_bool HS.out.symm, rfl⟩
          · by_cases k5 : 65 ≤ Sem.bt l k
            · have k6 : 90 < Sem.bt l k := by omega
              have d3 : decide (Sem.bt l k ≤ 90) = false := decide_eq_false (by omega)
              clear n1 n2 n3
              go_wp2
              go_ret
              exact ⟨ret_bool HS.out.symm, rfl⟩
            · clear n1 n2 n3
              go_wp2
              go_ret
              exact ⟨ret_bool HS.out.symm, rfl⟩
        · clear n1 n2 n3
          go_wp2
          go_ret
          exact ⟨ret_bool HS.out.symm, rfl⟩
    · obtain rfl : k = l.length := by omega
      have HS : Hid (Sem.veId l = decide (0 < l.length)) := Lib.hid (by have := hinv.out; rw [List.take_length] at this; unfold Sem.veId; rw [this]; rfl)
      by_cases h0 : 0 < l.length
      · go_wp2
        go_ret
        exact ⟨ret_bool (by rw [HS.out, decide_eq_true h0]), rfl⟩
      · go_wp2
        go_ret
        exact ⟨ret_bool (by rw [HS.out, decide_eq_false h0]), rfl⟩

set_option maxHeartbeats 1000000 in
theorem numbersGood_any (v : Value) (xs : List (List UInt8)) (w : World) (h : StrsAt w v xs) (hl : ∀ x ∈ xs, x.length ≤ 1152921504606846976) :
    Calls Try.prog 32 #[v] w fun e w' => e = .returned (.bool (Sem.numsGood xs)) ∧ w = w' := by
  obtain ⟨A, c, rfl, hc, hm, h⟩ := h
  rcases h with h | ⟨b, off, rfl, hlt, hcell⟩
  · subst h
    go_enter Try.func32, Try.ntmps32
    go_wp2
    go_loop [7] (fun a => a = .int .i64 0) (fun _ => 0)
    case atStart => rfl
    case round =>
      subst hrel
      go_wp2
      go_ret
      exact ⟨rfl, rfl⟩
  · have HC := Lib.hid hcell
    have HL := Lib.hid hl
    clear hcell hl
    go_enter Try.func32, Try.ntmps32
    go_wp2
    go_loop [7] (fun a => ∃ k : Nat, a = .int .i64 k ∧ k ≤ xs.length ∧ Hid ((xs.take k).all Sem.veNum = true)) (fun a => xs.length - (intOf a).toNat)
    case atStart => exact ⟨0, rfl, by omega, Lib.hid (by simp)⟩
    case round =>
      obtain ⟨k, rfl, hkl, hinv⟩ := hrel
      by_cases hk : k < xs.length
      · have hx := HC.out k xs[k] (List.getElem?_eq_getElem hk)
        have hxl := HL.out xs[k] (List.getElem_mem hk)
        have hst := Sem.all_take_succ Sem.veNum xs hk
        have hsf := fun e => Sem.all_false Sem.veNum xs hk e
        generalize xs[k] = x at *
        have HST := Lib.hid hst
        have HSF := Lib.hid hsf
        clear hst hsf
        cases hn : Sem.veNum x with
        | true =>
          go_wp2_with (go_at_call 52; refine (veNumber_any _ _ hxl).mono ?_; rintro e w' ⟨rfl, rfl⟩)
          go_round
          case rel => exact ⟨k + 1, by go_num, by omega, Lib.hid (by rw [HST.out, hinv.out, hn]; rfl)⟩
          case measure => simp [intOf]; omega
        | false =>
          go_wp2_with (go_at_call 52; refine (veNumber_any _ _ hxl).mono ?_; rintro e w' ⟨rfl, rfl⟩)
          go_ret
          exact ⟨ret_bool (by unfold Sem.numsGood; rw [HSF.out hn]; rfl), rfl⟩
      · obtain rfl : k = xs.length := by omega
        have hall : Hid (Sem.numsGood xs = decide (xs.length = 3)) := Lib.hid (by have := hinv.out; rw [List.take_length] at this; unfold Sem.numsGood; rw [this]; rfl)
        by_cases h3 : xs.length = 3
        · have h3b : ((xs.length : Int) == 3) = true := by simp; omega
          have H3 := Lib.hid h3
          clear h3
          go_wp2
          go_ret
          exact ⟨ret_bool (by rw [hall.out, decide_eq_true H3.out]), rfl⟩
        · have h3b : ((xs.length : Int) == 3) = false := by simp; omega
          have H3 := Lib.hid h3
          clear h3
          go_wp2
          go_ret
          exact ⟨ret_bool (by rw [hall.out, decide_eq_false H3.out]), rfl⟩

set_option maxHeartbeats 1000000 in
theorem identifiersGood_any (v : Value) (xs : List (List UInt8)) (w : World) (h : StrsAt w v xs) (hl : ∀ x ∈ xs, x.length ≤ 1152921504606846976) :
    Calls Try.prog 27 #[v] w fun e w' => e = .returned (.bool (Sem.idsGood xs)) ∧ w = w' := by
  obtain ⟨A, c, rfl, hc, hm, h⟩ := h
  rcases h with h | ⟨b, off, rfl, hlt, hcell⟩
  · subst h
    go_enter Try.func27, Try.ntmps27
    go_wp2
    go_loop [7] (fun a => a = .int .i64 0) (fun _ => 0)
    case atStart => rfl
    case round =>
      subst hrel
      go_wp2
      go_ret
      exact ⟨rfl, rfl⟩
  · have HC := Lib.hid hcell
    have HL := Lib.hid hl
    clear hcell hl
    go_enter Try.func27, Try.ntmps27
    go_wp2
    go_loop [7] (fun a => ∃ k : Nat, a = .int .i64 k ∧ k ≤ xs.length ∧ Hid ((xs.take k).all Sem.goodId = true)) (fun a => xs.length - (intOf a).toNat)
    case atStart => exact ⟨0, rfl, by omega, Lib.hid (by simp)⟩
    case round =>
      obtain ⟨k, rfl, hkl, hinv⟩ := hrel
      by_cases hk : k < xs.length
      · have hx := HC.out k xs[k] (List.getElem?_eq_getElem hk)
        have hxl := HL.out xs[k] (List.getElem_mem hk)
        have hst := Sem.all_take_succ Sem.goodId xs hk
        have hsf := fun e => Sem.all_false Sem.goodId xs hk e
        generalize xs[k] = x at *
        have HST := Lib.hid hst
        have HSF := Lib.hid hsf
        have HG : Hid (Sem.goodId x = (Sem.veId x && !(Sem.veDig x && !Sem.veNum x))) := Lib.hid rfl
        clear hst hsf
        cases h1 : Sem.veId x with
        | false =>
          go_wp2_with (first | (go_at_call 52; refine (veNumber_any _ _ hxl).mono ?_; rintro e w' ⟨rfl, rfl⟩) | (go_at_call 51; refine (veDigits_any _ _ hxl).mono ?_; rintro e w' ⟨rfl, rfl⟩) | (go_at_call 50; refine (veIdentifier_any _ _ hxl).mono ?_; rintro e w' ⟨rfl, rfl⟩))
          go_ret
          exact ⟨ret_bool (by unfold Sem.idsGood; rw [HSF.out (by rw [HG.out, h1]; rfl)]), rfl⟩
        | true =>
          cases h2 : Sem.veDig x with
          | false =>
            go_wp2_with (first | (go_at_call 52; refine (veNumber_any _ _ hxl).mono ?_; rintro e w' ⟨rfl, rfl⟩) | (go_at_call 51; refine (veDigits_any _ _ hxl).mono ?_; rintro e w' ⟨rfl, rfl⟩) | (go_at_call 50; refine (veIdentifier_any _ _ hxl).mono ?_; rintro e w' ⟨rfl, rfl⟩))
            go_round
            case rel => exact ⟨k + 1, by go_num, by omega, Lib.hid (by rw [HST.out, hinv.out, HG.out, h1, h2]; rfl)⟩
            case measure => simp [intOf]; omega
          | true =>
            cases h3 : Sem.veNum x with
            | true =>
              go_wp2_with (first | (go_at_call 52; refine (veNumber_any _ _ hxl).mono ?_; rintro e w' ⟨rfl, rfl⟩) | (go_at_call 51; refine (veDigits_any _ _ hxl).mono ?_; rintro e w' ⟨rfl, rfl⟩) | (go_at_call 50; refine (veIdentifier_any _ _ hxl).mono ?_; rintro e w' ⟨rfl, rfl⟩))
              go_round
              case rel => exact ⟨k + 1, by go_num, by omega, Lib.hid (by rw [HST.out, hinv.out, HG.out, h1, h2, h3]; rfl)⟩
              case measure => simp [intOf]; omega
            | false =>
              go_wp2_with (first | (go_at_call 52; refine (veNumber_any _ _ hxl).mono ?_; rintro e w' ⟨rfl, rfl⟩) | (go_at_call 51; refine (veDigits_any _ _ hxl).mono ?_; rintro e w' ⟨rfl, rfl⟩) | (go_at_call 50; refine (veIdentifier_any _ _ hxl).mono ?_; rintro e w' ⟨rfl, rfl⟩))
              go_ret
              exact ⟨ret_bool (by unfold Sem.idsGood; rw [HSF.out (by rw [HG.out, h1, h2, h3]; rfl)]), rfl⟩
      · obtain rfl : k = xs.length := by omega
        have hall : Hid (Sem.idsGood xs = true) := Lib.hid (by have := hinv.out; rw [List.take_length] at this; exact this)
        go_wp2
        go_ret
        exact ⟨ret_bool hall.out.symm, rfl⟩

theorem strs_sum_le {xs : List (List UInt8)} {k : Nat} {n : Nat} : ((xs.take k).map fun x => x.length + n).sum ≤ (xs.map fun x => x.length + n).sum := by
  have e : (xs.map fun x => x.length + n) = ((xs.take k).map fun x => x.length + n) ++ ((xs.drop k).map fun x => x.length + n) := by rw [← List.map_append, List.take_append_drop]
  rw [e, List.sum_append]
  omega
theorem strs_at_le {xs : List (List UInt8)} {k : Nat} (hk : k < xs.length) {n : Nat} : (xs[k]).length + n ≤ (xs.map fun x => x.length + n).sum := by
  induction xs generalizing k with
  | nil => simp at hk
  | cons x r ih =>
    cases k with
    | zero => simp only [List.getElem_cons_zero, List.map_cons, List.sum_cons]; omega
    | succ k => simp only [List.getElem_cons_succ, List.map_cons, List.sum_cons]; have := @ih k (by simpa using hk); omega

set_option maxHeartbeats 1000000 in
theorem joinedBy_any (v : Value) (xs : List (List UInt8)) (y : List UInt8) (w : World) (h : StrsAt w v xs) (hy : y.length ≤ 1) (hl : (xs.map fun x => x.length + 1).sum ≤ 1152921504606846976) :
    Calls Try.prog 33 #[v, str y] w fun e w' => e = .returned (str (Sem.joinBy y xs)) ∧ w = w' := by
  obtain ⟨A, c, rfl, hc, hm, h⟩ := h
  rcases h with h | ⟨b, off, rfl, hlt, hcell⟩
  · subst h
    go_enter Try.func33, Try.ntmps33
    go_wp2
    go_loop [5, 10] (fun o a => o = str [] ∧ a = .int .i64 0) (fun _ _ => 0)
    case atStart => exact ⟨rfl, rfl⟩
    case round =>
      obtain ⟨rfl, rfl⟩ := hrel
      go_wp2
      go_ret
      exact ⟨rfl, rfl⟩
  · have HC := Lib.hid hcell
    clear hcell
    go_enter Try.func33, Try.ntmps33
    go_wp2
    go_loop [5, 10] (fun o a => ∃ k : Nat, a = .int .i64 k ∧ k ≤ xs.length ∧ o = str (Sem.joinBy y (xs.take k))) (fun _ a => xs.length - (intOf a).toNat)
    case atStart => exact ⟨0, rfl, by omega, rfl⟩
    case round =>
      obtain ⟨k, rfl, hkl, rfl⟩ := hrel
      by_cases hk : k < xs.length
      · have hx := HC.out k xs[k] (List.getElem?_eq_getElem hk)
        have e : xs.take (k + 1) = xs.take k ++ [xs[k]] := List.take_succ_eq_append_getElem hk
        have hj : Sem.joinBy y (xs.take (k + 1)) = if xs.take k = [] then xs[k] else Sem.joinBy y (xs.take k) ++ (y ++ xs[k]) := by rw [e, Sem.joinBy_snoc]; simp
        have hlen : (Sem.joinBy y (xs.take k)).length ≤ ((xs.take k).map fun x : List UInt8 => x.length + 1).sum := Sem.joinBy_len y (xs.take k) hy
        have hs1 := @strs_sum_le xs k 1
        have hs2 := @strs_at_le xs k hk 1
        have hne : 0 < k → xs.take k ≠ [] := fun h0 e => by have := congrArg List.length e; rw [List.length_take, List.length_nil] at this; omega
        have he : k = 0 → xs.take k = [] := fun h0 => by rw [h0]; rfl
        generalize xs[k] = x at *
        clear e
        generalize xs.take k = t0 at *
        have HJ := Lib.hid hj
        have HNE := Lib.hid hne
        have HE := Lib.hid he
        have hb : (Sem.joinBy y t0).length ≤ 1152921504606846976 := by omega
        clear hj hne he hlen
        by_cases h0 : 0 < k
        · have hj2 := HJ.out
          rw [if_neg (HNE.out h0)] at hj2
          have HJ2 := Lib.hid hj2
          clear hj2
          go_wp2
          go_round
          case rel => exact ⟨k + 1, by go_num, by omega, by rw [HJ2.out]⟩
          case measure => simp [intOf]; omega
        · have hj2 := HJ.out
          rw [if_pos (HE.out (by omega))] at hj2
          have ht0 := HE.out (by omega)
          have HJ2 := Lib.hid hj2
          have hz : Sem.joinBy y t0 = [] := by rw [ht0]; rfl
          obtain rfl : k = 0 := by omega
          have hx0 : w.cell? ⟨b, off, none⟩ = some (str x) := by simpa using hx
          clear hj2 ht0 hx
          go_wp2
          go_round
          case rel => exact ⟨1, by go_num, by omega, by rw [HJ2.out]⟩
          case measure => simp [intOf]; omega
      · obtain rfl : k = xs.length := by omega
        have ht : xs.take xs.length = xs := List.take_length
        go_wp2
        go_ret
        exact ⟨rfl, rfl⟩

/-- the version v1.2.3 with a prerelease -/
def verWith (xs : List (List UInt8)) : List UInt8 := if xs = [] then [118, 49, 46, 50, 46, 51] else [118, 49, 46, 50, 46, 51, 45] ++ Sem.joinBy [46] xs
set_option maxHeartbeats 1000000 in
theorem versionWith_any (v : Value) (xs : List (List UInt8)) (w : World) (h : StrsAt w v xs) (hl : (xs.map fun x => x.length + 1).sum ≤ 1152921504606846976) :
    Calls Try.prog 29 #[v] w fun e w' => e = .returned (str (verWith xs)) ∧ w = w' := by
  have h' := h
  obtain ⟨A, c, rfl, hc, hm, -⟩ := h
  have hlen : (Sem.joinBy [46] xs).length ≤ (xs.map fun x : List UInt8 => x.length + 1).sum := Sem.joinBy_len [46] xs (by simp)
  by_cases he : xs = []
  · subst he
    go_enter Try.func29, Try.ntmps29
    go_wp2
    go_ret
    exact ⟨rfl, rfl⟩
  · have hz : ((xs.length : Int) == 0) = false := by
      cases xs with
      | nil => exact absurd rfl he
      | cons => simp; omega
    have HV : Hid (verWith xs = [118, 49, 46, 50, 46, 51, 45] ++ Sem.joinBy [46] xs) := Lib.hid (by unfold verWith; rw [if_neg he])
    have HJ := Lib.hid (joinedBy_any _ xs [46] w h' (by simp) hl)
    clear he h'
    go_enter Try.func29, Try.ntmps29
    go_wp2_with (go_at_call 33; refine (HJ.out).mono ?_; rintro e w' ⟨rfl, rfl⟩)
    go_ret
    exact ⟨ret_str HV.out.symm, rfl⟩

end Go.Proofs.Ytpcmdgmbacokfaa
