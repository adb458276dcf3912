/- Contracts of the reference's VersionGood, veJoin, veTail, veThree and ParseVersion. Condition: the text is no longer than 2 to the power of 20. -/
import Derived.Test.YtienkoadkhcghaaSpec2
namespace Go.Proofs.Ytienkoadkhcghaa
open Go.RowKit
attribute [local go_sem] app_str

namespace Sem
/-- the numbers may be those of a version -/
def headGood (n p b : Nat) : Bool := decide (1 ≤ n ∧ n ≤ 3 ∧ (n = 3 ∨ (p = 0 ∧ b = 0)))
def verGood (ns ps bs : List Bs) : Bool := headGood ns.length ps.length bs.length && (ns.all veNum && (ps.all goodId && bs.all veId))
end Sem

theorem strs_at {w : World} {A : Option Addr} {xs : List (List UInt8)} {k : Nat} (h : xs = [] ∨ ∃ b off, A = some ⟨b, off, none⟩ ∧ b < w.heap.size ∧ ∀ k u, xs[k]? = some u → w.cell? ⟨b, off + k, none⟩ = some (str u)) (hk : k < xs.length) :
    ∃ b off, A = some ⟨b, off, none⟩ ∧ b < w.heap.size ∧ w.cell? ⟨b, off + k, none⟩ = some (str xs[k]) := by
  rcases h with h | ⟨b, off, hA, hb, hc⟩
  · subst h; simp at hk
  · exact ⟨b, off, hA, hb, hc k _ (List.getElem?_eq_getElem hk)⟩

set_option maxHeartbeats 2000000 in
theorem versionGood_any (v1 v2 v3 : Value) (ns ps bs : List (List UInt8)) (w : World) (h1 : StrsAt w v1 ns) (h2 : StrsAt w v2 ps) (h3 : StrsAt w v3 bs)
    (l1 : ∀ x ∈ ns, x.length ≤ 1152921504606846976) (l2 : ∀ x ∈ ps, x.length ≤ 1152921504606846976) (l3 : ∀ x ∈ bs, x.length ≤ 1152921504606846976)
    (b1 : ns.length ≤ 1152921504606846976) (b2 : ps.length ≤ 1152921504606846976) (b3 : bs.length ≤ 1152921504606846976) :
    Calls Try.prog 68 #[.agg #[v1, v2, v3]] w fun e w' => e = .returned (.bool (Sem.verGood ns ps bs)) ∧ Below w.heap.size w w' := by
  obtain ⟨A1, c1, rfl, hc1, hm1, h1⟩ := h1
  obtain ⟨A2, c2, rfl, hc2, hm2, h2⟩ := h2
  obtain ⟨A3, c3, rfl, hc3, hm3, h3⟩ := h3
  have H1 := Lib.hid h1; have H2 := Lib.hid h2; have H3 := Lib.hid h3
  have L1 := Lib.hid l1; have L2 := Lib.hid l2; have L3 := Lib.hid l3
  clear h1 h2 h3 l1 l2 l3
  have HV : Hid (Sem.verGood ns ps bs = (Sem.headGood ns.length ps.length bs.length && (ns.all Sem.veNum && (ps.all Sem.goodId && bs.all Sem.veId)))) := Lib.hid rfl
  cases hg : Sem.headGood ns.length ps.length bs.length with
  | false =>
    have HF : Hid (Sem.verGood ns ps bs = false) := Lib.hid (by rw [HV.out, hg]; rfl)
    have hcase : ns.length < 1 ∨ 3 < ns.length ∨ ((1 ≤ ns.length ∧ ns.length < 3) ∧ 0 < ps.length + bs.length) := by
      unfold Sem.headGood at hg; simp only [decide_eq_false_iff_not] at hg; omega
    clear hg HV
    rcases hcase with c | c | ⟨⟨c, c'⟩, c''⟩
    · go_enter Try.func68, Try.ntmps68
      go_wp2
      go_ret
      exact ⟨ret_bool HF.out.symm, bl_new _ _⟩
    · go_enter Try.func68, Try.ntmps68
      go_wp2
      go_ret
      exact ⟨ret_bool HF.out.symm, bl_new _ _⟩
    · go_enter Try.func68, Try.ntmps68
      go_wp2
      go_ret
      exact ⟨ret_bool HF.out.symm, bl_new _ _⟩
  | true =>
    have hcase : (ns.length = 3) ∨ ((1 ≤ ns.length ∧ ns.length < 3) ∧ ps.length = 0 ∧ bs.length = 0) := by
      unfold Sem.headGood at hg; simp only [decide_eq_true_eq] at hg; omega
    have HT : Hid (Sem.verGood ns ps bs = (ns.all Sem.veNum && (ps.all Sem.goodId && bs.all Sem.veId))) := Lib.hid (by rw [HV.out, hg]; rfl)
    clear hg HV
    have hd : (1 ≤ ns.length ∧ ns.length ≤ 3 ∧ ¬ ns.length < 3) ∨ ((1 ≤ ns.length ∧ ns.length ≤ 3 ∧ ns.length < 3) ∧ ps.length + bs.length ≤ 0) := by omega
    clear hcase
    rcases hd with ⟨d1, d2, d3⟩ | ⟨⟨d1, d2, d3⟩, d4⟩
    all_goals
      go_enter Try.func68, Try.ntmps68
      go_wp2
      go_loop [36] (fun a => ∃ k : Nat, a = .int .i64 k ∧ k ≤ ns.length ∧ Hid ((ns.take k).all Sem.veNum = true)) (fun a => ns.length - (intOf a).toNat)
      case atStart => exact ⟨0, rfl, by omega, Lib.hid (by simp)⟩
      case round =>
        obtain ⟨k, rfl, hkl, hinv⟩ := hrel
        by_cases hk : k < ns.length
        · obtain ⟨b, off, rfl, hlt, hx⟩ := strs_at H1.out hk
          have hxl := L1.out ns[k] (List.getElem_mem hk)
          have hst := Sem.all_take_succ Sem.veNum ns hk
          have hsf := fun e => Sem.all_false Sem.veNum ns hk e
          generalize ns[k] = x at *
          have HST := Lib.hid hst
          have HSF := Lib.hid hsf
          clear hst hsf
          cases hn : Sem.veNum x with
          | true =>
            go_wp2_with (first | (go_at_call 78; refine (veNumber_any _ _ hxl).mono ?_; rintro e w' ⟨rfl, rfl⟩) | (go_at_call 80; refine (veDigits_any _ _ hxl).mono ?_; rintro e w' ⟨rfl, rfl⟩) | (go_at_call 79; refine (veIdentifier_any _ _ hxl).mono ?_; rintro e w' ⟨rfl, rfl⟩))
            go_round
            case rel => exact ⟨k + 1, by go_num, by omega, Lib.hid (by rw [HST.out, hinv.out, hn]; rfl)⟩
            case measure => simp [intOf]; omega
          | false =>
            go_wp2_with (first | (go_at_call 78; refine (veNumber_any _ _ hxl).mono ?_; rintro e w' ⟨rfl, rfl⟩) | (go_at_call 80; refine (veDigits_any _ _ hxl).mono ?_; rintro e w' ⟨rfl, rfl⟩) | (go_at_call 79; refine (veIdentifier_any _ _ hxl).mono ?_; rintro e w' ⟨rfl, rfl⟩))
            go_ret
            exact ⟨ret_bool (by rw [HT.out, HSF.out hn]; simp), bl_new _ _⟩
        · obtain rfl : k = ns.length := by omega
          have HALL36 : Hid (ns.all Sem.veNum = true) := Lib.hid (by have := hinv.out; rw [List.take_length] at this; exact this)
          clear hinv hkl hk
          go_wp2
          go_loop [47] (fun a => ∃ k : Nat, a = .int .i64 k ∧ k ≤ ps.length ∧ Hid ((ps.take k).all Sem.goodId = true)) (fun a => ps.length - (intOf a).toNat)
          case atStart => exact ⟨0, rfl, by omega, Lib.hid (by simp)⟩
          case round =>
            obtain ⟨k, rfl, hkl, hinv⟩ := hrel
            by_cases hk : k < ps.length
            · obtain ⟨b, off, rfl, hlt, hx⟩ := strs_at H2.out hk
              have hxl := L2.out ps[k] (List.getElem_mem hk)
              have hst := Sem.all_take_succ Sem.goodId ps hk
              have hsf := fun e => Sem.all_false Sem.goodId ps hk e
              generalize ps[k] = x at *
              have HST := Lib.hid hst
              have HSF := Lib.hid hsf
              clear hst hsf
              have HG : Hid (Sem.goodId x = (Sem.veId x && !(Sem.veDig x && !Sem.veNum x))) := Lib.hid rfl
              cases q1 : Sem.veId x with
              | false =>
                go_wp2_with (first | (go_at_call 78; refine (veNumber_any _ _ hxl).mono ?_; rintro e w' ⟨rfl, rfl⟩) | (go_at_call 80; refine (veDigits_any _ _ hxl).mono ?_; rintro e w' ⟨rfl, rfl⟩) | (go_at_call 79; refine (veIdentifier_any _ _ hxl).mono ?_; rintro e w' ⟨rfl, rfl⟩))
                go_ret
                exact ⟨ret_bool (by rw [HT.out, HSF.out (by rw [HG.out, q1]; rfl)]; simp), bl_new _ _⟩
              | true =>
                cases q2 : Sem.veDig x with
                | false =>
                  go_wp2_with (first | (go_at_call 78; refine (veNumber_any _ _ hxl).mono ?_; rintro e w' ⟨rfl, rfl⟩) | (go_at_call 80; refine (veDigits_any _ _ hxl).mono ?_; rintro e w' ⟨rfl, rfl⟩) | (go_at_call 79; refine (veIdentifier_any _ _ hxl).mono ?_; rintro e w' ⟨rfl, rfl⟩))
                  go_round
                  case rel => exact ⟨k + 1, by go_num, by omega, Lib.hid (by rw [HST.out, hinv.out, HG.out, q1, q2]; rfl)⟩
                  case measure => simp [intOf]; omega
                | true =>
                  cases q3 : Sem.veNum x with
                  | true =>
                    go_wp2_with (first | (go_at_call 78; refine (veNumber_any _ _ hxl).mono ?_; rintro e w' ⟨rfl, rfl⟩) | (go_at_call 80; refine (veDigits_any _ _ hxl).mono ?_; rintro e w' ⟨rfl, rfl⟩) | (go_at_call 79; refine (veIdentifier_any _ _ hxl).mono ?_; rintro e w' ⟨rfl, rfl⟩))
                    go_round
                    case rel => exact ⟨k + 1, by go_num, by omega, Lib.hid (by rw [HST.out, hinv.out, HG.out, q1, q2, q3]; rfl)⟩
                    case measure => simp [intOf]; omega
                  | false =>
                    go_wp2_with (first | (go_at_call 78; refine (veNumber_any _ _ hxl).mono ?_; rintro e w' ⟨rfl, rfl⟩) | (go_at_call 80; refine (veDigits_any _ _ hxl).mono ?_; rintro e w' ⟨rfl, rfl⟩) | (go_at_call 79; refine (veIdentifier_any _ _ hxl).mono ?_; rintro e w' ⟨rfl, rfl⟩))
                    go_ret
                    exact ⟨ret_bool (by rw [HT.out, HSF.out (by rw [HG.out, q1, q2, q3]; rfl)]; simp), bl_new _ _⟩
            · obtain rfl : k = ps.length := by omega
              have HALL47 : Hid (ps.all Sem.goodId = true) := Lib.hid (by have := hinv.out; rw [List.take_length] at this; exact this)
              clear hinv hkl hk
              go_wp2
              go_loop [67] (fun a => ∃ k : Nat, a = .int .i64 k ∧ k ≤ bs.length ∧ Hid ((bs.take k).all Sem.veId = true)) (fun a => bs.length - (intOf a).toNat)
              case atStart => exact ⟨0, rfl, by omega, Lib.hid (by simp)⟩
              case round =>
                obtain ⟨k, rfl, hkl, hinv⟩ := hrel
                by_cases hk : k < bs.length
                · obtain ⟨b, off, rfl, hlt, hx⟩ := strs_at H3.out hk
                  have hxl := L3.out bs[k] (List.getElem_mem hk)
                  have hst := Sem.all_take_succ Sem.veId bs hk
                  have hsf := fun e => Sem.all_false Sem.veId bs hk e
                  generalize bs[k] = x at *
                  have HST := Lib.hid hst
                  have HSF := Lib.hid hsf
                  clear hst hsf
                  cases hn : Sem.veId x with
                  | true =>
                    go_wp2_with (first | (go_at_call 78; refine (veNumber_any _ _ hxl).mono ?_; rintro e w' ⟨rfl, rfl⟩) | (go_at_call 80; refine (veDigits_any _ _ hxl).mono ?_; rintro e w' ⟨rfl, rfl⟩) | (go_at_call 79; refine (veIdentifier_any _ _ hxl).mono ?_; rintro e w' ⟨rfl, rfl⟩))
                    go_round
                    case rel => exact ⟨k + 1, by go_num, by omega, Lib.hid (by rw [HST.out, hinv.out, hn]; rfl)⟩
                    case measure => simp [intOf]; omega
                  | false =>
                    go_wp2_with (first | (go_at_call 78; refine (veNumber_any _ _ hxl).mono ?_; rintro e w' ⟨rfl, rfl⟩) | (go_at_call 80; refine (veDigits_any _ _ hxl).mono ?_; rintro e w' ⟨rfl, rfl⟩) | (go_at_call 79; refine (veIdentifier_any _ _ hxl).mono ?_; rintro e w' ⟨rfl, rfl⟩))
                    go_ret
                    exact ⟨ret_bool (by rw [HT.out, HSF.out hn]; simp), bl_new _ _⟩
                · obtain rfl : k = bs.length := by omega
                  have HALL67 : Hid (bs.all Sem.veId = true) := Lib.hid (by have := hinv.out; rw [List.take_length] at this; exact this)
                  clear hinv hkl hk
                  go_wp2
                  go_ret
                  exact ⟨ret_bool (by rw [HT.out, HALL36.out, HALL47.out, HALL67.out]; rfl), bl_new _ _⟩

end Go.Proofs.Ytienkoadkhcghaa
