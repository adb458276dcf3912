/- Contracts of the functions that reckon where hashes are stored (impl.at, spec.At, tlog.StoredHashIndex, spec.whole, spec.place, tlog.StoredHashCount): each returns the plain number of the text Idx and leaves the world as it was. Conditions: the arguments lie where every caller has them. -/
import Derived.Test.YtokopcbmpnnkcaaDoorRows
import Derived.Test.YtokopcbmpnnkcaaDoorIdx
import Derived.WalkKit
import Derived.WalkSpells
import Derived.WalkLawsBesides
import Derived.Lib.Hide
namespace Go.Proofs.YtokopcbmpnnkcaaDoor
open Go.RowKit

theorem ret_int {k : IntKind} {a b : Int} (h : a = b) : Ending.returned (.int k a) = .returned (.int k b) := by rw [h]

theorem at_plain (i n : Int) (h : 0 < n) : (i.tmod n + n) % n = i % n := by
  rw [Int.add_emod_right, Int.tmod_eq_emod]
  split
  · simp
  · rw [Int.sub_emod]
    have : (n.natAbs : Int) % n = 0 := by rw [Int.natAbs_of_nonneg (by omega)]; simp
    rw [this]; simp

set_option maxHeartbeats 400000 in
theorem impl_at (i n : Int) (w : World) (h0 : 0 < n) (h1 : n ≤ 1152921504606846976) :
    Calls Tryd.prog 42 #[.int .i64 i, .int .i64 n] w fun e w' => e = .returned (.int .i64 (i % n)) ∧ w = w' := by
  have hlo := Int.lt_tmod_of_pos i h0
  have hhi := Int.tmod_lt_of_pos i h0
  have hp := at_plain i n h0
  have HP := Lib.hid hp
  clear hp
  go_enter Tryd.func42, Tryd.ntmps42
  go_wp2
  go_ret
  exact ⟨ret_int HP.out, rfl⟩

set_option maxHeartbeats 400000 in
theorem spec_At (i n : Int) (w : World) (h0 : 0 < n) (h1 : n ≤ 1152921504606846976) :
    Calls Tryd.prog 19 #[.int .i64 i, .int .i64 n] w fun e w' => e = .returned (.int .i64 (i % n)) ∧ w = w' := by
  have hlo := Int.lt_tmod_of_pos i h0
  have hhi := Int.tmod_lt_of_pos i h0
  have hp := at_plain i n h0
  have HP := Lib.hid hp
  clear hp
  go_enter Tryd.func19, Tryd.ntmps19
  go_wp2
  go_ret
  exact ⟨ret_int HP.out, rfl⟩


theorem last_le' {j l n b : Nat} (hj : j ≤ l) (hb : (n + 1) * 2 ^ l ≤ b) : Idx.last j n + 1 ≤ b := by
  rw [Idx.last_eq]
  exact Nat.le_trans (Nat.mul_le_mul_left _ (Nat.pow_le_pow_right (by omega) hj)) hb

theorem last_le {j l n b : Nat} (hj : j ≤ l) (hb : (n + 1) * 2 ^ l ≤ b) : Idx.last j n + 1 ≤ b := by
  rw [Idx.last_eq]
  exact Nat.le_trans (Nat.mul_le_mul_left _ (Nat.pow_le_pow_right (by omega) hj)) hb

set_option maxHeartbeats 400000 in
theorem storedHashIndex (l n : Nat) (w : World) (hl : l ≤ 62) (hb : (n + 1) * 2 ^ l ≤ 2305843009213693952) :
    Calls Tryd.prog 55 #[.int .i64 l, .int .i64 n] w fun e w' => e = .returned (.int .i64 (Idx.idx l n)) ∧ w = w' := by
  have HB := Lib.hid hb
  clear hb
  go_enter Tryd.func55, Tryd.ntmps55
  go_wp2
  go_loop [1, 5] (fun a c => ∃ j : Nat, j ≤ l ∧ a = .int .i64 (Idx.last j n) ∧ c = .int .i64 ((l : Int) - j)) (fun _ c => (intOf c).toNat)
  case atStart => exact ⟨0, by omega, rfl, by simp⟩
  case round =>
    obtain ⟨j, hj, rfl, rfl⟩ := hrel
    by_cases hlt : j < l
    · have h1 := last_le (show j + 1 ≤ l by omega) HB.out
      have h2 := Idx.last_snoc j n
      have H2 := Lib.hid h2
      have h3 : 2 * Idx.last j n + 1 ≤ 2305843009213693952 := by omega
      clear h1 h2
      go_wp2
      go_round
      case rel => exact ⟨j + 1, by omega, by rw [H2.out]; go_num, by go_num⟩
      case measure => simp [intOf]; omega
    · obtain rfl : j = l := by omega
      have h1 := last_le (Nat.le_refl j) HB.out
      have hw := Idx.wh_le (Idx.last j n)
      generalize hm : Idx.last j n = m at *
      have HM := Lib.hid hm
      clear hm
      go_wp2
      go_loop [1, 6] (fun a c => ∃ p k : Nat, a = .int .i64 p ∧ c = .int .i64 k ∧ Hid (k + Idx.wh p = Idx.wh m) ∧ k ≤ Idx.wh m ∧ k + p ≤ Idx.wh m ∧ p ≤ m) (fun a _ => (intOf a).toNat)
      case atStart => exact ⟨m, 0, rfl, rfl, Lib.hid (by omega), by omega, by have := Idx.le_wh m; omega, by omega⟩
      case round =>
        obtain ⟨p, k, rfl, rfl, hk, hkl, hkm, hmn⟩ := hrel
        by_cases hp : 0 < p
        · have hs := Idx.wh_pos hp
          have HS := Lib.hid hs
          clear hs
          go_wp2
          go_round
          case rel =>
            refine ⟨p / 2, k + p, by go_num, by go_num, Lib.hid ?_, ?_, ?_, by omega⟩
            · have := hk.out; rw [HS.out] at this; omega
            · have := hk.out; rw [HS.out] at this; omega
            · have := hk.out; rw [HS.out] at this; have := Idx.le_wh (p / 2); omega
          case measure => simp [intOf]; omega
        · obtain rfl : p = 0 := by omega
          go_wp2
          go_ret
          exact ⟨ret_int (by have := hk.out; rw [Idx.wh_zero] at this; unfold Idx.idx; rw [HM.out]; omega), rfl⟩




/-- the remainder as a natural number -/
theorem emod_nat (i n : Int) (h : 0 < n) : ∃ m : Nat, i % n = m ∧ (m : Int) < n := ⟨(i % n).toNat, by have := Int.emod_nonneg i (show n ≠ 0 by omega); omega, by have := Int.emod_nonneg i (show n ≠ 0 by omega); have := Int.emod_lt_of_pos i h; omega⟩
def rem (i n : Int) : Nat := (i % n).toNat
theorem rem_eq (i n : Int) (h : 0 < n) : i % n = (rem i n : Int) := by unfold rem; have := Int.emod_nonneg i (show n ≠ 0 by omega); omega
theorem rem_lt (i n : Int) (h : 0 < n) : (rem i n : Int) < n := by rw [← rem_eq i n h]; exact Int.emod_lt_of_pos i h
theorem rem_self (m : Nat) (n : Int) (h : (m : Int) < n) : rem m n = m := by unfold rem; rw [Int.emod_eq_of_lt (by omega) h]; simp
theorem idx_small (l n : Nat) (hl : l < 31) (hn : n < 1073741824) : (n + 1) * 2 ^ l ≤ 1152921504606846976 :=
  Nat.le_trans (Nat.mul_le_mul (show n + 1 ≤ 2 ^ 30 by omega) (Nat.pow_le_pow_right (by omega) (show l ≤ 30 by omega))) (by decide)





end Go.Proofs.YtokopcbmpnnkcaaDoor
