/- Contracts of bits.TrailingZeros64, tlog.SplitStoredHashIndex, spec.SplitIndex, impl.SplitIndex, and the walk of FnExactSplitIndex. Condition: bits.deBruijn64tab holds its table. -/
import Derived.Test.YtnapeengjbjjoaaDoorIdxWalks
import Derived.Shelf.Spec.TrailingZeros
import Derived.Lib.LaidTab
import Derived.MakeChecks
namespace Go.Proofs.YtnapeengjbjjoaaDoor
open Go.RowKit

theorem ctz_ones : ∀ (f n : Nat), n + 1 < 2 ^ f → Lib.ctzFrom f (n + 1) = Idx.ones n
  | 0, n, h => by simp at h
  | f + 1, n, h => by
    unfold Lib.ctzFrom
    rcases Nat.mod_two_eq_zero_or_one n with g | g
    · rw [if_pos (by omega), Idx.ones_even g]
    · rw [if_neg (by omega), Idx.ones_odd g, show (n + 1) / 2 = n / 2 + 1 by omega, ctz_ones f (n / 2) (by rw [Nat.pow_succ] at h; omega)]

/-- the record with which the hash at an index is stored -/
theorem split_ex (i : Nat) : ∃ m, Idx.wh m ≤ i ∧ i < Idx.wh (m + 1) := by
  induction i with
  | zero => exact ⟨0, by simp [Idx.wh_zero], by rw [Idx.wh_succ]; omega⟩
  | succ i ih =>
    obtain ⟨m, h1, h2⟩ := ih
    by_cases h : i + 1 < Idx.wh (m + 1)
    · exact ⟨m, by omega, h⟩
    · exact ⟨m + 1, by omega, by have := Idx.wh_lt_succ (m + 1); omega⟩

theorem half_pow (m j : Nat) : m / 2 ^ j / 2 = m / 2 ^ (j + 1) := by rw [Nat.pow_succ, Nat.div_div_eq_div_mul]
theorem pair_eq {a b c d : Int} (h1 : a = c) (h2 : b = d) : Ending.returned (.tuple #[.int .i64 a, .int .i64 b]) = .returned (.tuple #[.int .i64 c, .int .i64 d]) := by rw [h1, h2]

abbrev Tab (w : World) : Prop := TabAt 0 Lib.deBruijn64tab w

set_option maxHeartbeats 1000000 in
theorem tz64_core (x k idx : Nat) (w : World) (hx0 : ((x : Int) == 0) = false)
    (key : IntKind.u64.wrap (bits BinOp.and IntKind.u64 (x : Int) (IntKind.u64.wrap (-(x : Int))) * 285870213051353865) / 288230376151711744 = (idx : Int))
    (hi : idx < 64) (hk : k < 64) (hcell : w.cell? ⟨0, idx, none⟩ = some (.int .u8 k)) :
    Calls Tryd.prog 13 #[.int .u64 x] w fun e w' => e = .returned (.int .i64 k) ∧ w' = w := by
  go_enter Tryd.func13, Tryd.ntmps13
  go_wp2_with (simp only [key])
  go_ret
  exact ⟨rfl, rfl⟩

theorem trailingZeros (n : Nat) (hn : n < 1152921504606846976) (w : World) (hT : Tab w) :
    Calls Tryd.prog 13 #[.int .u64 ((n : Int) + 1)] w fun e w' => e = .returned (.int .i64 (Idx.ones n)) ∧ w = w' := by
  obtain ⟨hlow, hk⟩ := Lib.lowest_bit 64 (n + 1) (by omega) (by omega)
  obtain ⟨hi, htab⟩ := Lib.deBruijn64_at _ hk
  have hcell := hT _ hi
  rw [htab] at hcell
  have hc : Lib.ctz 64 (n + 1) = Idx.ones n := by unfold Lib.ctz; rw [if_neg (by omega)]; exact ctz_ones 64 n (by omega)
  have hmain := tz64_core (n + 1) _ _ w (by simp; omega) (tz64_key (n + 1) _ (by omega) (by omega) hlow) hi hk hcell
  rw [hc] at hmain
  refine hmain.mono ?_
  rintro e w' ⟨rfl, rfl⟩
  exact ⟨rfl, rfl⟩

set_option maxHeartbeats 400000 in
theorem splitStored (i m : Nat) (w : World) (hi : i < 1152921504606846976) (h1 : Idx.wh m ≤ i) (h2 : i < Idx.wh (m + 1)) (hT : Tab w) :
    Calls Tryd.prog 9 #[.int .i64 i] w fun e w' => e = .returned (.tuple #[.int .i64 ((i : Int) - Idx.wh m), .int .i64 ((m / 2 ^ (i - Idx.wh m) : Nat) : Int)]) ∧ w = w' := by
  have hw2 := Idx.wh_le (i / 2)
  have hix : Idx.idx 0 (i / 2) = Idx.wh (i / 2) := by simp [Idx.idx, Idx.last]
  have HIX := Lib.hid hix
  clear hix
  have H1 := Lib.hid h1
  have H2 := Lib.hid h2
  clear h1 h2
  go_enter Tryd.func9, Tryd.ntmps9
  go_wp2_with (go_at_call 11; refine (storedHashIndex 0 (i / 2) _ (by omega) (by omega)).mono ?_; rintro e w' ⟨rfl, rfl⟩; rw [HIX.out])
  have hd : decide (i < Idx.wh (i / 2)) = false := by simp; omega
  simp only [hd]
  go_loop [3, 4] (fun a c => ∃ p : Nat, a = .int .i64 p ∧ c = .int .i64 (Idx.wh p) ∧ Idx.wh p ≤ i ∧ p ≤ i) (fun _ c => i - (intOf c).toNat)
  case atStart => exact ⟨i / 2, by go_num, rfl, by omega, by omega⟩
  case round =>
    obtain ⟨p, rfl, rfl, hp, hpi⟩ := hrel
    have ho := Idx.ones_le_log (n := p) (k := 61) (by omega)
    have hs := Idx.wh_succ p
    have HS := Lib.hid hs
    clear hs
    by_cases hx : Idx.wh p + 1 + Idx.ones p ≤ i
    · go_wp2_with (go_at_call 13; refine (trailingZeros p (by omega) _ hT).mono ?_; rintro e w' ⟨rfl, rfl⟩)
      go_round
      case rel =>
        exact ⟨p + 1, by go_num, by rw [HS.out]; go_num, by rw [HS.out]; omega, by have := Idx.le_wh (p + 1); rw [HS.out] at this; omega⟩
      case measure => simp [intOf]; omega
    · have hpm : p = m := Idx.wh_uniq hp (by rw [HS.out]; omega) H1.out H2.out
      subst hpm
      go_wp2_with (go_at_call 13; refine (trailingZeros p (by omega) _ hT).mono ?_; rintro e w' ⟨rfl, rfl⟩)
      go_ret2
      refine ⟨pair_eq rfl ?_, rfl⟩
      simp


set_option maxHeartbeats 400000 in
theorem impl_SplitIndex (a : Int) (m : Nat) (w : World) (h1 : Idx.wh m ≤ rem a 1152921504606846976) (h2 : rem a 1152921504606846976 < Idx.wh (m + 1)) (hT : Tab w) :
    Calls Tryd.prog 6 #[.int .i64 a] w fun e w' => e = .returned (.tuple #[.int .i64 ((rem a 1152921504606846976 : Int) - Idx.wh m), .int .i64 ((m / 2 ^ (rem a 1152921504606846976 - Idx.wh m) : Nat) : Int)]) ∧ w = w' := by
  have ha := rem_lt a 1152921504606846976 (by omega)
  have HA := Lib.hid (rem_eq a 1152921504606846976 (by omega))
  generalize rem a 1152921504606846976 = i at *
  have hle : m / 2 ^ (i - Idx.wh m) ≤ m := Nat.div_le_self _ _
  have hmi := Idx.le_wh m
  have H1 := Lib.hid h1
  have H2 := Lib.hid h2
  have hp := splitStored i m w (by omega) h1 h2 hT
  generalize m / 2 ^ (i - Idx.wh m) = v at *
  have HP := Lib.hid hp
  have hv : v ≤ i := by omega
  clear h1 h2 hp
  go_enter Tryd.func6, Tryd.ntmps6
  go_wp2_with fail
  refine (impl_at a 1152921504606846976 _ (by omega) (by omega)).mono ?_
  rintro e w' ⟨rfl, rfl⟩
  rw [HA.out]
  go_wp2_with fail
  refine HP.out.mono ?_
  rintro e w' ⟨rfl, rfl⟩
  go_wp2_with fail
  go_ret2
  exact ⟨rfl, rfl⟩

theorem tab_of_laid {W : World} {rest : List (String × DataW Unit)} (h : laidMet Tryd.prog (("math/bits.deBruijn64tab", Lib.tabData .u8 (Lib.deBruijn64tab.map Int.ofNat)) :: rest) W) : Tab W := by
  have ht := Lib.tabIs_of_head (g := 0) (t := 40) (e := 5) (n := 64) (by kernel_rfl) (by kernel_rfl) (by kernel_rfl) (by kernel_rfl) (by kernel_rfl) (by kernel_rfl) h
  intro j hj
  have := ht.cell (g := 0) (by kernel_rfl) j (by simpa using hj)
  rw [this]
  simp only [List.getD_eq_getElem?_getD, List.getElem?_map]
  rw [List.getElem?_eq_getElem hj]
  rfl


end Go.Proofs.YtnapeengjbjjoaaDoor
