/- Contracts of bits.TrailingZeros64, tlog.SplitStoredHashIndex, spec.SplitIndex, impl.SplitIndex, and the walk of FnExactSplitIndex. Condition: bits.deBruijn64tab holds its table. -/
import Derived.Test.YtokopcbmpnnkcaaDoorIdxWalks
import Derived.Shelf.Spec.TrailingZeros
import Derived.Lib.LaidTab
import Derived.MakeChecks
namespace Go.Proofs.YtokopcbmpnnkcaaDoor
open Go.RowKit

theorem ctz_ones : ∀ (f n : Nat), n + 1 < 2 ^ f → Lib.ctzFrom f (n + 1) = Idx.ones n
  | 0, n, h => by simp at h
  | f + 1, n, h => by
    unfold Lib.ctzFrom
    rcases Nat.mod_two_eq_zero_or_one n with g | g
    · rw [if_pos (by omega), Idx.ones_even g]
    · rw [if_neg (by omega), Idx.ones_odd g, show (n + 1) / 2 = n / 2 + 1 by omega, ctz_ones f (n / 2) (by rw [Nat.pow_succ] at h; omega)]

/-- the record with which the hash at an index is stored -/
theorem split_ex (i : Nat) : ∃ m, Idx.wh m ≤ i ∧ i < Idx.wh (m + 1) := by
  induction i with
  | zero => exact ⟨0, by simp [Idx.wh_zero], by rw [Idx.wh_succ]; omega⟩
  | succ i ih =>
    obtain ⟨m, h1, h2⟩ := ih
    by_cases h : i + 1 < Idx.wh (m + 1)
    · exact ⟨m, by omega, h⟩
    · exact ⟨m + 1, by omega, by have := Idx.wh_lt_succ (m + 1); omega⟩

theorem half_pow (m j : Nat) : m / 2 ^ j / 2 = m / 2 ^ (j + 1) := by rw [Nat.pow_succ, Nat.div_div_eq_div_mul]
theorem pair_eq {a b c d : Int} (h1 : a = c) (h2 : b = d) : Ending.returned (.tuple #[.int .i64 a, .int .i64 b]) = .returned (.tuple #[.int .i64 c, .int .i64 d]) := by rw [h1, h2]

abbrev Tab (w : World) : Prop := TabAt 3 Lib.deBruijn64tab w

set_option maxHeartbeats 1000000 in
theorem tz64_core (x k idx : Nat) (w : World) (hx0 : ((x : Int) == 0) = false)
    (key : IntKind.u64.wrap (bits BinOp.and IntKind.u64 (x : Int) (IntKind.u64.wrap (-(x : Int))) * 285870213051353865) / 288230376151711744 = (idx : Int))
    (hi : idx < 64) (hk : k < 64) (hcell : w.cell? ⟨3, idx, none⟩ = some (.int .u8 k)) :
    Calls Tryd.prog 59 #[.int .u64 x] w fun e w' => e = .returned (.int .i64 k) ∧ w' = w := by
  go_enter Tryd.func59, Tryd.ntmps59
  go_wp2_with (simp only [key])
  go_ret
  exact ⟨rfl, rfl⟩

theorem trailingZeros (n : Nat) (hn : n < 1152921504606846976) (w : World) (hT : Tab w) :
    Calls Tryd.prog 59 #[.int .u64 ((n : Int) + 1)] w fun e w' => e = .returned (.int .i64 (Idx.ones n)) ∧ w = w' := by
  obtain ⟨hlow, hk⟩ := Lib.lowest_bit 64 (n + 1) (by omega) (by omega)
  obtain ⟨hi, htab⟩ := Lib.deBruijn64_at _ hk
  have hcell := hT _ hi
  rw [htab] at hcell
  have hc : Lib.ctz 64 (n + 1) = Idx.ones n := by unfold Lib.ctz; rw [if_neg (by omega)]; exact ctz_ones 64 n (by omega)
  have hmain := tz64_core (n + 1) _ _ w (by simp; omega) (tz64_key (n + 1) _ (by omega) (by omega) hlow) hi hk hcell
  rw [hc] at hmain
  refine hmain.mono ?_
  rintro e w' ⟨rfl, rfl⟩
  exact ⟨rfl, rfl⟩




theorem tab_of_laid {W : World} {rest : List (String × DataW Unit)} (h : laidMet Tryd.prog (("math/bits.deBruijn64tab", Lib.tabData .u8 (Lib.deBruijn64tab.map Int.ofNat)) :: rest) W) : Tab W := by
  have ht := Lib.tabIs_of_head (g := 3) (t := 103) (e := 5) (n := 64) (by kernel_rfl) (by kernel_rfl) (by kernel_rfl) (by kernel_rfl) (by kernel_rfl) (by kernel_rfl) h
  intro j hj
  have := ht.cell (g := 3) (by kernel_rfl) j (by simpa using hj)
  rw [this]
  simp only [List.getD_eq_getElem?_getD, List.getElem?_map]
  rw [List.getElem?_eq_getElem hj]
  rfl


end Go.Proofs.YtokopcbmpnnkcaaDoor
