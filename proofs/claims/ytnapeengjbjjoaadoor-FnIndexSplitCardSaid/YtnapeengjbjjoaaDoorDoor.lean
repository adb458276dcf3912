/- The walks of FnIndexSplit and FnIndexWhole: they return true at every input, whatever words the table of SHA-256 holds. Condition: bits.deBruijn64tab holds its table. -/
import Derived.Test.YtnapeengjbjjoaaDoorSha8
import Derived.Test.YtnapeengjbjjoaaDoorSplit
import Derived.Test.YtnapeengjbjjoaaDoorBwt
namespace Go.Proofs.YtnapeengjbjjoaaDoor
open Go.RowKit

set_option maxHeartbeats 1000000 in
set_option maxRecDepth 20000 in
theorem walk_FnIndexSplit (a b : Int) (w : World) (_ : (Lit.int .i64 a).wf = true) (_ : (Lit.int .i64 b).wf = true) (hL : laidMetH Tryd.prog Rows.fnIndexSplitRow.laid w) (hsh : w.ShapedOpen Tryd.prog) :
    Calls Tryd.prog 3 #[.int .i64 a, .int .i64 b] w fun e w' => e = .returned (.bool true) ∧ Below w.heap.size w w' := by
  rw [MakeChecks.laidMetH_plain _ _ _ (by kernel_rfl)] at hL
  have hT : Tab w := tab_of_laid hL
  obtain ⟨ks, hK⟩ := table_of hsh
  have hk0 : 1 < w.heap.size := (Array.getElem?_eq_some_iff.1 hK.2.2).1
  have HW := Lib.hid (fun (p : BW w) => trWorks_any ks p.val (hK.below p.bel hk0))
  clear hsh hK hL
  have ha := rem_lt a 29 (by omega)
  have HA := Lib.hid (rem_eq a 29 (by omega))
  have hb := rem_lt b 1073741824 (by omega)
  have HB := Lib.hid (rem_eq b 1073741824 (by omega))
  generalize rem a 29 = l at *
  generalize rem b 1073741824 = n at *
  have HI := Lib.hid (fun w => impl_StoredIndex l n w)
  rw [rem_self l 31 (by omega), rem_self n 1073741824 (by omega)] at HI
  have hls := idx_small l n (by omega) (by omega)
  have hle := Idx.last_eq l n
  have hlast : Idx.last l n < 1152921504606846976 := by omega
  have hwl := Idx.wh_le (Idx.last l n)
  have hsm : (n + 1) * 2 ^ l ≤ 288230376151711744 :=
    Nat.le_trans (Nat.mul_le_mul (show n + 1 ≤ 2 ^ 30 by omega) (Nat.pow_le_pow_right (by omega) (show l ≤ 28 by omega))) (by decide)
  have hi1 : Idx.idx l n < 1152921504606846976 := by unfold Idx.idx; omega
  have HS := Lib.hid (impl_SplitIndex (Idx.idx l n : Nat) (Idx.last l n) w (by rw [rem_self _ _ (by omega)]; unfold Idx.idx; omega)
    (by rw [rem_self _ _ (by omega), Idx.wh_succ]; have := Idx.ones_last l n; unfold Idx.idx; omega) hT)
  rw [rem_self (Idx.idx l n) _ (by omega), show Idx.idx l n - Idx.wh (Idx.last l n) = l by unfold Idx.idx; omega, Idx.last_shift,
    show ((Idx.idx l n : Nat) : Int) - (Idx.wh (Idx.last l n) : Nat) = (l : Nat) by unfold Idx.idx; omega] at HS
  generalize Idx.idx l n = i at *
  clear hle hlast hwl hls hT
  go_enter Tryd.func3, Tryd.ntmps3
  go_wp2_with fail
  refine (spec_At a 29 _ (by omega) (by omega)).mono ?_
  rintro e w' ⟨rfl, rfl⟩
  rw [HA.out]
  go_wp2_with fail
  refine (spec_At b 1073741824 _ (by omega) (by omega)).mono ?_
  rintro e w' ⟨rfl, rfl⟩
  rw [HB.out]
  go_wp2_with fail
  refine (HI.out _).mono ?_
  rintro e w' ⟨rfl, rfl⟩
  go_wp2_with fail
  refine HS.out.mono ?_
  rintro e w' ⟨rfl, rfl⟩
  go_wp2_with fail
  try (refine (HW.out ⟨w, Below.refl _ _⟩).mono ?_; rintro e w' ⟨rfl, hbw⟩; go_wp2_with fail)
  go_ret
  exact ⟨rfl, hbw⟩

set_option maxHeartbeats 1000000 in
set_option maxRecDepth 20000 in
theorem walk_FnIndexWhole (a : Int) (w : World) (_ : (Lit.int .i64 a).wf = true) (hL : laidMetH Tryd.prog Rows.fnIndexWholeRow.laid w) (hsh : w.ShapedOpen Tryd.prog) :
    Calls Tryd.prog 4 #[.int .i64 a] w fun e w' => e = .returned (.bool true) ∧ Below w.heap.size w w' := by
  rw [MakeChecks.laidMetH_plain _ _ _ (by kernel_rfl)] at hL
  have hT : Tab w := tab_of_laid hL
  obtain ⟨ks, hK⟩ := table_of hsh
  have hk0 : 1 < w.heap.size := (Array.getElem?_eq_some_iff.1 hK.2.2).1
  have HW := Lib.hid (fun (p : BW w) => trWorks_any ks p.val (hK.below p.bel hk0))
  clear hsh hK hL
  have ha := rem_lt a 1073741824 (by omega)
  have HA := Lib.hid (rem_eq a 1073741824 (by omega))
  generalize rem a 1073741824 = i at *
  obtain ⟨m, h1, h2⟩ := split_ex i
  have HS := Lib.hid (impl_SplitIndex (i : Nat) m w (by rw [rem_self _ _ (by omega)]; exact h1) (by rw [rem_self _ _ (by omega)]; exact h2) hT)
  rw [rem_self i _ (by omega)] at HS
  have hmi := Idx.le_wh m
  have hs := Idx.wh_succ m
  have ho := Idx.ones_le_log (n := m) (k := 30) (by omega)
  have hlast := Idx.last_of_ones (l := i - Idx.wh m) (m := m) (by omega)
  have hdiv : m / 2 ^ (i - Idx.wh m) ≤ m := Nat.div_le_self _ _
  have hidx : Idx.idx (i - Idx.wh m) (m / 2 ^ (i - Idx.wh m)) = i := by unfold Idx.idx; rw [hlast]; omega
  generalize m / 2 ^ (i - Idx.wh m) = n at *
  obtain ⟨l, hl⟩ : ∃ l, l = i - Idx.wh m := ⟨_, rfl⟩
  rw [show ((i : Nat) : Int) - (Idx.wh m : Nat) = (l : Nat) by omega] at HS
  have hl30 : l ≤ 30 := by omega
  have hn30 : n < 1073741824 := by omega
  rw [← hl] at hidx
  have HI := Lib.hid (fun w => impl_StoredIndex l n w)
  rw [rem_self l 31 (by omega), rem_self n 1073741824 (by omega), hidx] at HI
  have hn0 : (0 : Int) ≤ (n : Int) := by omega
  have hl0 : (0 : Int) ≤ (l : Int) := by omega
  have hl3 : (l : Int) ≤ 30 := by omega
  clear hl hs ho hlast hdiv hidx hmi h1 h2 hT hn30 hl30
  go_enter Tryd.func4, Tryd.ntmps4
  go_wp2_with fail
  refine (spec_At a 1073741824 _ (by omega) (by omega)).mono ?_
  rintro e w' ⟨rfl, rfl⟩
  rw [HA.out]
  go_wp2_with fail
  refine HS.out.mono ?_
  rintro e w' ⟨rfl, rfl⟩
  go_wp2_with fail
  try (refine (HI.out _).mono ?_; rintro e w' ⟨rfl, rfl⟩; go_wp2_with fail)
  try (refine (HW.out ⟨w, Below.refl _ _⟩).mono ?_; rintro e w' ⟨rfl, hbw⟩; go_wp2_with fail)
  go_ret
  exact ⟨rfl, hbw⟩

end Go.Proofs.YtnapeengjbjjoaaDoor
