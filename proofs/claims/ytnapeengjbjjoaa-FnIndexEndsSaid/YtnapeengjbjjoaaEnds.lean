/- The walk of FnIndexEnds: it returns true at every input, whatever words the table of SHA-256 holds. No condition. -/
import Derived.Test.YtnapeengjbjjoaaSha8
import Derived.Test.YtnapeengjbjjoaaIdxWalks
import Derived.Test.YtnapeengjbjjoaaBwt
namespace Go.Proofs.Ytnapeengjbjjoaa
open Go.RowKit

theorem ends_bound (l n : Nat) (hl : l < 20) (hn : n < 1048576) : (n + 1) * 2 ^ l ≤ 549755813888 :=
  Nat.le_trans (Nat.mul_le_mul (show n + 1 ≤ 2 ^ 20 by omega) (Nat.pow_le_pow_right (by omega) (show l ≤ 19 by omega))) (by decide)
set_option maxHeartbeats 1000000 in
theorem walk_FnIndexEnds (a b c : Int) (w : World) (_ : (Lit.int .i64 a).wf = true) (_ : (Lit.int .i64 b).wf = true) (_ : (Lit.int .i64 c).wf = true) (hsh : w.ShapedOpen Try.prog) :
    Calls Try.prog 4 #[.int .i64 a, .int .i64 b, .int .i64 c] w fun e w' => e = .returned (.bool true) ∧ Below w.heap.size w w' := by
  obtain ⟨ks, hK⟩ := table_of hsh
  have hk0 : 0 < w.heap.size := (Array.getElem?_eq_some_iff.1 hK.2.2).1
  have HT := Lib.hid (fun (p : BW w) => trWorks_any ks p.val (hK.below p.bel hk0))
  clear hsh hK
  have ha := rem_lt a 20 (by omega)
  have HA := Lib.hid (rem_eq a 20 (by omega))
  have hb := rem_lt b 1048576 (by omega)
  have HB := Lib.hid (rem_eq b 1048576 (by omega))
  have hc := rem_lt c 1099511627776 (by omega)
  have HC := Lib.hid (rem_eq c 1099511627776 (by omega))
  generalize rem a 20 = l at *
  generalize rem b 1048576 = n at *
  generalize rem c 1099511627776 = m at *
  have HI := Lib.hid (fun w => impl_StoredIndex l n w)
  rw [rem_self l 31 (by omega), rem_self n 1073741824 (by omega)] at HI
  have HM := Lib.hid (fun w => impl_StoredCount m w)
  rw [rem_self m 1152921504606846976 (by omega)] at HM
  have hE := Idx.idx_lt_count (l := l) (n := n) (m := m)
  have hpow := ends_bound l n (by omega) (by omega)
  have hwr : wrap64 (((n : Int) + 1) * 2 ^ l) = (((n + 1) * 2 ^ l : Nat) : Int) := by
    have e : ((n : Int) + 1) * 2 ^ l = (((n + 1) * 2 ^ l : Nat) : Int) := by push_cast; rfl
    rw [e]; unfold wrap64; omega
  have hidx : Idx.idx l n ≤ 9223372036854775807 := by
    have h1 := Idx.last_eq l n
    have h2 := Idx.wh_le (Idx.last l n)
    unfold Idx.idx; omega
  have hwm := Idx.wh_le m
  generalize (n + 1) * 2 ^ l = X at *
  generalize Idx.idx l n = I at *
  generalize Idx.wh m = M at *
  have hd : (decide (I < M) == decide (X ≤ m)) = true := by simp [hE]
  have HE := Lib.hid hE
  clear hE
  go_enter Try.func4, Try.ntmps4
  go_wp2_with fail
  refine (spec_At a 20 _ (by omega) (by omega)).mono ?_
  rintro e w' ⟨rfl, rfl⟩
  rw [HA.out]
  go_wp2_with fail
  refine (spec_At b 1048576 _ (by omega) (by omega)).mono ?_
  rintro e w' ⟨rfl, rfl⟩
  rw [HB.out]
  go_wp2_with fail
  refine (spec_At c 1099511627776 _ (by omega) (by omega)).mono ?_
  rintro e w' ⟨rfl, rfl⟩
  rw [HC.out]
  go_wp2_with fail
  refine wp_region_bw (by kernel_rfl) (by kernel_rfl) ?_
  repeat (go_big_quiet_step (first | exact bw_same (HI.out _) | exact bw_same (HM.out _) | exact bw_call (HT.out _)))
  refine wpQuiet_nil ?_
  intro _ hw'
  obtain ⟨⟨wq, hbq⟩, rfl⟩ := hw'
  go_wp2
  go_ret
  exact ⟨rfl, hbq⟩

end Go.Proofs.Ytnapeengjbjjoaa
