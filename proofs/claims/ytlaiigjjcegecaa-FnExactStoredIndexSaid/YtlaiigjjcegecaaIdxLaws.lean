/- The walks of the laws on where hashes are stored that hash nothing: FnExactStoredIndex, FnExactStoredCount, FnCountGrows: each returns true at every input. No condition. -/
import Derived.Test.YtlaiigjjcegecaaIdxWalks
namespace Go.Proofs.Ytlaiigjjcegecaa
open Go.RowKit

set_option maxHeartbeats 400000 in
theorem walk_FnExactStoredIndex (a b : Int) (w : World) (_ : (Lit.int .i64 a).wf = true) (_ : (Lit.int .i64 b).wf = true) :
    Calls Try.prog 3 #[.int .i64 a, .int .i64 b] w fun e w' => e = .returned (.bool true) ∧ Below w.heap.size w w' := by
  go_enter Try.func3, Try.ntmps3
  go_wp2_with fail
  refine (spec_StoredIndex a b _).mono ?_
  rintro e w' ⟨rfl, rfl⟩
  go_wp2_with fail
  refine (impl_StoredIndex a b _).mono ?_
  rintro e w' ⟨rfl, rfl⟩
  go_wp2
  go_ret
  exact ⟨rfl, Below.refl _ _⟩

set_option maxHeartbeats 400000 in
theorem walk_FnExactStoredCount (a : Int) (w : World) (_ : (Lit.int .i64 a).wf = true) :
    Calls Try.prog 5 #[.int .i64 a] w fun e w' => e = .returned (.bool true) ∧ Below w.heap.size w w' := by
  go_enter Try.func5, Try.ntmps5
  go_wp2_with fail
  refine (spec_StoredCount a _).mono ?_
  rintro e w' ⟨rfl, rfl⟩
  go_wp2_with fail
  refine (impl_StoredCount a _).mono ?_
  rintro e w' ⟨rfl, rfl⟩
  go_wp2
  go_ret
  exact ⟨rfl, Below.refl _ _⟩

set_option maxHeartbeats 400000 in
theorem walk_FnCountGrows (a : Int) (w : World) (_ : (Lit.int .i64 a).wf = true) :
    Calls Try.prog 4 #[.int .i64 a] w fun e w' => e = .returned (.bool true) ∧ Below w.heap.size w w' := by
  have hm := rem_lt a 576460752303423488 (by omega)
  have HA := Lib.hid (rem_eq a 576460752303423488 (by omega))
  generalize rem a 576460752303423488 = m at *
  have h1 : rem ((m : Int) + 1) 1152921504606846976 = m + 1 := rem_self (m + 1) _ (by omega)
  have h2 : rem (m : Int) 1152921504606846976 = m := rem_self m _ (by omega)
  have H1 := Lib.hid h1
  have H2 := Lib.hid h2
  have HS := Lib.hid (Idx.wh_succ m)
  have hw := Idx.wh_le (m + 1)
  have hw' := Idx.wh_le m
  have ho := Idx.ones_le_log (n := m) (k := 61) (by omega)
  clear h1 h2
  go_enter Try.func4, Try.ntmps4
  go_wp2_with fail
  refine (spec_At a 576460752303423488 _ (by omega) (by omega)).mono ?_
  rintro e w' ⟨rfl, rfl⟩
  rw [HA.out]
  go_wp2_with fail
  refine (impl_StoredCount _ _).mono ?_
  rintro e w' ⟨rfl, rfl⟩
  rw [H1.out]
  go_wp2_with fail
  refine (impl_StoredCount _ _).mono ?_
  rintro e w' ⟨rfl, rfl⟩
  rw [H2.out]
  go_wp2_with fail
  refine (trOnes m _ (by omega)).mono ?_
  rintro e w' ⟨rfl, rfl⟩
  go_wp2
  go_ret
  exact ⟨by rw [HS.out]; simp; omega, Below.refl _ _⟩

end Go.Proofs.Ytlaiigjjcegecaa
