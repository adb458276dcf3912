/- Contracts of semver.Max, compareVersion, strings.Compare and of the thin package's MajorMinorOf, MaxVersion: what each returns, as the plain functions of Sem tell. Condition: the texts are no longer than 2 to the power of 49. -/
import Derived.Test.YtienkoadkhcghaaSemWalks7
import Derived.Lib.Bytealg
import Derived.Laws.Externs
namespace Go.Proofs.Ytienkoadkhcghaa
open Go.RowKit


theorem canonical_len (x : List UInt8) : (Sem.canonical x).length ≤ x.length + 4 := by
  unfold Sem.canonical
  split
  · simp
  · rename_i p h
    have := (Sem.parse_len h).2.2.2.1
    split
    · rw [List.length_take]; omega
    · split
      · rw [List.length_append]; omega
      · omega

theorem bl_next {w w1 w2 : World} (h1 : Below w.heap.size w w1) (h2 : Below w1.heap.size w1 w2) : Below w.heap.size w w2 := h1.trans (h2.mono h1.size)

set_option maxHeartbeats 400000 in
theorem max_any (x y : List UInt8) (w : World) (hx : x.length ≤ 562949953421312) (hy : y.length ≤ 562949953421312) :
    Calls Try.prog 29 #[str x, str y] w fun e w' => e = .returned (str (Sem.maxV x y)) ∧ Below w.heap.size w w' := by
  have hcx := canonical_len x
  have hcy := canonical_len y
  have HM : Hid (Sem.maxV x y = if Sem.compare (Sem.canonical x) (Sem.canonical y) > 0 then Sem.canonical x else Sem.canonical y) := Lib.hid rfl
  go_enter Try.func29, Try.ntmps29
  go_wp2_with fail
  refine (canonical_any x _ (by omega)).mono ?_
  rintro e w1 ⟨rfl, hb1⟩
  go_wp2_with fail
  refine (canonical_any y _ (by omega)).mono ?_
  rintro e w2 ⟨rfl, hb2⟩
  generalize Sem.canonical x = cx at *
  generalize Sem.canonical y = cy at *
  go_wp2_with fail
  refine (compare_any cx cy _ (by omega) (by omega)).mono ?_
  rintro e w3 ⟨rfl, hb3⟩
  by_cases hc : 0 < Sem.compare cx cy
  · go_wp2_with fail
    go_ret
    exact ⟨ret_str (by rw [HM.out, if_pos hc]), bl_next (bl_next hb1 hb2) hb3⟩
  · go_wp2_with fail
    go_ret
    exact ⟨ret_str (by rw [HM.out, if_neg (by omega)]), bl_next (bl_next hb1 hb2) hb3⟩

set_option maxHeartbeats 400000 in
theorem impl_MaxVersion (x y : List UInt8) (w : World) (hx : x.length ≤ 562949953421312) (hy : y.length ≤ 562949953421312) :
    Calls Try.prog 16 #[str x, str y] w fun e w' => e = .returned (str (Sem.maxV x y)) ∧ Below w.heap.size w w' := by
  go_enter Try.func16, Try.ntmps16
  go_wp2_with fail
  refine (max_any x y _ hx hy).mono ?_
  rintro e w' ⟨rfl, hb⟩
  go_wp2_with fail
  go_ret
  exact ⟨rfl, hb⟩

theorem cmpText_eq : ∀ x y : List UInt8, Lib.compareBytes x y = Sem.cmpText x y
  | [], [] => by simp [Lib.compareBytes, Sem.cmpText]
  | [], _ :: _ => by simp [Lib.compareBytes, Sem.cmpText, Sem.less]
  | _ :: _, [] => by simp [Lib.compareBytes, Sem.cmpText, Sem.less]
  | a :: x, b :: y => by
    have ih := cmpText_eq x y
    rw [Lib.compareBytes, ih]
    unfold Sem.cmpText
    rw [Sem.less]
    by_cases h1 : a < b
    · have : ¬ a = b := fun e => by rw [e] at h1; exact absurd h1 (UInt8.lt_irrefl _)
      simp [h1, this]
    · by_cases h2 : b < a
      · have : ¬ a = b := fun e => by rw [e] at h2; exact absurd h2 (UInt8.lt_irrefl _)
        simp [h1, h2, this]
      · have : a = b := UInt8.le_antisymm (UInt8.not_lt.1 h2) (UInt8.not_lt.1 h1)
        subst this
        simp

set_option maxHeartbeats 400000 in
theorem strings_Compare (x y : List UInt8) (w : World) :
    Calls Try.prog 41 #[str x, str y] w fun e w' => e = .returned (.int .i64 (Sem.cmpText x y)) ∧ w = w' := by
  have HC := Lib.hid (cmpText_eq x y)
  go_enter Try.func41, Try.ntmps41
  go_wp2
  rw [run_callFunc_extern Try.func72 (by kernel_rfl) (by kernel_rfl) (by kernel_rfl) (e := Extern.BytealgCompare.compare) (by kernel_rfl), Lib.run_compareString]
  simp only [Result.andThen]
  rw [Oper.upon_value]
  go_wp2
  go_ret
  exact ⟨ret_int' HC.out, rfl⟩

set_option maxHeartbeats 400000 in
theorem compareVersion_any (x y : List UInt8) (w : World) (hx : x.length ≤ 1125899906842624) (hy : y.length ≤ 1125899906842624) :
    Calls Try.prog 34 #[str x, str y] w fun e w' => e = .returned (.int .i64 (Sem.cmpVersion x y)) ∧ Below w.heap.size w w' := by
  go_enter Try.func34, Try.ntmps34
  go_wp2_with fail
  refine (compare_any x y _ hx hy).mono ?_
  rintro e w1 ⟨rfl, hb1⟩
  by_cases hc : Sem.compare x y = 0
  · have hcb := cmp_zero hc
    have HC := Lib.hid hc
    clear hc
    go_wp2_with (go_at_call 41; refine (strings_Compare x y _).mono ?_; rintro e w' ⟨rfl, rfl⟩)
    go_ret
    exact ⟨ret_int' (by unfold Sem.cmpVersion; simp [HC.out]), hb1⟩
  · have hcb := cmp_nz hc
    have HC := Lib.hid hc
    clear hc
    go_wp2_with fail
    go_ret
    exact ⟨ret_int' (by unfold Sem.cmpVersion; simp [HC.out]), hb1⟩

end Go.Proofs.Ytienkoadkhcghaa
