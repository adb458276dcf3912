/- Contracts of LessVersion (the reference's and the thin package's), and the walks of FnExactLessVersion and FnLessOrder. -/
import Derived.Test.YtienkoadkhcghaaSpec13
import Derived.Test.YtienkoadkhcghaaOpen2
namespace Go.Proofs.Ytienkoadkhcghaa
open Go.RowKit Go.ChangeShapes Go.WideShapes
attribute [local go_sem] app_str


set_option maxHeartbeats 2000000 in
theorem impl_LessVersion (v : Value) (xs : List (List UInt8)) (i k : Int) (w : World) (h : StrsAt w v xs) (hl : ∀ x ∈ xs, x.length ≤ 1125899906842624) (hn : xs.length ≤ 1125899906842624) :
    Calls Try.prog 10 #[v, .int .i64 i, .int .i64 k] w fun e w' => e = .returned (.bool (lessAt xs i k)) ∧ Below w.heap.size w w' := by
  have h' := h
  obtain ⟨A, c, rfl, hc, hm, h⟩ := h
  by_cases hne : xs = []
  · subst hne
    go_enter Try.func10, Try.ntmps10
    go_wp2
    go_ret
    exact ⟨rfl, Below.refl _ _⟩
  · obtain ⟨p, hp, ei⟩ := mod_at xs hne i
    obtain ⟨q, hq, ek⟩ := mod_at xs hne k
    have h0 : 0 < (xs.length : Int) := by omega
    have hq0 : ((xs.length : Int) == 0) = false := by rw [beq_eq_false_iff_ne]; omega
    have HF := Lib.hid (lessAt_eq hp hq ei ek)
    have HL := Lib.hid (fun w' (hw : StrsAt w' (.slice A xs.length c) xs) => less_any _ xs p q w' hw hl hp hq)
    have H' := Lib.hid h'
    have hlo := Int.lt_tmod_of_pos i h0
    have hhi := Int.tmod_lt_of_pos i h0
    have hlo' := Int.lt_tmod_of_pos k h0
    have hhi' := Int.tmod_lt_of_pos k h0
    have m1 : (i.tmod xs.length + xs.length) % (xs.length : Int) = p := by rw [at_plain i _ h0, ei]
    have m2 : (k.tmod xs.length + xs.length) % (xs.length : Int) = q := by rw [at_plain k _ h0, ek]
    have m3 : (i.tmod xs.length + xs.length).tmod (xs.length : Int) = p := by rw [at_plain' i _ h0, ei]
    have m4 : (k.tmod xs.length + xs.length).tmod (xs.length : Int) = q := by rw [at_plain' k _ h0, ek]
    have m5 : (i.tmod xs.length) % (xs.length : Int) = p := by rw [← m1, Int.add_emod_right]
    have m6 : (k.tmod xs.length) % (xs.length : Int) = q := by rw [← m2, Int.add_emod_right]
    clear hl hne h h'
    generalize xs[p] = x at *
    generalize xs[q] = y at *
    generalize hN : xs.length = n at *
    clear hN
    have hn0 : ¬ n = 0 := by omega
    have wi : IntKind.i64.wrap (i.tmod n + n) = i.tmod n + n := by simp [IntKind.wrap, IntKind.signed, IntKind.bits]; omega
    have wk : IntKind.i64.wrap (k.tmod n + n) = k.tmod n + n := by simp [IntKind.wrap, IntKind.signed, IntKind.bits]; omega
    go_enter Try.func10, Try.ntmps10
    go_wp2_with fail
    go_region_with (go_at_call 26; refine (HL.out _ H'.out.drew).mono ?_; rintro e w1 ⟨rfl, hb⟩)
    all_goals
      go_wp2
      go_ret
      exact ⟨ret_bool HF.out.symm, bl_next' (bl_drew (Below.refl _ _)) hb⟩

theorem at_any (i n : Int) (w : World) (h0 : 0 < n) (h1 : n ≤ 1152921504606846976) :
    Calls Try.prog 12 #[.int .i64 i, .int .i64 n] w fun e w' => e = .returned (.int .i64 (i % n)) ∧ w = w' := by
  have hlo := Int.lt_tmod_of_pos i h0
  have hhi := Int.tmod_lt_of_pos i h0
  have HP := Lib.hid (at_plain i n h0)
  go_enter Try.func12, Try.ntmps12
  go_wp2
  go_ret
  exact ⟨ret_i64 HP.out, rfl⟩



end Go.Proofs.Ytienkoadkhcghaa
