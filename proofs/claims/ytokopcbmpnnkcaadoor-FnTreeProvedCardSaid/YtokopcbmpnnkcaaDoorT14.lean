/- The laws' helpers trBits, trCut, trSame, spec.Size; that errMissing holds an error. Conditions: numbers of records below 2 to the power of 60; trSame of two equal lists. -/
import Derived.Test.YtokopcbmpnnkcaaDoorT13
import Derived.Stop.LaidErr
import Derived.MakeChecks
namespace Go.Proofs.YtokopcbmpnnkcaaDoor
open Go.RowKit
set_option linter.unusedVariables false
attribute [local go_sem] bw_cell

theorem missing_of {W : World} {nm : String} {text : List UInt8} {rest : List (String × DataW Unit)} (hn : nm = "*errors.errorString") (h : laidMet Tryd.prog (("loop.example/pub-g01440/impl.errMissing", .iface nm (.ptr (.agg [.lit (.string text)]))) :: rest) W) :
    ∃ T a, W.cell? ⟨0, 0, none⟩ = some (.iface T (.pointer (some a))) ∧ 0 < W.heap.size := by
  subst hn
  obtain ⟨a, s, hv, _⟩ := laid_sentinel (g := 0) (ti := 43) (tp := 86) (te := 88) (ts := 9) h (by kernel_rfl) (by kernel_rfl) Tryd.underlying43 (fun u h => typeName_ptr_named (nm := "errors.errorString") (by rw [show "*" ++ "errors.errorString" = "*errors.errorString" by decide]; kernel_rfl) (by kernel_rfl) (by decide) u (by rw [show "*" ++ "errors.errorString" = "*errors.errorString" by decide]; exact h)) Tryd.underlying86 Tryd.underlying88 rfl rfl Tryd.underlying9 (by kernel_rfl) (by kernel_rfl)
  have hc := World.var?_cell (g := 0) (by kernel_rfl) hv 0
  exact ⟨_, _, hc, World.block_lt_of_cell? W ⟨_, 0, none⟩ hc⟩
theorem spec_Size (n : Int) (w : World) : Calls Tryd.prog 12 #[.int .i64 n] w fun e w' => e = .returned (.int .i64 (n % 1099511627776)) ∧ w = w' := by
  have HS := Lib.hid (spec_At n 1099511627776 w (by omega) (by omega))
  generalize n % 1099511627776 = m at *
  go_enter Tryd.func12, Tryd.ntmps12
  go_wp2_with fail
  refine HS.out.mono ?_
  rintro e w' ⟨rfl, rfl⟩
  go_wp2_with fail
  go_ret
  exact ⟨rfl, rfl⟩
set_option maxHeartbeats 400000 in
theorem trBits (n : Nat) (w : World) (hb : n ≤ 1152921504606846976) :
    Calls Tryd.prog 35 #[.int .i64 n] w fun e w' => e = .returned (.int .i64 (Tr.bits n)) ∧ w = w' := by
  have hw := Tr.bits_le (n := n) (k := 61) (by omega)
  go_enter Tryd.func35, Tryd.ntmps35
  go_wp2
  go_loop [0, 3] (fun a c => ∃ p k : Nat, a = .int .i64 p ∧ c = .int .i64 k ∧ Hid (k + Tr.bits p = Tr.bits n) ∧ k ≤ Tr.bits n ∧ p ≤ n) (fun a _ => (intOf a).toNat)
  case atStart => exact ⟨n, 0, rfl, rfl, Lib.hid (by omega), by omega, by omega⟩
  case round =>
    obtain ⟨p, k, rfl, rfl, hk, hkl, hpm⟩ := hrel
    by_cases hp : p = 0
    · subst hp
      have HO := Lib.hid Tr.bits_zero
      go_wp2
      go_ret
      exact ⟨ret_int (by have := hk.out; rw [HO.out] at this; omega), rfl⟩
    · have HO := Lib.hid (Tr.bits_pos hp)
      have hp1 : 1 ≤ p := by omega
      have hb0 : decide ((0 : Int) < (p : Int)) = true := by simp; omega
      have hk1 : k + 1 ≤ Tr.bits n := by have := hk.out; rw [HO.out] at this; omega
      clear hp
      go_wp2
      go_round
      case rel => exact ⟨p / 2, k + 1, by go_num, by go_num, Lib.hid (by have := hk.out; rw [HO.out] at this; omega), by omega, by omega⟩
      case measure => simp [intOf]; omega
set_option maxHeartbeats 400000 in
theorem trCut (n : Nat) (w : World) (h2 : 2 ≤ n) (hb : n ≤ 1048576) :
    Calls Tryd.prog 21 #[.int .i64 n] w fun e w' => e = .returned (.int .i64 (Tr.half n : Nat)) ∧ w = w' := by
  have HB := Lib.hid (trBits (n - 1) w (by omega))
  have HC := Lib.hid (Tr.cut_half h2)
  have hw := Tr.bits_le (n := n - 1) (k := 20) (by omega)
  have hw1 : 1 ≤ Tr.bits (n - 1) := by rw [Tr.bits_log (by omega)]; omega
  generalize Tr.bits (n - 1) = m at *
  have hc1 : ((n : Int) - 1) = ((n - 1 : Nat) : Int) := by omega
  go_enter Tryd.func21, Tryd.ntmps21
  go_wp2_with fail
  refine HB.out.mono ?_
  rintro e w' ⟨rfl, rfl⟩
  have hc2 : ((m : Int) - 1) = ((m - 1 : Nat) : Int) := by omega
  go_wp2_with fail
  go_ret
  refine ⟨ret_int ?_, rfl⟩
  rw [← HC.out, wrap64_pow (by omega), pow_int]
set_option maxHeartbeats 1000000 in
theorem trSame_same (ls : List (List Int)) (v u : Value) (w : World) (hv : RowsIn w v ls) (hu : RowsIn w u ls) :
    Calls Tryd.prog 23 #[v, u] w fun e w' => e = .returned (.bool true) ∧ Below w.heap.size w w' := by
  obtain ⟨A, c, rfl, hc1, hc2, hc3⟩ := hv
  obtain ⟨A2, c2, rfl, hd1, hd2, hd3⟩ := hu
  have HC := Lib.hid hc3
  have HD := Lib.hid hd3
  clear hc3 hd3
  have hb0 : ((ls.length : Int) != (ls.length : Int)) = false := by simp
  go_enter Tryd.func23, Tryd.ntmps23
  go_wp2
  clear hb0
  go_loopw [13] (fun i wr => ∃ k : Nat, i = .int .i64 k ∧ k ≤ ls.length ∧ Hid (Below w.heap.size w wr)) (fun i _ => ls.length - (intOf i).toNat)
  case atStart => exact ⟨0, rfl, Nat.zero_le _, Lib.hid (Below.refl _ _)⟩
  case round =>
    obtain ⟨k, rfl, hk, hB⟩ := hrel
    by_cases hlt : k < ls.length
    · obtain ⟨b, off, rfl, hblt, hcell⟩ := HC.out.resolve_left (by omega)
      obtain ⟨b2, off2, rfl, hblt2, hcell2⟩ := HD.out.resolve_left (by omega)
      obtain ⟨x, hx, hxi⟩ := hcell k ls[k] (List.getElem?_eq_getElem hlt)
      obtain ⟨y, hy, hyi⟩ := hcell2 k ls[k] (List.getElem?_eq_getElem hlt)
      have cx : wr.cell? ⟨b, off + k, none⟩ = some x := (hB.out.cell (p := ⟨b, off + k, none⟩) hblt).trans hx
      have cy : wr.cell? ⟨b2, off2 + k, none⟩ = some y := (hB.out.cell (p := ⟨b2, off2 + k, none⟩) hblt2).trans hy
      have hw1 : b < wr.heap.size := Nat.lt_of_lt_of_le hblt hB.out.size
      have hw2 : b2 < wr.heap.size := Nat.lt_of_lt_of_le hblt2 hB.out.size
      have HQ := Lib.hid (fun (p : BW wr) => bytesEqual_same ls[k] ls[k] x y p.val (hxi.below (hB.out.trans (p.bel.mono hB.out.size))) (hyi.below (hB.out.trans (p.bel.mono hB.out.size))) rfl)
      clear hcell hcell2 hx hy hxi hyi
      go_wp2_with fail
      refine wp_region_bw (by kernel_rfl) (by kernel_rfl) ?_
      repeat (go_big_quiet_step (exact bw_same (HQ.out _)))
      refine wpQuiet_nil ?_
      intro wq hw'
      have hbq : Below wr.heap.size wr wq := by obtain ⟨p, rfl⟩ := hw'; exact p.bel
      clear hw'
      have HBQ : Hid (Below w.heap.size w wq) := Lib.hid (hB.out.trans (hbq.mono hB.out.size))
      clear hbq cx cy hw1 hw2
      go_wp2_with fail
      go_roundw
      case rel => exact ⟨k + 1, by go_num, by omega, HBQ⟩
      case measure => simp [intOf]; omega
    · obtain rfl : k = ls.length := by omega
      go_wp2
      go_ret
      exact ⟨rfl, hB.out⟩

end Go.Proofs.YtokopcbmpnnkcaaDoor
