/- Contracts of VersionsInOrder, LessVersion (the reference's and the thin package's), ByVersion.Less, and of the laws' szStringS, toStringS, eqStringS; the walks of FnExactLessVersion and FnLessOrder. -/
import Derived.Test.YtienkoadkhcghaaSpec12
import Derived.Test.YtienkoadkhcghaaSemWalks8
namespace Go.Proofs.Ytienkoadkhcghaa
open Go.RowKit
attribute [local go_sem] app_str

theorem lin_version : Sem.Lin Sem.cmpVersion := Sem.Lin.congr (Sem.lin_compare.lex Sem.lin_text) (fun _ _ => rfl)
theorem at_plain (i n : Int) (h : 0 < n) : (i.tmod n + n) % n = i % n := by
  rw [Int.add_emod_right, Int.tmod_eq_emod]
  split
  · simp
  · rw [Int.sub_emod]
    have : (n.natAbs : Int) % n = 0 := by rw [Int.natAbs_of_nonneg (by omega)]; simp
    rw [this]; simp
theorem at_plain' (i n : Int) (h : 0 < n) : (i.tmod n + n).tmod n = i % n := by
  have := Int.lt_tmod_of_pos i h
  rw [Int.tmod_eq_emod_of_nonneg (by omega)]
  exact at_plain i n h
/-- the element of a list with an index by its remainder comes before another one -/
def lessAt (xs : List (List UInt8)) (i k : Int) : Bool :=
  match xs[(i % xs.length).toNat]?, xs[(k % xs.length).toNat]? with
  | some a, some b => decide (Sem.cmpVersion a b < 0)
  | _, _ => false
theorem mod_at (xs : List (List UInt8)) (h : xs ≠ []) (i : Int) : ∃ p : Nat, p < xs.length ∧ i % (xs.length : Int) = (p : Int) := by
  have h0 : 0 < xs.length := by cases xs with | nil => exact absurd rfl h | cons => simp
  have h1 := Int.emod_nonneg i (show (xs.length : Int) ≠ 0 by omega)
  have h2 := Int.emod_lt_of_pos i (show 0 < (xs.length : Int) by omega)
  exact ⟨(i % xs.length).toNat, by omega, by omega⟩
theorem lessAt_eq {xs : List (List UInt8)} {i k : Int} {p q : Nat} (hp : p < xs.length) (hq : q < xs.length) (ei : i % (xs.length : Int) = p) (ek : k % (xs.length : Int) = q) : lessAt xs i k = decide (Sem.cmpVersion xs[p] xs[q] < 0) := by
  unfold lessAt
  rw [ei, ek, Int.toNat_natCast, Int.toNat_natCast, List.getElem?_eq_getElem hp, List.getElem?_eq_getElem hq]
theorem lessAt_nil (i k : Int) : lessAt [] i k = false := rfl

theorem text_le (l r : List UInt8) : decide (Sem.cmpText l r ≤ 0) = (Sem.less l r || l == r) := by
  unfold Sem.cmpText
  by_cases h : l = r
  · rw [if_pos h, h]; simp
  · rw [if_neg h]
    cases Sem.less l r <;> simp [h]

set_option maxHeartbeats 400000 in
theorem spec_InOrder (l r : List UInt8) (w : World) (hl : l.length ≤ 1048576) (hr : r.length ≤ 1048576) :
    Calls Try.prog 31 #[str l, str r] w fun e w' => e = .returned (.bool (decide (Sem.cmpVersion l r ≤ 0))) ∧ Below w.heap.size w w' := by
  rcases Int.lt_trichotomy (Sem.compare l r) 0 with hc | hc | hc
  · have HF : Hid (decide (Sem.cmpVersion l r ≤ 0) = true) := Lib.hid (by unfold Sem.cmpVersion; rw [if_pos (by omega)]; simp; omega)
    go_enter Try.func31, Try.ntmps31
    go_wp2_with fail
    refine (spec_CompareVersions l r w hl hr).mono ?_
    rintro e w1 ⟨rfl, hb⟩
    go_wp2
    go_ret
    exact ⟨ret_bool HF.out.symm, hb⟩
  · have HF : Hid (Sem.cmpVersion l r = Sem.cmpText l r) := Lib.hid (by unfold Sem.cmpVersion; rw [if_neg (by omega)])
    have hc2 : (Sem.compare l r == 0) = true := by simp [hc]
    have hc3 : decide (Sem.compare l r < 0) = false := by simp [hc]
    go_enter Try.func31, Try.ntmps31
    go_wp2_with fail
    refine (spec_CompareVersions l r w hl hr).mono ?_
    rintro e w1 ⟨rfl, hb⟩
    go_wp2
    go_ret
    exact ⟨ret_bool (by rw [HF.out, text_le, bytesLess_less]), hb⟩
  · have HF : Hid (decide (Sem.cmpVersion l r ≤ 0) = false) := Lib.hid (by unfold Sem.cmpVersion; rw [if_pos (by omega)]; simp; omega)
    have hc2 : (Sem.compare l r == 0) = false := by rw [beq_eq_false_iff_ne]; omega
    have hc3 : decide (Sem.compare l r < 0) = false := by simp; omega
    go_enter Try.func31, Try.ntmps31
    go_wp2_with fail
    refine (spec_CompareVersions l r w hl hr).mono ?_
    rintro e w1 ⟨rfl, hb⟩
    go_wp2
    go_ret
    exact ⟨ret_bool HF.out.symm, hb⟩

set_option maxHeartbeats 1000000 in
theorem toStringS_any (v : Value) (xs : List (List UInt8)) (w : World) (h : StrsAt w v xs) (hl : xs.length ≤ 1048576) :
    Calls Try.prog 20 #[v] w fun e w' => (∃ v', e = .returned v' ∧ StrsAt w' v' xs) ∧ Below w.heap.size w w' := by
  obtain ⟨A, c, rfl, hc, hm, h⟩ := h
  obtain ⟨i0, hi, hz0, hz1, hz2⟩ := info_parts info_string
  have HA := Lib.hid h
  clear h
  go_enter Try.func20, Try.ntmps20
  go_wp2_with (at_make; refine wpList_make_full w rfl (.tmp 6) (.tmp 6) 22 rfl w.heap.size 9 i0 (str []) 1 Try.underlying22 hi hz0 hz1 .i64 .i64 _ _ xs.length rfl rfl rfl rfl (by rw [hz2]; omega) (by unfold maxLen; omega) (Nat.le_refl _) ?_; intro w1 hown hgrow)
  have hbw : Below w.heap.size w w1 := (Below.refl _ _).grown hgrow (Nat.le_refl _) (fun g hg => by cases hg)
  clear hgrow
  go_wp2_with fail
  go_loopw [4] (fun i wr => ∃ (k : Nat) (ys : List Value), i = .int .i64 k ∧ k ≤ xs.length ∧ wr.ownsRow w.heap.size 9 1 (.slice (some ⟨w.heap.size, 0, none⟩) xs.length xs.length) xs.length ys ∧ Hid (ys.take k = (xs.take k).map str) ∧ Hid (Below w.heap.size w wr)) (fun i _ => xs.length - (intOf i).toNat)
  case atStart => exact ⟨0, _, rfl, by omega, hown, Lib.hid rfl, Lib.hid hbw⟩
  case round =>
    obtain ⟨k, ys, rfl, hk, ho, ht, hb⟩ := hrel
    by_cases hlt : k < xs.length
    · obtain ⟨b, off, rfl, hbl, hx⟩ := strs_at HA.out hlt
      have hx' : wr.cell? ⟨b, off + k, none⟩ = some (str xs[k]) := (hb.out.cell (p := ⟨b, off + k, none⟩) hbl).trans hx
      have hyl : k < ys.length := by have := ho.1; omega
      have hd : wr.cell? ⟨w.heap.size, k, none⟩ = some ys[k] := by rw [ho.cellAt k (by omega), List.getElem?_eq_getElem hyl]
      have hf := ho.frozenAt k
      have hst := (ho.stored k (str xs[k])).1
      have HT : Hid ((ys.set k (str xs[k])).take (k + 1) = (xs.take (k + 1)).map str) := Lib.hid (by
        have e1 : (ys.set k (str xs[k])).take (k + 1) = ys.take k ++ [str xs[k]] := by
          rw [List.take_succ_eq_append_getElem (by simpa using hyl), List.take_set_of_le (Nat.le_refl _)]
          simp
        rw [e1, ht.out, List.take_succ_eq_append_getElem hlt, List.map_append]; rfl)
      have HB : Hid (Below w.heap.size w (wr.setCell ⟨w.heap.size, k, none⟩ (str xs[k]))) := Lib.hid (bl_put hb.out _ _)
      have HST := Lib.hid hst
      clear hst hx ho
      generalize xs[k] = x at *
      generalize ys[k] = y at *
      go_wp2
      go_roundw
      case rel => exact ⟨k + 1, _, by go_num, by omega, HST.out, HT, HB⟩
      case measure => simp [intOf]; omega
    · obtain rfl : k = xs.length := by omega
      go_wp2
      go_ret
      refine ⟨⟨_, rfl, ?_⟩, hb.out⟩
      have e : ys = xs.map str := by
        have := ht.out
        rw [List.take_length, List.take_of_length_le (by have := ho.1; omega)] at this
        exact this
      rw [e] at ho
      exact strs_of_own ho

set_option maxHeartbeats 1000000 in
theorem szStringS_any (v : Value) (xs : List (List UInt8)) (w : World) (h : StrsAt w v xs) (hl : ∀ x ∈ xs, x.length ≤ 1152921504606846976) :
    Calls Try.prog 18 #[v, .int .i64 1048576] w fun e w' => (e = .returned (.int .i64 (-1)) ∨ ∃ q : Int, 0 ≤ q ∧ e = .returned (.int .i64 q) ∧ xs.length ≤ 1048576 ∧ ∀ x ∈ xs, x.length ≤ 1048576) ∧ w = w' := by
  obtain ⟨A, c, rfl, hc, hm, h⟩ := h
  have HA := Lib.hid h
  have HL := Lib.hid hl
  clear h hl
  by_cases hlen : xs.length ≤ 1048576
  · go_enter Try.func18, Try.ntmps18
    go_wp2
    go_loop [1, 5] (fun q i => ∃ (k : Nat) (r : Int), i = .int .i64 k ∧ q = .int .i64 r ∧ 0 ≤ r ∧ r ≤ 1048576 ∧ k ≤ xs.length ∧ Hid (∀ x ∈ xs.take k, x.length ≤ 1048576)) (fun _ i => xs.length - (intOf i).toNat)
    case atStart => exact ⟨0, 1048576 - xs.length, rfl, rfl, by omega, by omega, by omega, Lib.hid (fun x hx => by simp at hx)⟩
    case round =>
      obtain ⟨k, r, rfl, rfl, hr0, hr1, hk, hinv⟩ := hrel
      by_cases hlt : k < xs.length
      · obtain ⟨b, off, rfl, hbl, hx⟩ := strs_at HA.out hlt
        have hxl := HL.out xs[k] (List.getElem_mem hlt)
        have HT : Hid (xs.take (k + 1) = xs.take k ++ [xs[k]]) := Lib.hid (List.take_succ_eq_append_getElem hlt)
        generalize xs[k] = x at *
        by_cases hle : (x.length : Int) ≤ r
        · go_wp2
          go_round
          case rel => exact ⟨k + 1, r - x.length, by go_num, by go_num, by omega, by omega, by omega, Lib.hid (by
            rw [HT.out]; intro y hy
            rcases List.mem_append.1 hy with hy | hy
            · exact hinv.out y hy
            · simp at hy; subst hy; omega)⟩
          case measure => simp [intOf]; omega
        · go_wp2
          go_ret
          exact ⟨.inl rfl, rfl⟩
      · obtain rfl : k = xs.length := by omega
        go_wp2
        go_ret
        exact ⟨.inr ⟨r, hr0, rfl, by have h3 := hinv.out; rw [List.take_length] at h3; exact h3⟩, rfl⟩
  · go_enter Try.func18, Try.ntmps18
    go_wp2
    go_ret
    exact ⟨.inl rfl, rfl⟩

set_option maxHeartbeats 1000000 in
theorem eqStringS_any (v1 v2 : Value) (xs : List (List UInt8)) (w : World) (h1 : StrsAt w v1 xs) (h2 : StrsAt w v2 xs) :
    Calls Try.prog 21 #[v1, v2] w fun e w' => e = .returned (.bool true) ∧ ∃ n, w' = w.drewN n := by
  obtain ⟨A, c, rfl, hc, hm, h1⟩ := h1
  obtain ⟨A', c', rfl, hc', hm', h2⟩ := h2
  have HA := Lib.hid h1
  have HA' := Lib.hid h2
  clear h1 h2
  have hq : ((xs.length : Int) != (xs.length : Int)) = false := by simp
  go_enter Try.func21, Try.ntmps21
  go_wp2
  go_loopw [5] (fun i wr => ∃ k n : Nat, i = .int .i64 k ∧ k ≤ xs.length ∧ wr = w.drewN n) (fun i _ => xs.length - (intOf i).toNat)
  case atStart => exact ⟨0, 0, rfl, by omega, rfl⟩
  case round =>
    obtain ⟨k, n, rfl, hk, rfl⟩ := hrel
    by_cases hlt : k < xs.length
    · obtain ⟨b, off, rfl, hbl, hx⟩ := strs_at HA.out hlt
      obtain ⟨b', off', rfl, hbl', hx'⟩ := strs_at HA'.out hlt
      generalize xs[k] = x at *
      have hxx : (x == x) = true := by simp
      go_wp2_with fail
      go_quiet (fail)
      go_wp2_with fail
      go_roundw
      case rel => exact ⟨k + 1, _, by go_num, by omega, rfl⟩
      case measure => simp [intOf]; omega
    · obtain rfl : k = xs.length := by omega
      go_wp2
      go_ret
      exact ⟨rfl, _, rfl⟩

set_option maxHeartbeats 2000000 in
theorem less_any (v : Value) (xs : List (List UInt8)) (p q : Nat) (w : World) (h : StrsAt w v xs) (hl : ∀ x ∈ xs, x.length ≤ 1125899906842624) (hp : p < xs.length) (hq : q < xs.length) :
    Calls Try.prog 26 #[v, .int .i64 p, .int .i64 q] w fun e w' => e = .returned (.bool (decide (Sem.cmpVersion xs[p] xs[q] < 0))) ∧ Below w.heap.size w w' := by
  obtain ⟨A, c, rfl, hc, hm, h⟩ := h
  rcases h with h | ⟨b, off, rfl, hlt, hcell⟩
  · subst h; simp at hp
  · have hx := hcell p xs[p] (List.getElem?_eq_getElem hp)
    have hy := hcell q xs[q] (List.getElem?_eq_getElem hq)
    have hxl := hl xs[p] (List.getElem_mem hp)
    have hyl := hl xs[q] (List.getElem_mem hq)
    clear hcell hl
    generalize xs[p] = x at *
    generalize xs[q] = y at *
    go_enter Try.func26, Try.ntmps26
    go_wp2_with fail
    go_region_with (go_at_call 34; refine (compareVersion_any x y _ hxl hyl).mono ?_; rintro e w1 ⟨rfl, hb⟩)
    all_goals
      go_wp2
      go_ret
      exact ⟨rfl, bl_next' (bl_drew (Below.refl _ _)) hb⟩


end Go.Proofs.Ytienkoadkhcghaa
