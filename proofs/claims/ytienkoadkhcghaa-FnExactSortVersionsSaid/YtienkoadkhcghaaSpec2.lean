/- Contracts of the reference's veFirst and veSplit. Condition: the text is no longer than 2 to the power of 40. -/
import Derived.Test.YtienkoadkhcghaaSpec1
import Derived.Maps.AppendAt
import Derived.OwnWalk
import Derived.Deep.AppendLies
namespace Go.Proofs.Ytienkoadkhcghaa
open Go.RowKit
attribute [local go_sem] app_str

theorem ret_i64 {a b : Int} (h : a = b) : Ending.returned (.int .i64 a) = .returned (.int .i64 b) := by rw [h]
namespace Sem
theorem ids_nodot : ∀ p : Bs, (∀ c ∈ p, c ≠ 46) → ids p = [p]
  | [], _ => rfl
  | c :: r, h => by
    have hc : c ≠ 46 := h c (by simp)
    unfold ids
    rw [if_neg hc, ids_nodot r (fun d hd => h d (by simp [hd]))]
theorem ids_dot : ∀ (p r : Bs), (∀ c ∈ p, c ≠ 46) → ids (p ++ 46 :: r) = p :: ids r
  | [], r, _ => by simp [ids]
  | c :: p, r, h => by
    have hc : c ≠ 46 := h c (by simp)
    rw [List.cons_append, ids, if_neg hc, ids_dot p r (fun d hd => h d (by simp [hd]))]

/-- the length of the beginning without a byte -/
def firstOf (l : Bs) (b : UInt8) : Nat := (l.takeWhile (· != b)).length
theorem takeWhile_take (l : Bs) (p : UInt8 → Bool) : ∀ k : Nat, k < l.length → (l.take k).all p = true → (∀ h : k < l.length, p l[k] = false) → l.takeWhile p = l.take k := by
  intro k hk hall hf
  have e : l = l.take k ++ l.drop k := (List.take_append_drop k l).symm
  have := (takeWhile_split (p := p) (t := l.take k) (r := l.drop k) hall (fun c hc => by
    rw [List.head?_drop, List.getElem?_eq_getElem hk] at hc
    cases hc
    exact hf hk)).1
  rw [← e] at this
  exact this
end Sem

set_option maxHeartbeats 400000 in
theorem veFirst_any (l : List UInt8) (b : UInt8) (w : World) (hl : l.length ≤ 1152921504606846976) :
    Calls Try.prog 66 #[str l, .int .u8 b.toNat] w fun e w' => e = .returned (.int .i64 (Sem.firstOf l b)) ∧ w = w' := by
  have hb := get_bl l
  go_enter Try.func66, Try.ntmps66
  go_wp2
  go_loop [8] (fun a => ∃ k : Nat, a = .int .i64 k ∧ k ≤ l.length ∧ Hid ((l.take k).all (· != b) = true)) (fun a => l.length - (intOf a).toNat)
  case atStart => exact ⟨0, rfl, by omega, Lib.hid (by simp)⟩
  case round =>
    obtain ⟨k, rfl, hkl, hinv⟩ := hrel
    have hlo := Sem.bt_lo l k
    have hhi := Sem.bt_hi l k
    by_cases hlt : k < l.length
    · have hbt : Sem.bt l k = ((l[k]).toNat : Int) := by simp [Sem.bt, hlt]
      by_cases he : l[k] = b
      · have h1 : (Sem.bt l k == (b.toNat : Int)) = true := by rw [hbt, he]; simp
        have HS : Hid (Sem.firstOf l b = k) := Lib.hid (by
          unfold Sem.firstOf
          rw [Sem.takeWhile_take l _ k hlt hinv.out (fun _ => by simp [he]), List.length_take]; omega)
        clear hbt
        go_wp2
        go_ret
        exact ⟨ret_i64 (by rw [HS.out]), rfl⟩
      · have h1 : (Sem.bt l k == (b.toNat : Int)) = false := by
          rw [hbt]; simp only [beq_eq_false_iff_ne, ne_eq]; intro e; exact he (UInt8.toNat_inj.1 (by omega))
        have HS : Hid ((l.take (k + 1)).all (· != b) = true) := Lib.hid (by rw [Sem.all_take_succ _ _ hlt, hinv.out]; simp [he])
        clear hbt
        go_wp2
        go_round
        case rel => exact ⟨k + 1, by go_num, by omega, HS⟩
        case measure => simp [intOf]; omega
    · obtain rfl : k = l.length := by omega
      have HS : Hid (Sem.firstOf l b = l.length) := Lib.hid (by
        have := hinv.out; rw [List.take_length] at this
        have e := (Sem.takeWhile_split (p := fun c => c != b) (t := l) (r := []) this (fun c hc => by cases hc)).1
        unfold Sem.firstOf
        rw [List.append_nil] at e
        rw [e])
      go_wp2
      go_ret
      exact ⟨ret_i64 (by rw [HS.out]), rfl⟩

/-- a slice of the call's own that holds texts reads as them -/
theorem strs_of_own {w : World} {base : Nat} {v : Value} {xs : List (List UInt8)} (h : w.ownsRow base 9 1 v xs.length (xs.map str)) : StrsAt w v xs := by
  rcases Nat.eq_zero_or_pos xs.length with h0 | h0
  · have hx : xs = [] := List.eq_nil_of_length_eq_zero h0
    subst hx
    rcases h.2 with ⟨rfl, _⟩ | ⟨g, cap, cur, rfl, _, _, hnc, hcm, _⟩
    · exact ⟨none, 0, rfl, Nat.le_refl _, by omega, .inl rfl⟩
    · exact ⟨_, cap, rfl, hnc, by simp only [maxLen] at hcm; omega, .inl rfl⟩
  · obtain ⟨g, cap, hv, _, hlt⟩ := h.form h0
    subst hv
    have hcap := h.2
    rcases hcap with ⟨e, _⟩ | ⟨g', cap', cur, e, _, _, hnc, hcm, _⟩
    · cases e
    · cases e
      refine ⟨_, cap, rfl, hnc, by simp only [maxLen] at hcm; omega, .inr ⟨g, 0, rfl, hlt, fun k u hu => ?_⟩⟩
      have := h.cells (g := g) rfl k (str u) (by rw [List.getElem?_map, hu]; rfl)
      have e : (⟨g, 0, none⟩ : Addr).add k = ⟨g, 0 + k, none⟩ := by unfold Addr.add; split <;> simp_all
      rw [e] at this
      exact this

theorem info_string : (Try.prog.info? 9).map (fun i => (i.zero, i.size, i.bytes)) = some (some (str []), 1, 16) := by kernel_rfl
theorem str_one (x : List UInt8) : ∀ u ∈ [str x], u.oneCell' = true := by intro u hu; simp at hu; subst hu; rfl

theorem one_string (b : ByteArray) : ∀ u ∈ [Value.string b], u.oneCell' = true := by intro u hu; simp at hu; subst hu; rfl
theorem own_base {w : World} {base size n : Nat} {e : TypeId} {v : Value} {xs : List Value} (h : w.ownsRow base e size v n xs) : ∀ g, v.ownBlock = some g → base ≤ g := by
  intro g hg
  rcases h.2 with ⟨rfl, _⟩ | ⟨g', cap, cur, rfl, hb, _⟩
  · cases hg
  · simp [Value.ownBlock] at hg; omega
theorem own_empty (w : World) : (w.alloc (Obj.cells #[] 9)).ownsRow w.heap.size 9 1 (.slice (some ⟨w.heap.size, 0, none⟩) 0 0) ([] : List (List UInt8)).length (([] : List (List UInt8)).map str) :=
  ⟨rfl, .inr ⟨w.heap.size, 0, #[], rfl, Nat.le_refl _, heap_alloc_new w _, Nat.le_refl _, by simp [maxLen], rfl, rfl⟩⟩
theorem own_snoc {w : World} {base : Nat} {v : Value} {xs : List (List UInt8)} {x : List UInt8} (h : w.ownsRow base 9 1 v (xs.length + 1) (xs.map str ++ [str x])) : w.ownsRow base 9 1 v (xs ++ [x]).length ((xs ++ [x]).map str) := by
  rw [List.length_append, List.map_append]; exact h
theorem split_step {l : List UInt8} {xs : List (List UInt8)} {k j : Nat} (hlt : k < l.length) (hjk : j ≤ k) (he : l[k] = 46) (hids : Sem.ids l = xs ++ Sem.ids (l.drop j)) (hno : ∀ c ∈ (l.drop j).take (k - j), c ≠ 46) :
    Sem.ids l = (xs ++ [(l.drop j).take (k - j)]) ++ Sem.ids (l.drop (k + 1)) := by
  have e : l.drop j = (l.drop j).take (k - j) ++ 46 :: l.drop (k + 1) := by
    have h1 := (List.take_append_drop (k - j) (l.drop j)).symm
    rw [List.drop_drop, show j + (k - j) = k by omega, List.drop_eq_getElem_cons hlt, he] at h1
    exact h1
  rw [hids]
  conv => lhs; rw [e]
  rw [Sem.ids_dot _ _ hno]
  simp
theorem split_next {l : List UInt8} {k j : Nat} (hlt : k < l.length) (hjk : j ≤ k) (he : ¬ l[k] = 46) (hno : ∀ c ∈ (l.drop j).take (k - j), c ≠ 46) : ∀ c ∈ (l.drop j).take (k + 1 - j), c ≠ 46 := by
  have h : k - j < (l.drop j).length := by rw [List.length_drop]; omega
  rw [show k + 1 - j = (k - j) + 1 by omega, List.take_succ_eq_append_getElem h]
  intro c hc
  rcases List.mem_append.1 hc with hc | hc
  · exact hno c hc
  · simp only [List.mem_singleton, List.getElem_drop] at hc
    have e : j + (k - j) = k := by omega
    simp only [e] at hc
    rw [hc]; exact he
theorem split_end {l : List UInt8} {xs : List (List UInt8)} {j : Nat} (_ : j ≤ l.length) (hids : Sem.ids l = xs ++ Sem.ids (l.drop j)) (hno : ∀ c ∈ (l.drop j).take (l.length - j), c ≠ 46) : Sem.ids l = xs ++ [l.drop j] := by
  rw [List.take_of_length_le (by simp)] at hno
  rw [hids, Sem.ids_nodot _ hno]

set_option maxHeartbeats 1000000 in
theorem veSplit_any (l : List UInt8) (w : World) (hl : l.length ≤ 1048576) :
    Calls Try.prog 67 #[str l, .int .u8 46] w fun e w' => (∃ v, e = .returned v ∧ StrsAt w' v (Sem.ids l) ∧ ∀ g, v.ownBlock = some g → w.heap.size ≤ g) ∧ Below w.heap.size w w' := by
  have hb := get_bl l
  obtain ⟨i0, hi, hz0, hz1, hz2⟩ := info_parts info_string
  go_enter Try.func67, Try.ntmps67
  go_wp2
  go_loopw [5, 6, 11] (fun v f i wr => ∃ (xs : List (List UInt8)) (k j : Nat), i = .int .i64 k ∧ f = .int .i64 j ∧ j ≤ k ∧ k ≤ l.length ∧ xs.length ≤ k ∧ wr.ownsRow w.heap.size 9 1 v xs.length (xs.map str) ∧ Below w.heap.size w wr ∧ Hid (Sem.ids l = xs ++ Sem.ids (l.drop j)) ∧ Hid (∀ c ∈ (l.drop j).take (k - j), c ≠ 46)) (fun _ _ i _ => l.length - (intOf i).toNat)
  case atStart => exact ⟨[], 0, 0, rfl, rfl, by omega, by omega, by simp, own_empty w, bl_new w _, Lib.hid (by simp), Lib.hid (by simp)⟩
  case round =>
    obtain ⟨xs, k, j, rfl, rfl, hjk, hkl, hxk, hown, hbw, hids, hno⟩ := hrel
    have hlo := Sem.bt_lo l k
    have hhi := Sem.bt_hi l k
    have hsz := hbw.size
    by_cases hlt : k < l.length
    · have hbt : Sem.bt l k = ((l[k]).toNat : Int) := by simp [Sem.bt, hlt]
      by_cases he : l[k] = 46
      · have h1 : (Sem.bt l k == 46) = true := by rw [hbt, he]; rfl
        have HS := Lib.hid (split_step hlt hjk he hids.out hno.out)
        clear hbt he
        go_wp2_with (at_builtin; refine wpList_append_own_at _ rfl _ _ 22 rfl w.heap.size 9 i0 (str []) 1 16 Try.underlying22 hi hz0 hz1 hz2 rfl (by decide) _ _ _ rfl (hown.alloc _) ⟨wr.heap.size, 0, none⟩ 1 1 [Value.string ((ByteArray.mk l.toArray).extract j k)] rfl rfl (cell_one_new _ _ _) (one_string _) (by unfold maxLen; omega) (by omega) (by simp; omega) ?_; intro v' w1 hown' hgrow hnil hloc)
        have hbw' := (hbw.alloc hsz (Obj.cells #[Value.string ((ByteArray.mk l.toArray).extract j k)] 9)).grown hgrow (by simp; omega) (own_base hown)
        rw [ext_str] at hown'
        have hown2 := own_snoc hown'
        clear hown' hgrow hnil hloc hown hbw
        go_wp2
        go_roundw
        case rel => exact ⟨xs ++ [(l.drop j).take (k - j)], k + 1, k + 1, by go_num, by go_num, by omega, by omega, by simp; omega, hown2, hbw', Lib.hid HS.out, Lib.hid (by simp)⟩
        case measure => simp [intOf]; omega
      · have h1 : (Sem.bt l k == 46) = false := by
          rw [hbt]; simp only [beq_eq_false_iff_ne, ne_eq]; intro e; exact he (UInt8.toNat_inj.1 (by simp; omega))
        have HS := Lib.hid (split_next hlt hjk he hno.out)
        clear hbt he
        go_wp2
        go_roundw
        case rel => exact ⟨xs, k + 1, j, by go_num, rfl, by omega, by omega, by omega, hown, hbw, hids, HS⟩
        case measure => simp [intOf]; omega
    · obtain rfl : k = l.length := by omega
      have HS := Lib.hid (split_end hjk hids.out hno.out)
      go_wp2_with (at_builtin; refine wpList_append_own_at _ rfl _ _ 22 rfl w.heap.size 9 i0 (str []) 1 16 Try.underlying22 hi hz0 hz1 hz2 rfl (by decide) _ _ _ rfl (hown.alloc _) ⟨wr.heap.size, 0, none⟩ 1 1 [Value.string ((ByteArray.mk l.toArray).extract j l.length)] rfl rfl (cell_one_new _ _ _) (one_string _) (by unfold maxLen; omega) (by omega) (by simp; omega) ?_; intro v' w1 hown' hgrow hnil hloc)
      have hbw' := (hbw.alloc hsz (Obj.cells #[Value.string ((ByteArray.mk l.toArray).extract j l.length)] 9)).grown hgrow (by simp; omega) (own_base hown)
      rw [ext_str, List.take_of_length_le (by simp)] at hown'
      have hown2 := own_snoc hown'
      clear hown' hgrow hnil hloc hown hbw
      go_wp2
      go_ret
      exact ⟨⟨_, rfl, by rw [HS.out]; exact strs_of_own hown2, own_base hown2⟩, hbw'⟩

end Go.Proofs.Ytienkoadkhcghaa
