/- Contracts of the reference's veJoin, veTail, BuildOf, PrereleaseOf, MajorOf, and the walks of the laws that hold the package against them. Condition: the text is no longer than 2 to the power of 20. -/
import Derived.Test.YtpcmdgmbacokfaaSpec5
namespace Go.Proofs.Ytpcmdgmbacokfaa
open Go.RowKit
attribute [local go_sem] app_str

set_option maxHeartbeats 1000000 in
theorem veJoin_any (v : Value) (xs : List (List UInt8)) (y : List UInt8) (w : World) (h : StrsAt w v xs) (hy : y.length ≤ 1) (hl : (xs.map fun x => x.length + 1).sum ≤ 1152921504606846976) :
    Calls Try.prog 41 #[v, str y] w fun e w' => e = .returned (str (Sem.joinBy y xs)) ∧ w = w' := by
  obtain ⟨A, c, rfl, hc, hm, h⟩ := h
  rcases h with h | ⟨b, off, rfl, hlt, hcell⟩
  · subst h
    go_enter Try.func41, Try.ntmps41
    go_wp2
    go_loop [5, 10] (fun o a => o = str [] ∧ a = .int .i64 0) (fun _ _ => 0)
    case atStart => exact ⟨rfl, rfl⟩
    case round =>
      obtain ⟨rfl, rfl⟩ := hrel
      go_wp2
      go_ret
      exact ⟨rfl, rfl⟩
  · have HC := Lib.hid hcell
    clear hcell
    go_enter Try.func41, Try.ntmps41
    go_wp2
    go_loop [5, 10] (fun o a => ∃ k : Nat, a = .int .i64 k ∧ k ≤ xs.length ∧ o = str (Sem.joinBy y (xs.take k))) (fun _ a => xs.length - (intOf a).toNat)
    case atStart => exact ⟨0, rfl, by omega, rfl⟩
    case round =>
      obtain ⟨k, rfl, hkl, rfl⟩ := hrel
      by_cases hk : k < xs.length
      · have hx := HC.out k xs[k] (List.getElem?_eq_getElem hk)
        have e : xs.take (k + 1) = xs.take k ++ [xs[k]] := List.take_succ_eq_append_getElem hk
        have hj : Sem.joinBy y (xs.take (k + 1)) = if xs.take k = [] then xs[k] else Sem.joinBy y (xs.take k) ++ (y ++ xs[k]) := by rw [e, Sem.joinBy_snoc]; simp
        have hlen : (Sem.joinBy y (xs.take k)).length ≤ ((xs.take k).map fun x : List UInt8 => x.length + 1).sum := Sem.joinBy_len y (xs.take k) hy
        have hs1 := @strs_sum_le xs k 1
        have hs2 := @strs_at_le xs k hk 1
        have hne : 0 < k → xs.take k ≠ [] := fun h0 e => by have := congrArg List.length e; rw [List.length_take, List.length_nil] at this; omega
        have he : k = 0 → xs.take k = [] := fun h0 => by rw [h0]; rfl
        generalize xs[k] = x at *
        clear e
        generalize xs.take k = t0 at *
        have HJ := Lib.hid hj
        have HNE := Lib.hid hne
        have HE := Lib.hid he
        have hb : (Sem.joinBy y t0).length ≤ 1152921504606846976 := by omega
        clear hj hne he hlen
        by_cases h0 : 0 < k
        · have hj2 := HJ.out
          rw [if_neg (HNE.out h0)] at hj2
          have HJ2 := Lib.hid hj2
          clear hj2
          go_wp2
          go_round
          case rel => exact ⟨k + 1, by go_num, by omega, by rw [HJ2.out]⟩
          case measure => simp [intOf]; omega
        · have hj2 := HJ.out
          rw [if_pos (HE.out (by omega))] at hj2
          have ht0 := HE.out (by omega)
          have HJ2 := Lib.hid hj2
          have hz : Sem.joinBy y t0 = [] := by rw [ht0]; rfl
          obtain rfl : k = 0 := by omega
          have hx0 : w.cell? ⟨b, off, none⟩ = some (str x) := by simpa using hx
          clear hj2 ht0 hx
          go_wp2
          go_round
          case rel => exact ⟨1, by go_num, by omega, by rw [HJ2.out]⟩
          case measure => simp [intOf]; omega
      · obtain rfl : k = xs.length := by omega
        have ht : xs.take xs.length = xs := List.take_length
        go_wp2
        go_ret
        exact ⟨rfl, rfl⟩

/-- identifiers with a sign ahead, or nothing -/
def tailText (c : List UInt8) (xs : List (List UInt8)) : List UInt8 := if xs = [] then [] else c ++ Sem.joinBy [46] xs
theorem tail_parts {c : UInt8} {t : List UInt8} (h : t = [] ∨ ∃ x, t = c :: x) : tailText [c] (Sem.partsOf t) = t := by
  rcases h with rfl | ⟨x, rfl⟩
  · rfl
  · have e : Sem.partsOf (c :: x) = Sem.ids x := by unfold Sem.partsOf; rw [if_neg (by simp)]; rfl
    unfold tailText
    rw [e, if_neg (Sem.ids_ne _), Sem.join_ids]; rfl
theorem pre_form {l : List UInt8} {v : Sem.Ver} (h : Sem.parse l = some v) : tailText [45] (Sem.partsOf v.pre) = v.pre :=
  tail_parts (by rcases (Sem.good_tail (Sem.parse_iff.1 h).1).1 with e | ⟨b, e, _⟩; exact .inl e; exact .inr ⟨b, e⟩)
theorem build_form {l : List UInt8} {v : Sem.Ver} (h : Sem.parse l = some v) : tailText [43] (Sem.partsOf v.build) = v.build :=
  tail_parts (by rcases (Sem.good_tail (Sem.parse_iff.1 h).1).2 with e | ⟨b, e, _⟩; exact .inl e; exact .inr ⟨b, e⟩)
theorem ids_sum : ∀ l : List UInt8, ((Sem.ids l).map fun x => x.length + 1).sum = l.length + 1
  | [] => rfl
  | c :: r => by
    have ih := ids_sum r
    obtain ⟨x, xs, e⟩ : ∃ x xs, Sem.ids r = x :: xs := List.exists_cons_of_ne_nil (Sem.ids_ne r)
    unfold Sem.ids
    split
    · rw [List.map_cons, List.sum_cons, ih]; simp; omega
    · rw [e] at ih ⊢
      simp only [List.map_cons, List.sum_cons, List.length_cons] at ih ⊢
      omega
theorem parts_sum (t : List UInt8) : ((Sem.partsOf t).map fun x => x.length + 1).sum ≤ t.length + 1 := by
  unfold Sem.partsOf
  split
  · simp
  · rw [ids_sum]; simp
theorem part_len {l : List UInt8} {v : Sem.Ver} (h : Sem.parse l = some v) : v.pre.length ≤ l.length ∧ v.build.length ≤ l.length ∧ v.major.length ≤ l.length ∧ v.minor.length ≤ l.length ∧ v.patch.length ≤ l.length + 1 := by
  obtain ⟨hg, rfl⟩ := Sem.parse_iff.1 h
  obtain ⟨_, _, _, hg⟩ := hg
  unfold Sem.textOf
  rcases hg with ⟨h, _⟩ | ⟨h, h1, h2, h3⟩ | ⟨h, h0, h1, h2, h3⟩
  · rw [h]; simp; omega
  · rw [h, h1, h2, h3]; simp; omega
  · rw [h, h0, h1, h2, h3]; simp

set_option maxHeartbeats 400000 in
theorem veTail_any (c : List UInt8) (v : Value) (xs : List (List UInt8)) (w : World) (h : StrsAt w v xs) (hc : c.length ≤ 1) (hl : (xs.map fun x => x.length + 1).sum ≤ 1152921504606846976) :
    Calls Try.prog 43 #[str c, v] w fun e w' => e = .returned (str (tailText c xs)) ∧ w = w' := by
  have h' := h
  obtain ⟨A, k, rfl, hk, hm, -⟩ := h
  have hlen : (Sem.joinBy [46] xs).length ≤ (xs.map fun x : List UInt8 => x.length + 1).sum := Sem.joinBy_len [46] xs (by simp)
  by_cases he : xs = []
  · subst he
    go_enter Try.func43, Try.ntmps43
    go_wp2
    go_ret
    exact ⟨rfl, rfl⟩
  · have hz : ((xs.length : Int) == 0) = false := by
      cases xs with
      | nil => exact absurd rfl he
      | cons => simp; omega
    have HV : Hid (tailText c xs = c ++ Sem.joinBy [46] xs) := Lib.hid (by unfold tailText; rw [if_neg he])
    have HJ := Lib.hid (veJoin_any _ xs [46] w h' (by simp) hl)
    clear he h'
    go_enter Try.func43, Try.ntmps43
    go_wp2_with (go_at_call 41; refine (HJ.out).mono ?_; rintro e w' ⟨rfl, rfl⟩)
    go_ret
    exact ⟨ret_str HV.out.symm, rfl⟩





end Go.Proofs.Ytpcmdgmbacokfaa
