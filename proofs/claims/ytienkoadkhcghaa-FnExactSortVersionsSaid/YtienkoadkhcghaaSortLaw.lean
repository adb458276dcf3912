/- Sorting texts by version and text, as a plain function, and the plain laws behind FnLessSort, FnSortCanonical, FnMaxSort, FnSortJoined, FnSortSorted, FnSortTurned and FnExactSortVersions. No program is in sight here. -/
import Derived.Test.YtienkoadkhcghaaSemFacts2
namespace Go.Proofs.Ytienkoadkhcghaa.Sem

theorem lin_version : Lin cmpVersion := Lin.congr (lin_compare.lex lin_text) (fun _ _ => rfl)
theorem version_zero {x y : Bs} (h : cmpVersion x y = 0) : x = y := by
  unfold cmpVersion at h
  split at h
  · contradiction
  · exact (text_zero x y).1 h

/-- no later one is less than an earlier one -/
def le (x y : Bs) : Bool := !decide (cmpVersion y x < 0)
theorem le_iff (x y : Bs) : le x y = true ↔ cmpVersion x y ≤ 0 := by
  have := lin_version.swap x y
  unfold le
  simp only [Bool.not_eq_true', decide_eq_false_iff_not]
  omega
theorem le_trans (a b c : Bs) (h1 : le a b = true) (h2 : le b c = true) : le a c = true := by
  rw [le_iff] at *
  have := lin_version.chain a b c h1 h2
  omega
theorem le_total (a b : Bs) : (le a b || le b a) = true := by
  have := lin_version.swap a b
  by_cases h : cmpVersion a b ≤ 0
  · rw [(le_iff a b).2 h]; rfl
  · rw [(le_iff b a).2 (by omega)]; simp
theorem le_antisymm {a b : Bs} (h1 : le a b = true) (h2 : le b a = true) : a = b := by
  rw [le_iff] at h1 h2
  have := lin_version.swap a b
  exact version_zero (by omega)

def sortV (xs : List Bs) : List Bs := xs.mergeSort le
theorem sortV_perm (xs : List Bs) : (sortV xs).Perm xs := List.mergeSort_perm xs le
theorem sortV_sorted (xs : List Bs) : (sortV xs).Pairwise fun a b => le a b = true := List.pairwise_mergeSort le_trans le_total xs
theorem sortV_unique {xs ys : List Bs} (hp : xs.Perm ys) (hs : xs.Pairwise fun a b => le a b = true) : xs = sortV ys :=
  List.Perm.eq_of_pairwise (fun _ _ _ _ h1 h2 => le_antisymm h1 h2) hs (sortV_sorted ys) (hp.trans (sortV_perm ys).symm)
theorem sortV_congr {xs ys : List Bs} (hp : xs.Perm ys) : sortV xs = sortV ys := sortV_unique ((sortV_perm xs).trans hp) (sortV_sorted xs)
theorem sortV_len (xs : List Bs) : (sortV xs).length = xs.length := (sortV_perm xs).length_eq
theorem sortV_mem {xs : List Bs} {x : Bs} : x ∈ sortV xs ↔ x ∈ xs := (sortV_perm xs).mem_iff

-- FnSortTurned
theorem sort_twice (xs : List Bs) : sortV (sortV xs) = sortV xs := sortV_congr (sortV_perm xs)
theorem sort_reverse (xs : List Bs) : sortV xs.reverse = sortV xs := sortV_congr xs.reverse_perm
-- FnSortJoined
theorem sort_joined (a b : List Bs) : sortV (sortV a ++ sortV b) = sortV (a ++ b) := sortV_congr ((sortV_perm a).append (sortV_perm b))
-- FnSortCanonical
theorem le_canon {x y : Bs} (h : le x y = true) : le (canonical x) (canonical y) = true := by
  rw [le_iff] at *
  unfold cmpVersion at *
  rw [compare_canon]
  split at h
  · rename_i hne
    rw [if_pos hne]; exact h
  · rename_i hne
    rw [if_neg hne]
    have : canonical x = canonical y := (compare_zero x y).1 (by omega)
    rw [this, lin_text.self]
    omega
theorem sort_canonical (xs : List Bs) : (sortV xs).map canonical = sortV (xs.map canonical) :=
  sortV_unique ((sortV_perm xs).map canonical) (List.pairwise_map.2 ((sortV_sorted xs).imp le_canon))
-- FnLessSort
theorem sort_two (a b : Bs) : sortV [b, a] = if cmpVersion a b < 0 then [a, b] else [b, a] := by
  by_cases h : cmpVersion a b < 0
  · rw [if_pos h]
    exact (sortV_unique (List.Perm.swap b a []) (by simp; rw [le_iff]; omega)).symm
  · rw [if_neg h]
    have := lin_version.swap a b
    exact (sortV_unique (List.Perm.refl _) (by simp; rw [le_iff]; omega)).symm
-- FnSortSorted
theorem sorted_next {xs : List Bs} {k : Nat} (h : k + 1 < (sortV xs).length) : cmpVersion ((sortV xs)[k]'(by omega)) ((sortV xs)[k + 1]'h) ≤ 0 :=
  (le_iff _ _).1 (List.pairwise_iff_getElem.1 (sortV_sorted xs) k (k + 1) (by omega) h (by omega))
-- FnMaxSort
def maxAll (xs : List Bs) : Bs := xs.foldl maxV []
theorem foldl_snoc (xs : List Bs) (m y : Bs) : (xs ++ [y]).foldl maxV m = maxV (xs.foldl maxV m) y := by simp
theorem nil_least (y : Bs) : compare [] y ≤ 0 := by
  unfold compare
  rw [parse_nil]
  cases parse y <;> simp
/-- what the maximum of all is: the canonical form of nothing or of one of them, and not less than any -/
def IsMax (xs : List Bs) (m : Bs) : Prop := (m = [] ∨ ∃ x ∈ xs, m = canonical x) ∧ ∀ x ∈ xs, 0 ≤ compare m x
theorem canon_nil : canonical [] = [] := rfl
theorem isMax_step {xs : List Bs} {m : Bs} (h : IsMax xs m) (y : Bs) : IsMax (xs ++ [y]) (maxV m y) := by
  obtain ⟨h1, h2⟩ := h
  have hm : canonical m = m := by
    rcases h1 with rfl | ⟨x, _, rfl⟩
    · rfl
    · exact canon_idem x
  refine ⟨?_, ?_⟩
  · rcases max_or m y with e | e
    · rw [e, hm]
      rcases h1 with h | ⟨x, hx, h⟩
      · exact .inl h
      · exact .inr ⟨x, by simp [hx], h⟩
    · exact .inr ⟨y, by simp, e⟩
  · intro x hx
    rcases List.mem_append.1 hx with hx | hx
    · exact ge_trans (max_ge_l m y) (h2 x hx)
    · simp at hx; subst hx
      exact max_ge_r m x
theorem isMax_take (xs : List Bs) : ∀ k, k ≤ xs.length → IsMax (xs.take k) ((xs.take k).foldl maxV [])
  | 0, _ => ⟨.inl rfl, fun x hx => by simp at hx⟩
  | k + 1, h => by
    have e : xs.take (k + 1) = xs.take k ++ [xs[k]] := List.take_succ_eq_append_getElem (by omega)
    rw [e, foldl_snoc]
    exact isMax_step (isMax_take xs k (by omega)) _
theorem isMax_all (xs : List Bs) : IsMax xs (maxAll xs) := by
  have := isMax_take xs xs.length (Nat.le_refl _)
  rw [List.take_length] at this
  exact this
theorem max_last {xs : List Bs} {L : Bs} (hL : L ∈ xs) (h : ∀ x ∈ xs, compare x L ≤ 0) : canonical L = maxAll xs := by
  obtain ⟨h1, h2⟩ := isMax_all xs
  have h3 := h2 L hL
  have h4 : compare (maxAll xs) L ≤ 0 := by
    rcases h1 with e | ⟨x, hx, e⟩
    · rw [e]; exact nil_least L
    · rw [e, compare_canon_l]; exact h x hx
  have h5 : compare (maxAll xs) L = 0 := by omega
  have h6 := (compare_zero _ _).1 h5
  rw [← h6]
  rcases h1 with e | ⟨x, _, e⟩
  · rw [e]; rfl
  · rw [e]; exact canon_idem x
theorem version_compare {x y : Bs} (h : cmpVersion x y ≤ 0) : compare x y ≤ 0 := by
  unfold cmpVersion at h
  split at h
  · exact h
  · omega
theorem sort_last {xs : List Bs} {L : Bs} (h : (sortV xs)[xs.length - 1]? = some L) : canonical L = maxAll xs := by
  have hl := sortV_len xs
  obtain ⟨hk, hL⟩ := List.getElem?_eq_some_iff.1 h
  refine max_last (sortV_mem.1 (by rw [← hL]; exact List.getElem_mem hk)) (fun x hx => ?_)
  obtain ⟨j, hj, rfl⟩ := List.getElem_of_mem (sortV_mem.2 hx)
  refine version_compare ?_
  rcases Nat.lt_or_ge j (xs.length - 1) with hlt | hge
  · rw [← hL]
    exact (le_iff _ _).1 (List.pairwise_iff_getElem.1 (sortV_sorted xs) j (xs.length - 1) hj hk hlt)
  · have e : j = xs.length - 1 := by omega
    subst e
    rw [hL, lin_version.self]
    omega

/-- putting one in behind all that do not come behind it -/
def insertAt (out : List Bs) (v : Bs) (k : Nat) : List Bs := out.take k ++ v :: out.drop k
theorem insert_sorted {out : List Bs} {v : Bs} {k : Nat} (hs : out.Pairwise fun a b => le a b = true) (hk : k ≤ out.length) (h1 : ∀ x ∈ out.drop k, le x v = false) (h2 : ∀ h : 0 < k, le (out[k - 1]'(by omega)) v = true) :
    (insertAt out v k).Pairwise fun a b => le a b = true := by
  have e : out.take k ++ out.drop k = out := List.take_append_drop k out
  rw [← e] at hs
  obtain ⟨p1, p2, p3⟩ := List.pairwise_append.1 hs
  unfold insertAt
  have hv : ∀ x ∈ out.take k, le x v = true := by
    intro x hx
    obtain ⟨j, hj, rfl⟩ := List.getElem_of_mem hx
    have hjk : j < k := by simp at hj; omega
    have h0 : 0 < k := by omega
    rw [List.getElem_take]
    rcases Nat.lt_or_ge j (k - 1) with hlt | hge
    · refine le_trans _ _ _ ?_ (h2 h0)
      rw [e] at hs
      exact List.pairwise_iff_getElem.1 hs j (k - 1) (by omega) (by omega) hlt
    · have : j = k - 1 := by omega
      subst this
      exact h2 h0
  refine List.pairwise_append.2 ⟨p1, List.pairwise_cons.2 ⟨fun x hx => ?_, p2⟩, fun x hx y hy => ?_⟩
  · have := le_total v x
    rw [h1 x hx] at this
    simpa using this
  · rcases List.mem_cons.1 hy with rfl | hy
    · exact hv x hx
    · exact p3 x hx y hy
theorem insert_perm (out : List Bs) (v : Bs) (k : Nat) : (insertAt out v k).Perm (out ++ [v]) := by
  unfold insertAt
  have h1 : (out.take k ++ v :: out.drop k).Perm (v :: (out.take k ++ out.drop k)) := List.perm_middle
  rw [List.take_append_drop] at h1
  exact h1.trans (List.perm_append_singleton v out).symm

end Go.Proofs.Ytienkoadkhcghaa.Sem
