/- Plain laws of the trees of a log: over the hashes of the subtrees of records (f) the tree's hash is that of RFC 6962, the proofs are those of the paths, and they are accepted; what is stored for the records are the hashes of their subtrees. No program is in sight here. No condition. -/
import Derived.Test.YtokopcbmpnnkcaaDoorTree
namespace Go.Proofs.YtokopcbmpnnkcaaDoor.Tr
set_option linter.unusedVariables false
section
variable {α : Type} (nh : α → α → α) (f : Nat → α)
/-- the hash of a whole subtree -/
def R : Nat → Nat → α
  | 0, n => f n
  | l + 1, n => nh (R l (2 * n)) (R l (2 * n + 1))
/-- the hash of the records from lo on, d of them -/
def T (lo d : Nat) : α := if h : d ≤ 1 then f lo else nh (T lo (half d)) (T (lo + half d) (d - half d))
  termination_by d
  decreasing_by
    · exact half_lt (by omega)
    · have := half_pos d; omega
theorem T_one {lo d : Nat} (h : d ≤ 1) : T nh f lo d = f lo := by rw [T]; rw [dif_pos h]
theorem T_two {lo d : Nat} (h : 2 ≤ d) : T nh f lo d = nh (T nh f lo (half d)) (T nh f (lo + half d) (d - half d)) := by rw [T]; rw [dif_neg (by omega)]
theorem log_of {l d : Nat} (h1 : 2 ^ l ≤ d) (h2 : d < 2 ^ (l + 1)) : d.log2 = l := by
  have h0 : d ≠ 0 := by have := two_pos l; omega
  have h3 := (Nat.log2_lt h0).2 h2
  have h4 := (Nat.le_log2 h0).2 h1
  omega
theorem half_of {l d : Nat} (h1 : 2 ^ l < d) (h2 : d ≤ 2 ^ (l + 1)) : half d = 2 ^ l := by
  unfold half; rw [log_of (l := l) (by omega) (by omega)]
theorem log_pow (l : Nat) : (2 ^ l).log2 = l := log_of (Nat.le_refl _) (by rw [Nat.pow_succ]; have := two_pos l; omega)
theorem T_pow (l n : Nat) : T nh f (n * 2 ^ l) (2 ^ l) = R nh f l n := by
  induction l generalizing n with
  | zero => rw [T_one _ _ (by simp)]; simp [R]
  | succ l ih =>
    have h := two_pos l
    have hh : half (2 ^ (l + 1)) = 2 ^ l := half_of (by rw [Nat.pow_succ]; omega) (Nat.le_refl _)
    rw [T_two _ _ (by rw [Nat.pow_succ]; omega), hh, R, ← ih, ← ih]
    congr 1
    · congr 1; rw [Nat.pow_succ, Nat.mul_comm (2 ^ l), ← Nat.mul_assoc, Nat.mul_comm n]
    · have e : n * 2 ^ (l + 1) + 2 ^ l = (2 * n + 1) * 2 ^ l := by rw [Nat.pow_succ, Nat.add_mul, Nat.one_mul, Nat.mul_comm (2 ^ l), ← Nat.mul_assoc, Nat.mul_comm n]
      have e2 : 2 ^ (l + 1) - 2 ^ l = 2 ^ l := by rw [Nat.pow_succ]; omega
      rw [e, e2]
theorem T_at {lo l : Nat} (h : 2 ^ l ∣ lo) : T nh f lo (2 ^ l) = R nh f l (lo / 2 ^ l) := by rw [← T_pow, Nat.div_mul_cancel h]
abbrev Rc (c : Nat × Nat) : α := R nh f c.1 c.2
theorem parts_ne {lo d : Nat} (h : d ≠ 0) : parts lo d ≠ [] := by rw [parts_pos _ h]; simp
/-- the hash of a tree out of its whole subtrees -/
theorem fold_parts [Inhabited α] {lo d : Nat} (h : Al lo d) (h0 : d ≠ 0) : fold1 nh ((parts lo d).map (Rc nh f)) = T nh f lo d := by
  induction d using Nat.strongRecOn generalizing lo with
  | ind d ih =>
    have h1 := log_le h0
    have h2 := lt_log d
    have hp := two_pos d.log2
    have hd := h.log_dvd h0
    have hT := T_at nh f hd
    have hnext := h.next h0
    rw [parts_pos _ h0]
    generalize hl : d.log2 = l at *
    by_cases he : d = 2 ^ l
    · subst he
      rw [Nat.sub_self, parts_zero]
      exact hT.symm
    · have hh : half d = 2 ^ l := half_of (by omega) (by rw [Nat.pow_succ]; omega)
      have hne : d - 2 ^ l ≠ 0 := by omega
      rw [List.map_cons, fold1_cons _ _ (by simp [parts_ne hne]), ih _ (by omega) hnext hne, T_two nh f (lo := lo) (d := d) (by omega), hh, hT]
theorem sub_parts [Inhabited α] {lo d : Nat} (h : Al lo d) (h0 : d ≠ 0) (rest : List α) : sub nh lo d ((parts lo d).map (Rc nh f) ++ rest) = (T nh f lo d, rest) := by
  unfold sub
  rw [← fold_parts nh f h h0]
  congr 1
  · rw [List.take_append_of_le_length (by simp), List.take_of_length_le (by simp)]
  · rw [List.drop_append_of_le_length (by simp), List.drop_eq_nil_of_le (by simp)]; rfl

/-- the hashes beside the path to a record -/
def LP (lo d n : Nat) : List α :=
  if h : d ≤ 1 then [] else if n < lo + half d then LP lo (half d) n ++ [T nh f (lo + half d) (d - half d)] else LP (lo + half d) (d - half d) n ++ [T nh f lo (half d)]
  termination_by d
  decreasing_by
    · exact half_lt (by omega)
    · have := half_pos d; omega
theorem LP_one {lo d n : Nat} (h : d ≤ 1) : LP nh f lo d n = [] := by rw [LP]; rw [dif_pos h]
theorem LP_left {lo d n : Nat} (h : 2 ≤ d) (hn : n < lo + half d) : LP nh f lo d n = LP nh f lo (half d) n ++ [T nh f (lo + half d) (d - half d)] := by
  rw [LP]; rw [dif_neg (by omega), if_pos hn]
theorem LP_right {lo d n : Nat} (h : 2 ≤ d) (hn : ¬ n < lo + half d) : LP nh f lo d n = LP nh f (lo + half d) (d - half d) n ++ [T nh f lo (half d)] := by
  rw [LP]; rw [dif_neg (by omega), if_neg hn]
theorem leafPf_eq [Inhabited α] {lo d n : Nat} (h : Al lo d) (rest : List α) : leafPf nh lo d n ((leafIx lo d n).map (Rc nh f) ++ rest) = (LP nh f lo d n, rest) := by
  induction d using Nat.strongRecOn generalizing lo rest with
  | ind d ih =>
    by_cases h1 : d ≤ 1
    · rw [leafPf_one _ h1, leafIx_one h1, LP_one _ _ h1]; rfl
    · have hp := half_pos d
      have hl := half_lt (d := d) (by omega)
      by_cases hn : n < lo + half d
      · rw [leafPf_left _ (by omega) hn, leafIx_left (by omega) hn, LP_left _ _ (by omega) hn, List.map_append, List.append_assoc, ih _ hl (h.left (by omega)), sub_parts nh f (h.right (by omega)) (by omega)]
      · rw [leafPf_right _ (by omega) hn, leafIx_right (by omega) hn, LP_right _ _ (by omega) hn, List.map_append, List.append_assoc, sub_parts nh f (h.left (by omega)) (by omega), ih _ (show d - half d < d by omega) (h.right (by omega))]
theorem run_LP [Inhabited α] {lo d n : Nat} (h1 : lo ≤ n) (h2 : n < lo + d) : runRec nh (LP nh f lo d n) lo d n (f n) = some (T nh f lo d) := by
  induction d using Nat.strongRecOn generalizing lo with
  | ind d ih =>
    by_cases h : d ≤ 1
    · obtain rfl : lo = n := by omega
      rw [LP_one _ _ h, runRec_one _ h, T_one _ _ h, if_pos rfl]
    · have hp := half_pos d
      have hl := half_lt (d := d) (by omega)
      rw [T_two _ _ (show 2 ≤ d by omega)]
      by_cases hn : n < lo + half d
      · rw [LP_left _ _ (by omega) hn, runRec_left _ (by omega) hn, ih _ hl h1 hn]; rfl
      · rw [LP_right _ _ (by omega) hn, runRec_right _ (by omega) hn, ih _ (show d - half d < d by omega) (by omega) (by omega)]; rfl

/-- the hashes that show that a tree begins with its first n records -/
def TP (lo d n : Nat) : List α :=
  if h : n = lo + d ∨ d ≤ 1 then (if lo = 0 then [] else [T nh f lo d]) else
  if n ≤ lo + half d then TP lo (half d) n ++ [T nh f (lo + half d) (d - half d)] else TP (lo + half d) (d - half d) n ++ [T nh f lo (half d)]
  termination_by d
  decreasing_by
    · exact half_lt (by omega)
    · have := half_pos d; omega
theorem TP_self {lo d n : Nat} (h : n = lo + d) : TP nh f lo d n = if lo = 0 then [] else [T nh f lo d] := by rw [TP]; rw [dif_pos (.inl h)]
theorem TP_left {lo d n : Nat} (h : 2 ≤ d) (h0 : n ≠ lo + d) (hn : n ≤ lo + half d) : TP nh f lo d n = TP nh f lo (half d) n ++ [T nh f (lo + half d) (d - half d)] := by
  rw [TP]; rw [dif_neg (by omega), if_pos hn]
theorem TP_right {lo d n : Nat} (h : 2 ≤ d) (h0 : n ≠ lo + d) (hn : ¬ n ≤ lo + half d) : TP nh f lo d n = TP nh f (lo + half d) (d - half d) n ++ [T nh f lo (half d)] := by
  rw [TP]; rw [dif_neg (by omega), if_neg hn]
theorem treePf_eq [Inhabited α] {lo d n : Nat} (h : Al lo d) (h1 : lo < n) (h2 : n ≤ lo + d) (rest : List α) : treePf nh lo d n ((treeIx lo d n).map (Rc nh f) ++ rest) = (TP nh f lo d n, rest) := by
  induction d using Nat.strongRecOn generalizing lo rest with
  | ind d ih =>
    by_cases he : n = lo + d
    · rw [treePf_self _ he, treeIx_self he, TP_self _ _ he]
      by_cases h0 : lo = 0
      · simp [h0]
      · rw [if_neg h0, if_neg h0, if_neg h0, sub_parts nh f h (by omega)]
    · have hp := half_pos d
      have hl := half_lt (d := d) (by omega)
      by_cases hn : n ≤ lo + half d
      · rw [treePf_left _ (by omega) he hn, treeIx_left (by omega) he hn, TP_left _ _ (by omega) he hn, List.map_append, List.append_assoc, ih _ hl (h.left (by omega)) h1 hn, sub_parts nh f (h.right (by omega)) (by omega)]
      · rw [treePf_right _ (by omega) he hn, treeIx_right (by omega) he hn, TP_right _ _ (by omega) he hn, List.map_append, List.append_assoc, sub_parts nh f (h.left (by omega)) (by omega), ih _ (show d - half d < d by omega) (h.right (by omega)) (by omega) (by omega)]
theorem half_less {d e : Nat} (h1 : half d < e) (h2 : e ≤ d) : half e = half d := by
  have hp := half_pos d
  have h4 := Nat.lt_log2_self (n := d - 1)
  exact half_of h1 (by unfold half at h1; omega)
theorem run_TP [Inhabited α] {lo d n : Nat} (h1 : lo < n) (h2 : n ≤ lo + d) : runTree nh (TP nh f lo d n) lo d n (T nh f 0 n) = some (T nh f lo (n - lo), T nh f lo d) := by
  induction d using Nat.strongRecOn generalizing lo with
  | ind d ih =>
    by_cases he : n = lo + d
    · have e : n - lo = d := by omega
      rw [TP_self _ _ he, runTree_self _ he, e]
      by_cases h0 : lo = 0
      · subst h0
        simp [show n = d by omega]
      · simp [h0]
    · have hp := half_pos d
      have hl := half_lt (d := d) (by omega)
      rw [T_two nh f (show 2 ≤ d by omega)]
      by_cases hn : n ≤ lo + half d
      · rw [TP_left _ _ (by omega) he hn, runTree_left _ (by omega) he hn, ih _ hl h1 hn]; rfl
      · rw [TP_right _ _ (by omega) he hn, runTree_right _ (by omega) he hn, ih _ (show d - half d < d by omega) (by omega) (by omega)]
        have e := half_less (d := d) (e := n - lo) (by omega) (by omega)
        rw [T_two nh f (show 2 ≤ n - lo by omega), e, Nat.sub_add_eq]; rfl

theorem T_shift (s lo d : Nat) : T nh (fun i => f (i + s)) lo d = T nh f (lo + s) d := by
  induction d using Nat.strongRecOn generalizing lo with
  | ind d ih =>
    by_cases h : d ≤ 1
    · rw [T_one _ _ h, T_one _ _ h]
    · have hp := half_pos d
      have hl := half_lt (d := d) (by omega)
      rw [T_two _ _ (show 2 ≤ d by omega), T_two _ _ (show 2 ≤ d by omega), ih _ hl, ih _ (show d - half d < d by omega), show lo + half d + s = lo + s + half d by omega]
theorem T_congr {g : Nat → α} {lo d : Nat} (hd : d ≠ 0) (h : ∀ i, lo ≤ i → i < lo + d → f i = g i) : T nh f lo d = T nh g lo d := by
  induction d using Nat.strongRecOn generalizing lo with
  | ind d ih =>
    by_cases h1 : d ≤ 1
    · rw [T_one _ _ h1, T_one _ _ h1, h lo (by omega) (by omega)]
    · have hp := half_pos d
      have hl := half_lt (d := d) (by omega)
      rw [T_two _ _ (show 2 ≤ d by omega), T_two _ _ (show 2 ≤ d by omega), ih _ hl (by omega) (fun i a b => h i a (by omega)), ih _ (show d - half d < d by omega) (by omega) (fun i a b => h i (by omega) (by omega))]
theorem LP_shift (s lo d n : Nat) : LP nh (fun i => f (i + s)) lo d n = LP nh f (lo + s) d (n + s) := by
  induction d using Nat.strongRecOn generalizing lo with
  | ind d ih =>
    by_cases h : d ≤ 1
    · rw [LP_one _ _ h, LP_one _ _ h]
    · have hp := half_pos d
      have hl := half_lt (d := d) (by omega)
      by_cases hn : n < lo + half d
      · rw [LP_left _ _ (by omega) hn, LP_left _ _ (by omega) (show n + s < lo + s + half d by omega), ih _ hl, T_shift, show lo + half d + s = lo + s + half d by omega]
      · rw [LP_right _ _ (by omega) hn, LP_right _ _ (by omega) (show ¬ n + s < lo + s + half d by omega), ih _ (show d - half d < d by omega), T_shift, show lo + half d + s = lo + s + half d by omega]
theorem LP_congr {g : Nat → α} {lo d n : Nat} (h : ∀ i, lo ≤ i → i < lo + d → f i = g i) : LP nh f lo d n = LP nh g lo d n := by
  induction d using Nat.strongRecOn generalizing lo with
  | ind d ih =>
    by_cases h1 : d ≤ 1
    · rw [LP_one _ _ h1, LP_one _ _ h1]
    · have hp := half_pos d
      have hl := half_lt (d := d) (by omega)
      by_cases hn : n < lo + half d
      · rw [LP_left _ _ (by omega) hn, LP_left _ _ (by omega) hn, ih _ hl (fun i a b => h i a (by omega)), T_congr nh f (by omega) (fun i a b => h i (by omega) (by omega))]
      · rw [LP_right _ _ (by omega) hn, LP_right _ _ (by omega) hn, ih _ (show d - half d < d by omega) (fun i a b => h i (by omega) (by omega)), T_congr nh f (by omega) (fun i a b => h i a (by omega))]
theorem TP_congr {g : Nat → α} {lo d n : Nat} (hd : d ≠ 0) (h : ∀ i, lo ≤ i → i < lo + d → f i = g i) : TP nh f lo d n = TP nh g lo d n := by
  induction d using Nat.strongRecOn generalizing lo with
  | ind d ih =>
    by_cases h1 : n = lo + d ∨ d ≤ 1
    · rw [TP, dif_pos h1, TP, dif_pos h1, T_congr nh f hd h]
    · have hp := half_pos d
      have hl := half_lt (d := d) (by omega)
      by_cases hn : n ≤ lo + half d
      · rw [TP_left _ _ (by omega) (by omega) hn, TP_left _ _ (by omega) (by omega) hn, ih _ hl (by omega) (fun i a b => h i a (by omega)), T_congr nh f (by omega) (fun i a b => h i (by omega) (by omega))]
      · rw [TP_right _ _ (by omega) (by omega) hn, TP_right _ _ (by omega) (by omega) hn, ih _ (show d - half d < d by omega) (by omega) (fun i a b => h i (by omega) (by omega)), T_congr nh f (by omega) (fun i a b => h i a (by omega))]

/-- the hashes above a record's hash and the hashes beside it, the lower ones first -/
def chain (h : α) : List α → List α
  | [] => [h]
  | o :: os => h :: chain (nh o h) os
theorem chain_len (h : α) (os : List α) : (chain nh h os).length = os.length + 1 := by
  induction os generalizing h with
  | nil => rfl
  | cons o os ih => simp [chain, ih]
theorem chain_zero (h : α) (os : List α) : (chain nh h os)[0]? = some h := by cases os <;> rfl
theorem chain_succ (h : α) (os : List α) (i : Nat) (o c : α) (ho : os[i]? = some o) (hc : (chain nh h os)[i]? = some c) : (chain nh h os)[i + 1]? = some (nh o c) := by
  induction os generalizing h i with
  | nil => simp at ho
  | cons a os ih =>
    cases i with
    | zero =>
      simp at ho; subst ho
      simp [chain] at hc ⊢; subst hc
      exact chain_zero nh (nh a h) os
    | succ i =>
      have := ih (nh a h) i (by simpa using ho) (by simpa [chain] using hc)
      simpa [chain] using this
theorem chain_snoc [Inhabited α] (h : α) (os : List α) (o : α) : chain nh h (os ++ [o]) = chain nh h os ++ [nh o ((chain nh h os).getLastD default)] := by
  induction os generalizing h with
  | nil => rfl
  | cons a os ih =>
    show h :: chain nh (nh a h) (os ++ [o]) = h :: chain nh (nh a h) os ++ _
    rw [ih]
    have : (chain nh h (a :: os)).getLastD default = (chain nh (nh a h) os).getLastD default := by
      show (h :: chain nh (nh a h) os).getLastD default = _
      have hne : chain nh (nh a h) os ≠ [] := by intro e; have := chain_len nh (nh a h) os; rw [e] at this; simp at this
      obtain ⟨x, y, e⟩ : ∃ x y, chain nh (nh a h) os = x :: y := by
        cases hc : chain nh (nh a h) os with
        | nil => exact absurd hc hne
        | cons x y => exact ⟨x, y, rfl⟩
      rw [e]; simp [List.getLastD]
    rw [this]; rfl

/-- what is stored with the record n is read beside it -/
def beside (n : Nat) : List (Nat × Nat) := (List.range (Idx.ones n)).map fun i => (i, n / 2 ^ i - 1)
/-- what is stored for n records -/
def St : Nat → List α
  | 0 => []
  | n + 1 => St n ++ chain nh (f n) ((beside n).map (Rc nh f))
theorem beside_len (n : Nat) : (beside n).length = Idx.ones n := by simp [beside]
theorem St_len (n : Nat) : (St nh f n).length = Idx.wh n := by
  induction n with
  | zero => simp [St, Idx.wh_zero]
  | succ n ih => simp [St, ih, chain_len, beside_len, Idx.wh_succ]; omega
theorem St_mono {m n : Nat} (h : m ≤ n) : ∃ r, St nh f n = St nh f m ++ r := by
  induction h with
  | refl => exact ⟨[], by simp⟩
  | step _ ih =>
    obtain ⟨r, hr⟩ := ih
    exact ⟨_, by rw [St, hr, List.append_assoc]⟩
theorem odd_of_lt {i n : Nat} (h : i < Idx.ones n) : n / 2 ^ i % 2 = 1 := by
  induction i generalizing n with
  | zero =>
    rcases Nat.mod_two_eq_zero_or_one n with g | g
    · rw [Idx.ones_even g] at h; omega
    · simpa using g
  | succ i ih =>
    rcases Nat.mod_two_eq_zero_or_one n with g | g
    · rw [Idx.ones_even g] at h; omega
    · rw [Idx.ones_odd g] at h
      have := @ih (n / 2) (by omega)
      rwa [Nat.pow_succ, Nat.mul_comm, ← Nat.div_div_eq_div_mul]
theorem chain_R (n i : Nat) (hi : i ≤ Idx.ones n) : (chain nh (f n) ((beside n).map (Rc nh f)))[i]? = some (R nh f i (n / 2 ^ i)) := by
  induction i with
  | zero => rw [chain_zero]; simp [R]
  | succ i ih =>
    have ho : ((beside n).map (Rc nh f))[i]? = some (R nh f i (n / 2 ^ i - 1)) := by
      simp [beside, show i < Idx.ones n by omega]
    rw [chain_succ nh _ _ i _ _ ho (ih (by omega))]
    have hodd := odd_of_lt (show i < Idx.ones n by omega)
    have e : n / 2 ^ (i + 1) = n / 2 ^ i / 2 := by rw [Nat.pow_succ, Nat.div_div_eq_div_mul]
    rw [e, R]
    congr 2
    · congr 1; omega
    · congr 1; omega
/-- where the hash of a whole subtree is stored -/
theorem St_at {l k n : Nat} (h : (k + 1) * 2 ^ l ≤ n) : (St nh f n)[Idx.idx l k]? = some (R nh f l k) := by
  have hlast := Idx.last_eq l k
  obtain ⟨r, hr⟩ := St_mono nh f (show Idx.last l k + 1 ≤ n by omega)
  have ho := Idx.ones_last l k
  have hc := chain_R nh f (Idx.last l k) l ho
  rw [Idx.last_shift] at hc
  have hlen := St_len nh f (Idx.last l k)
  rw [hr]
  have h1 : (St nh f (Idx.last l k + 1))[Idx.idx l k]? = some (R nh f l k) := by
    rw [St, Idx.idx, ← hlen, List.getElem?_append_right (by omega), Nat.add_sub_cancel_left]
    exact hc
  have hlt := (List.getElem?_eq_some_iff.1 h1).1
  rw [List.getElem?_append_left hlt]
  exact h1
end

/-- the subtrees that are read lie within the first records -/
theorem parts_in {lo d : Nat} (h : Al lo d) {c : Nat × Nat} (hc : c ∈ parts lo d) : (c.2 + 1) * 2 ^ c.1 ≤ lo + d := by
  induction d using Nat.strongRecOn generalizing lo with
  | ind d ih =>
    by_cases h0 : d = 0
    · subst h0; rw [parts_zero] at hc; cases hc
    · have h1 := log_le h0
      have hp := two_pos d.log2
      rw [parts_pos _ h0] at hc
      rcases List.mem_cons.1 hc with rfl | hc
      · have := Nat.div_mul_cancel (h.log_dvd h0)
        simp only
        rw [Nat.add_mul, this]; omega
      · have := ih _ (show d - 2 ^ d.log2 < d by omega) (h.next h0) hc
        omega
theorem leafIx_in {lo d n : Nat} (h : Al lo d) {c : Nat × Nat} (hc : c ∈ leafIx lo d n) : (c.2 + 1) * 2 ^ c.1 ≤ lo + d := by
  induction d using Nat.strongRecOn generalizing lo with
  | ind d ih =>
    by_cases h1 : d ≤ 1
    · rw [leafIx_one h1] at hc; cases hc
    · have hp := half_pos d
      have hl := half_lt (d := d) (by omega)
      by_cases hn : n < lo + half d
      · rw [leafIx_left (by omega) hn, List.mem_append] at hc
        rcases hc with hc | hc
        · have := ih _ hl (h.left (by omega)) hc; omega
        · have := parts_in (h.right (by omega)) hc; omega
      · rw [leafIx_right (by omega) hn, List.mem_append] at hc
        rcases hc with hc | hc
        · have := parts_in (h.left (by omega)) hc; omega
        · have := ih _ (show d - half d < d by omega) (h.right (by omega)) hc; omega
theorem treeIx_in {lo d n : Nat} (h : Al lo d) {c : Nat × Nat} (hc : c ∈ treeIx lo d n) : (c.2 + 1) * 2 ^ c.1 ≤ lo + d := by
  induction d using Nat.strongRecOn generalizing lo with
  | ind d ih =>
    by_cases h1 : n = lo + d ∨ d ≤ 1
    · rw [treeIx, dif_pos h1] at hc
      split at hc
      · cases hc
      · exact parts_in h hc
    · have hp := half_pos d
      have hl := half_lt (d := d) (by omega)
      by_cases hn : n ≤ lo + half d
      · rw [treeIx_left (by omega) (by omega) hn, List.mem_append] at hc
        rcases hc with hc | hc
        · have := ih _ hl (h.left (by omega)) hc; omega
        · have := parts_in (h.right (by omega)) hc; omega
      · rw [treeIx_right (by omega) (by omega) hn, List.mem_append] at hc
        rcases hc with hc | hc
        · have := parts_in (h.left (by omega)) hc; omega
        · have := ih _ (show d - half d < d by omega) (h.right (by omega)) hc; omega

end Go.Proofs.YtokopcbmpnnkcaaDoor.Tr
