/- Plain laws of the trees of a log: which hashes a tree's hash and its proofs are made of, and that these fit together. No program is in sight here; the hashes are of any type, 'nh' is the hash above two others. No condition. -/
import Derived.Test.YtokopcbmpnnkcaaDoorIdx
namespace Go.Proofs.YtokopcbmpnnkcaaDoor.Tr
set_option linter.unusedVariables false

theorem two_pos (l : Nat) : 0 < 2 ^ l := Nat.pow_pos (by omega)
/-- the whole subtrees that make up the records from lo on, d of them -/
def parts (lo d : Nat) : List (Nat × Nat) :=
  if d = 0 then [] else (d.log2, lo / 2 ^ d.log2) :: parts (lo + 2 ^ d.log2) (d - 2 ^ d.log2)
  termination_by d
  decreasing_by have := two_pos d.log2; omega
theorem parts_zero (lo : Nat) : parts lo 0 = [] := by rw [parts]; simp
theorem parts_pos {d : Nat} (lo : Nat) (h : d ≠ 0) : parts lo d = (d.log2, lo / 2 ^ d.log2) :: parts (lo + 2 ^ d.log2) (d - 2 ^ d.log2) := by rw [parts]; rw [if_neg h]

/-- the greatest power of two that is less than d (for d of at least 2) -/
def half (d : Nat) : Nat := 2 ^ (d - 1).log2
theorem half_pos (d : Nat) : 0 < half d := two_pos _
theorem half_lt {d : Nat} (h : 2 ≤ d) : half d < d := by
  have := Nat.log2_self_le (n := d - 1) (by omega)
  unfold half; omega
theorem le_half {d : Nat} (h : 2 ≤ d) : d ≤ 2 * half d := by
  have := Nat.lt_log2_self (n := d - 1)
  rw [Nat.pow_succ] at this
  unfold half; omega
theorem half_le_pow {d m : Nat} (h : d ≤ 2 ^ (m + 1)) (h2 : 2 ≤ d) : half d ≤ 2 ^ m := by
  unfold half
  apply Nat.pow_le_pow_right (by omega)
  have : (d - 1).log2 < m + 1 := (Nat.log2_lt (by omega)).2 (by omega)
  omega
/-- a place that is a multiple of a power of two that is at least d -/
def Al (lo d : Nat) : Prop := ∃ m, 2 ^ m ∣ lo ∧ d ≤ 2 ^ m
theorem Al.zero (d : Nat) : Al 0 d := ⟨d, Nat.dvd_zero _, Nat.le_of_lt Nat.lt_two_pow_self⟩
theorem Al.mono {lo d e : Nat} (h : Al lo d) (he : e ≤ d) : Al lo e := by
  obtain ⟨m, h1, h2⟩ := h
  exact ⟨m, h1, by omega⟩
theorem Al.half_dvd {lo d : Nat} (h : Al lo d) (h2 : 2 ≤ d) : half d ∣ lo := by
  obtain ⟨m, h1, hd⟩ := h
  cases m with
  | zero => simp at hd; omega
  | succ m =>
    refine Nat.dvd_trans (Nat.pow_dvd_pow 2 ?_) h1
    have : (d - 1).log2 < m + 1 := (Nat.log2_lt (by omega)).2 (by omega)
    omega
theorem Al.left {lo d : Nat} (h : Al lo d) (h2 : 2 ≤ d) : Al lo (half d) := h.mono (Nat.le_of_lt (half_lt h2))
theorem Al.right {lo d : Nat} (h : Al lo d) (h2 : 2 ≤ d) : Al (lo + half d) (d - half d) := by
  have h3 := h.half_dvd h2
  have h4 := le_half h2
  exact ⟨(d - 1).log2, Nat.dvd_add h3 (Nat.dvd_refl _), by show d - half d ≤ half d; omega⟩
theorem Al.log_dvd {lo d : Nat} (h : Al lo d) (h1 : d ≠ 0) : 2 ^ d.log2 ∣ lo := by
  obtain ⟨m, hm, hd⟩ := h
  refine Nat.dvd_trans (Nat.pow_dvd_pow 2 ?_) hm
  have h2 := Nat.log2_self_le h1
  have h3 : 2 ^ d.log2 ≤ 2 ^ m := Nat.le_trans h2 hd
  exact (Nat.pow_le_pow_iff_right (by omega)).1 h3
theorem log_le {d : Nat} (h : d ≠ 0) : 2 ^ d.log2 ≤ d := Nat.log2_self_le h
theorem lt_log (d : Nat) : d < 2 * 2 ^ d.log2 := by
  have := Nat.lt_log2_self (n := d)
  rw [Nat.pow_succ] at this; omega
theorem Al.next {lo d : Nat} (h : Al lo d) (h1 : d ≠ 0) : Al (lo + 2 ^ d.log2) (d - 2 ^ d.log2) := by
  have h2 := h.log_dvd h1
  have h3 := lt_log d
  exact ⟨d.log2, Nat.dvd_add h2 (Nat.dvd_refl _), by omega⟩

/-- the hashes that a proof of a record reads -/
def leafIx (lo d n : Nat) : List (Nat × Nat) :=
  if h : d ≤ 1 then [] else
  if n < lo + half d then leafIx lo (half d) n ++ parts (lo + half d) (d - half d) else parts lo (half d) ++ leafIx (lo + half d) (d - half d) n
  termination_by d
  decreasing_by
    · exact half_lt (by omega)
    · have := half_pos d; omega
theorem leafIx_one {lo d n : Nat} (h : d ≤ 1) : leafIx lo d n = [] := by rw [leafIx]; rw [dif_pos h]
theorem leafIx_left {lo d n : Nat} (h : 2 ≤ d) (hn : n < lo + half d) : leafIx lo d n = leafIx lo (half d) n ++ parts (lo + half d) (d - half d) := by
  rw [leafIx]; rw [dif_neg (by omega), if_pos hn]
theorem leafIx_right {lo d n : Nat} (h : 2 ≤ d) (hn : ¬ n < lo + half d) : leafIx lo d n = parts lo (half d) ++ leafIx (lo + half d) (d - half d) n := by
  rw [leafIx]; rw [dif_neg (by omega), if_neg hn]

/-- the hashes that a proof for a beginning of n records reads -/
def treeIx (lo d n : Nat) : List (Nat × Nat) :=
  if h : n = lo + d ∨ d ≤ 1 then (if lo = 0 then [] else parts lo d) else
  if n ≤ lo + half d then treeIx lo (half d) n ++ parts (lo + half d) (d - half d) else parts lo (half d) ++ treeIx (lo + half d) (d - half d) n
  termination_by d
  decreasing_by
    · exact half_lt (by omega)
    · have := half_pos d; omega
theorem treeIx_self {lo d n : Nat} (h : n = lo + d) : treeIx lo d n = if lo = 0 then [] else parts lo d := by rw [treeIx]; rw [dif_pos (.inl h)]
theorem treeIx_left {lo d n : Nat} (h : 2 ≤ d) (h0 : n ≠ lo + d) (hn : n ≤ lo + half d) : treeIx lo d n = treeIx lo (half d) n ++ parts (lo + half d) (d - half d) := by
  rw [treeIx]; rw [dif_neg (by omega), if_pos hn]
theorem treeIx_right {lo d n : Nat} (h : 2 ≤ d) (h0 : n ≠ lo + d) (hn : ¬ n ≤ lo + half d) : treeIx lo d n = parts lo (half d) ++ treeIx (lo + half d) (d - half d) n := by
  rw [treeIx]; rw [dif_neg (by omega), if_neg hn]

section
variable {α : Type} [Inhabited α] (nh : α → α → α)
/-- the hash above hashes, from the last one on -/
def fold1 : List α → α
  | [] => default
  | [h] => h
  | h :: t => nh h (fold1 t)
theorem fold1_cons (h : α) {t : List α} (ht : t ≠ []) : fold1 nh (h :: t) = nh h (fold1 nh t) := by
  cases t with
  | nil => exact absurd rfl ht
  | cons a t => rfl
/-- the hash of a subtree out of the hashes ahead, and those that are left over -/
def sub (lo d : Nat) (hs : List α) : α × List α := (fold1 nh (hs.take (parts lo d).length), hs.drop (parts lo d).length)

/-- the proof of a record out of the hashes ahead, and those that are left over -/
def leafPf (lo d n : Nat) (hs : List α) : List α × List α :=
  if h : d ≤ 1 then ([], hs) else
  if n < lo + half d then
    ((leafPf lo (half d) n hs).1 ++ [(sub nh (lo + half d) (d - half d) (leafPf lo (half d) n hs).2).1], (sub nh (lo + half d) (d - half d) (leafPf lo (half d) n hs).2).2)
  else ((leafPf (lo + half d) (d - half d) n (sub nh lo (half d) hs).2).1 ++ [(sub nh lo (half d) hs).1], (leafPf (lo + half d) (d - half d) n (sub nh lo (half d) hs).2).2)
  termination_by d
  decreasing_by
    all_goals first | exact half_lt (by omega) | (have := half_pos d; omega)
theorem leafPf_one {lo d n : Nat} {hs : List α} (h : d ≤ 1) : leafPf nh lo d n hs = ([], hs) := by rw [leafPf]; rw [dif_pos h]
theorem leafPf_left {lo d n : Nat} {hs : List α} (h : 2 ≤ d) (hn : n < lo + half d) : leafPf nh lo d n hs =
    ((leafPf nh lo (half d) n hs).1 ++ [(sub nh (lo + half d) (d - half d) (leafPf nh lo (half d) n hs).2).1], (sub nh (lo + half d) (d - half d) (leafPf nh lo (half d) n hs).2).2) := by
  rw [leafPf]; rw [dif_neg (by omega), if_pos hn]
theorem leafPf_right {lo d n : Nat} {hs : List α} (h : 2 ≤ d) (hn : ¬ n < lo + half d) : leafPf nh lo d n hs =
    ((leafPf nh (lo + half d) (d - half d) n (sub nh lo (half d) hs).2).1 ++ [(sub nh lo (half d) hs).1], (leafPf nh (lo + half d) (d - half d) n (sub nh lo (half d) hs).2).2) := by
  rw [leafPf]; rw [dif_neg (by omega), if_neg hn]
theorem leafPf_rest (lo d n : Nat) (hs : List α) : (leafPf nh lo d n hs).2 = hs.drop (leafIx lo d n).length := by
  induction d using Nat.strongRecOn generalizing lo hs with
  | ind d ih =>
    by_cases h : d ≤ 1
    · rw [leafPf_one nh h, leafIx_one h]; rfl
    · have hp := half_pos d
      have hl := half_lt (d := d) (by omega)
      by_cases hn : n < lo + half d
      · rw [leafPf_left nh (by omega) hn, leafIx_left (by omega) hn]
        simp only [sub, ih _ hl, List.drop_drop, List.length_append]
      · rw [leafPf_right nh (by omega) hn, leafIx_right (by omega) hn]
        simp only [sub, ih _ (show d - half d < d by omega), List.drop_drop, List.length_append]
/-- how many hashes a proof of a record has -/
def depth (lo d n : Nat) : Nat :=
  if h : d ≤ 1 then 0 else if n < lo + half d then depth lo (half d) n + 1 else depth (lo + half d) (d - half d) n + 1
  termination_by d
  decreasing_by
    · exact half_lt (by omega)
    · have := half_pos d; omega
theorem depth_one {lo d n : Nat} (h : d ≤ 1) : depth lo d n = 0 := by rw [depth]; rw [dif_pos h]
theorem depth_left {lo d n : Nat} (h : 2 ≤ d) (hn : n < lo + half d) : depth lo d n = depth lo (half d) n + 1 := by rw [depth]; rw [dif_neg (by omega), if_pos hn]
theorem depth_right {lo d n : Nat} (h : 2 ≤ d) (hn : ¬ n < lo + half d) : depth lo d n = depth (lo + half d) (d - half d) n + 1 := by rw [depth]; rw [dif_neg (by omega), if_neg hn]
theorem leafPf_len (lo d n : Nat) (hs : List α) : (leafPf nh lo d n hs).1.length = depth lo d n := by
  induction d using Nat.strongRecOn generalizing lo hs with
  | ind d ih =>
    by_cases h : d ≤ 1
    · rw [leafPf_one nh h, depth_one h]; rfl
    · have hp := half_pos d
      have hl := half_lt (d := d) (by omega)
      by_cases hn : n < lo + half d
      · rw [leafPf_left nh (by omega) hn, depth_left (by omega) hn]; simp [ih _ hl]
      · rw [leafPf_right nh (by omega) hn, depth_right (by omega) hn]; simp [ih _ (show d - half d < d by omega)]
theorem depth_le {lo d n m : Nat} (h : d ≤ 2 ^ m) : depth lo d n ≤ m := by
  induction m generalizing lo d with
  | zero => rw [depth_one (by simpa using h)]; omega
  | succ m ih =>
    by_cases h1 : d ≤ 1
    · rw [depth_one h1]; omega
    · have h2 := half_le_pow h (by omega)
      have h3 := le_half (d := d) (by omega)
      by_cases hn : n < lo + half d
      · rw [depth_left (by omega) hn]; have := ih (lo := lo) h2; omega
      · rw [depth_right (by omega) hn]; have := ih (lo := lo + half d) (d := d - half d) (by omega); omega
theorem leafIx_nil {lo d n : Nat} (h : leafIx lo d n = []) (_ : lo ≤ n) (hn : n < lo + d) : d ≤ 1 := by
  by_cases h1 : d ≤ 1
  · exact h1
  · exfalso
    have hp := half_pos d
    have hl := half_lt (d := d) (by omega)
    by_cases hn : n < lo + half d
    · rw [leafIx_left (by omega) hn, parts_pos _ (by omega)] at h; simp at h
    · rw [leafIx_right (by omega) hn, parts_pos _ (by omega)] at h; simp at h

/-- what a proof of a record makes of the record's hash -/
def runRec (p : List α) (lo d n : Nat) (leaf : α) : Option α :=
  if h : d ≤ 1 then (if p = [] then some leaf else none) else
  if p = [] then none else
  if n < lo + half d then (runRec p.dropLast lo (half d) n leaf).map (fun th => nh th (p.getLastD default)) else (runRec p.dropLast (lo + half d) (d - half d) n leaf).map (fun th => nh (p.getLastD default) th)
  termination_by d
  decreasing_by
    · exact half_lt (by omega)
    · have := half_pos d; omega
theorem runRec_one {lo d n : Nat} {p : List α} {leaf : α} (h : d ≤ 1) : runRec nh p lo d n leaf = if p = [] then some leaf else none := by rw [runRec]; rw [dif_pos h]
theorem runRec_nil {lo d n : Nat} {leaf : α} (h : 2 ≤ d) : runRec nh [] lo d n leaf = none := by rw [runRec]; rw [dif_neg (by omega), if_pos rfl]
theorem runRec_left {lo d n : Nat} {p : List α} {q leaf : α} (h : 2 ≤ d) (hn : n < lo + half d) : runRec nh (p ++ [q]) lo d n leaf = (runRec nh p lo (half d) n leaf).map (fun th => nh th q) := by
  rw [runRec]; rw [dif_neg (by omega), if_neg (by simp), if_pos hn]; simp
theorem runRec_right {lo d n : Nat} {p : List α} {q leaf : α} (h : 2 ≤ d) (hn : ¬ n < lo + half d) : runRec nh (p ++ [q]) lo d n leaf = (runRec nh p (lo + half d) (d - half d) n leaf).map (fun th => nh q th) := by
  rw [runRec]; rw [dif_neg (by omega), if_neg (by simp), if_neg hn]; simp
theorem runRec_some (p : List α) (lo d n : Nat) (leaf : α) : (runRec nh p lo d n leaf).isSome = decide (p.length = depth lo d n) := by
  induction d using Nat.strongRecOn generalizing lo p with
  | ind d ih =>
    by_cases h : d ≤ 1
    · rw [runRec_one nh h, depth_one h]
      cases p <;> simp
    · have hp := half_pos d
      have hl := half_lt (d := d) (by omega)
      rcases List.eq_nil_or_concat p with rfl | ⟨p, q, rfl⟩
      · rw [runRec_nil nh (by omega)]
        by_cases hn : n < lo + half d
        · rw [depth_left (by omega) hn]; simp
        · rw [depth_right (by omega) hn]; simp
      · rw [List.concat_eq_append]
        by_cases hn : n < lo + half d
        · rw [runRec_left nh (by omega) hn, depth_left (by omega) hn]; simp [ih _ hl]
        · rw [runRec_right nh (by omega) hn, depth_right (by omega) hn]; simp [ih _ (show d - half d < d by omega)]

/-- the proof for a beginning out of the hashes ahead, and those that are left over -/
def treePf (lo d n : Nat) (hs : List α) : List α × List α :=
  if h : n = lo + d ∨ d ≤ 1 then (if lo = 0 then ([], hs) else ([(sub nh lo d hs).1], (sub nh lo d hs).2)) else
  if n ≤ lo + half d then
    ((treePf lo (half d) n hs).1 ++ [(sub nh (lo + half d) (d - half d) (treePf lo (half d) n hs).2).1], (sub nh (lo + half d) (d - half d) (treePf lo (half d) n hs).2).2)
  else ((treePf (lo + half d) (d - half d) n (sub nh lo (half d) hs).2).1 ++ [(sub nh lo (half d) hs).1], (treePf (lo + half d) (d - half d) n (sub nh lo (half d) hs).2).2)
  termination_by d
  decreasing_by
    all_goals first | exact half_lt (by omega) | (have := half_pos d; omega)
theorem treePf_self {lo d n : Nat} {hs : List α} (h : n = lo + d) : treePf nh lo d n hs = if lo = 0 then ([], hs) else ([(sub nh lo d hs).1], (sub nh lo d hs).2) := by rw [treePf]; rw [dif_pos (.inl h)]
theorem treePf_left {lo d n : Nat} {hs : List α} (h : 2 ≤ d) (h0 : n ≠ lo + d) (hn : n ≤ lo + half d) : treePf nh lo d n hs =
    ((treePf nh lo (half d) n hs).1 ++ [(sub nh (lo + half d) (d - half d) (treePf nh lo (half d) n hs).2).1], (sub nh (lo + half d) (d - half d) (treePf nh lo (half d) n hs).2).2) := by
  rw [treePf]; rw [dif_neg (by omega), if_pos hn]
theorem treePf_right {lo d n : Nat} {hs : List α} (h : 2 ≤ d) (h0 : n ≠ lo + d) (hn : ¬ n ≤ lo + half d) : treePf nh lo d n hs =
    ((treePf nh (lo + half d) (d - half d) n (sub nh lo (half d) hs).2).1 ++ [(sub nh lo (half d) hs).1], (treePf nh (lo + half d) (d - half d) n (sub nh lo (half d) hs).2).2) := by
  rw [treePf]; rw [dif_neg (by omega), if_neg hn]
theorem treePf_rest (lo d n : Nat) (hs : List α) : (treePf nh lo d n hs).2 = hs.drop (treeIx lo d n).length := by
  induction d using Nat.strongRecOn generalizing lo hs with
  | ind d ih =>
    by_cases h : n = lo + d ∨ d ≤ 1
    · rw [treePf, dif_pos h, treeIx, dif_pos h]
      split <;> simp [sub]
    · have hp := half_pos d
      have hl := half_lt (d := d) (by omega)
      by_cases hn : n ≤ lo + half d
      · rw [treePf_left nh (by omega) (by omega) hn, treeIx_left (by omega) (by omega) hn]
        simp only [sub, ih _ hl, List.drop_drop, List.length_append]
      · rw [treePf_right nh (by omega) (by omega) hn, treeIx_right (by omega) (by omega) hn]
        simp only [sub, ih _ (show d - half d < d by omega), List.drop_drop, List.length_append]
theorem treePf_len {lo d n m : Nat} (hs : List α) (h : d ≤ 2 ^ m) : (treePf nh lo d n hs).1.length ≤ m + 1 := by
  induction m generalizing lo d hs with
  | zero =>
    rw [treePf, dif_pos (.inr (by simpa using h))]
    split <;> simp
  | succ m ih =>
    by_cases h1 : n = lo + d ∨ d ≤ 1
    · rw [treePf, dif_pos h1]
      split <;> simp
    · have h2 := half_le_pow h (by omega)
      have h3 := le_half (d := d) (by omega)
      by_cases hn : n ≤ lo + half d
      · rw [treePf_left nh (by omega) (by omega) hn]; have := ih (lo := lo) (d := half d) hs h2; simpa using this
      · rw [treePf_right nh (by omega) (by omega) hn]; have := ih (lo := lo + half d) (d := d - half d) (sub nh lo (half d) hs).2 (by omega); simpa using this
theorem treeIx_nil {lo d n : Nat} (h : treeIx lo d n = []) (h1 : lo < n) (hn : n ≤ lo + d) : lo = 0 ∧ n = lo + d := by
  by_cases he : n = lo + d
  · rw [treeIx_self he] at h
    by_cases h0 : lo = 0
    · exact ⟨h0, he⟩
    · rw [if_neg h0, parts_pos _ (by omega)] at h; simp at h
  · exfalso
    have hp := half_pos d
    have hl := half_lt (d := d) (by omega)
    by_cases hn : n ≤ lo + half d
    · rw [treeIx_left (by omega) he hn, parts_pos _ (by omega)] at h; simp at h
    · rw [treeIx_right (by omega) he hn, parts_pos _ (by omega)] at h; simp at h

/-- what a proof for a beginning makes of the hash of the beginning: the hashes of the beginning and of the tree -/
def runTree (p : List α) (lo d n : Nat) (old : α) : Option (α × α) :=
  if h : n = lo + d ∨ d ≤ 1 then
    (if lo = 0 then (if p = [] then some (old, old) else none) else (if p.length = 1 then some (p.getLastD default, p.getLastD default) else none)) else
  if p = [] then none else
  if n ≤ lo + half d then (runTree p.dropLast lo (half d) n old).map (fun x => (x.1, nh x.2 (p.getLastD default)))
  else (runTree p.dropLast (lo + half d) (d - half d) n old).map (fun x => (nh (p.getLastD default) x.1, nh (p.getLastD default) x.2))
  termination_by d
  decreasing_by
    · exact half_lt (by omega)
    · have := half_pos d; omega
theorem runTree_self {lo d n : Nat} {p : List α} {old : α} (h : n = lo + d) : runTree nh p lo d n old =
    if lo = 0 then (if p = [] then some (old, old) else none) else (if p.length = 1 then some (p.getLastD default, p.getLastD default) else none) := by rw [runTree]; rw [dif_pos (.inl h)]
theorem runTree_nil {lo d n : Nat} {old : α} (h : 2 ≤ d) (h0 : n ≠ lo + d) : runTree nh [] lo d n old = none := by rw [runTree]; rw [dif_neg (by omega), if_pos rfl]
theorem runTree_left {lo d n : Nat} {p : List α} {q old : α} (h : 2 ≤ d) (h0 : n ≠ lo + d) (hn : n ≤ lo + half d) :
    runTree nh (p ++ [q]) lo d n old = (runTree nh p lo (half d) n old).map (fun x => (x.1, nh x.2 q)) := by
  rw [runTree]; rw [dif_neg (by omega), if_neg (by simp), if_pos hn]; simp
theorem runTree_right {lo d n : Nat} {p : List α} {q old : α} (h : 2 ≤ d) (h0 : n ≠ lo + d) (hn : ¬ n ≤ lo + half d) :
    runTree nh (p ++ [q]) lo d n old = (runTree nh p (lo + half d) (d - half d) n old).map (fun x => (nh q x.1, nh q x.2)) := by
  rw [runTree]; rw [dif_neg (by omega), if_neg (by simp), if_neg hn]; simp
end

end Go.Proofs.YtokopcbmpnnkcaaDoor.Tr
