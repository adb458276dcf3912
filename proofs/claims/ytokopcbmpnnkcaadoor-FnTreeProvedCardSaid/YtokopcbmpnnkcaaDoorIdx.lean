/- Plain arithmetic of where hashes are stored: 'wh n' is how many hashes are stored for n records, 'ones n' with how many ones the binary digits of n end, 'idx l n' where the hash (l, n) is stored. No program is in sight here; no condition. -/
namespace Go.Proofs.YtokopcbmpnnkcaaDoor.Idx

def wh (n : Nat) : Nat := if n = 0 then 0 else n + wh (n / 2)
  termination_by n
  decreasing_by omega

def ones (n : Nat) : Nat := if n % 2 = 1 then 1 + ones (n / 2) else 0
  termination_by n
  decreasing_by omega

theorem wh_zero : wh 0 = 0 := by rw [wh]; simp
theorem wh_pos {n : Nat} (h : 0 < n) : wh n = n + wh (n / 2) := by rw [wh]; rw [if_neg (by omega)]
theorem wh_half (n : Nat) : wh n = n + wh (n / 2) := by
  by_cases h : n = 0
  · subst h; simp [wh_zero]
  · exact wh_pos (by omega)
theorem ones_even {n : Nat} (h : n % 2 = 0) : ones n = 0 := by rw [ones]; rw [if_neg (by omega)]
theorem ones_odd {n : Nat} (h : n % 2 = 1) : ones n = 1 + ones (n / 2) := by rw [ones]; rw [if_pos h]

theorem wh_le (n : Nat) : wh n ≤ 2 * n := by
  induction n using Nat.strongRecOn with
  | ind n ih =>
    by_cases h : n = 0
    · subst h; simp [wh_zero]
    · have := ih (n / 2) (by omega)
      rw [wh_pos (by omega)]
      omega
theorem le_wh (n : Nat) : n ≤ wh n := by
  rw [wh_half]; omega

theorem wh_succ (n : Nat) : wh (n + 1) = wh n + 1 + ones n := by
  induction n using Nat.strongRecOn with
  | ind n ih =>
    rw [wh_half (n + 1), wh_half n]
    rcases Nat.mod_two_eq_zero_or_one n with h | h
    · rw [ones_even h, show (n + 1) / 2 = n / 2 by omega]; omega
    · have := ih (n / 2) (by omega)
      rw [ones_odd h, show (n + 1) / 2 = n / 2 + 1 by omega, this]; omega

theorem wh_lt_succ (n : Nat) : wh n < wh (n + 1) := by rw [wh_succ]; omega
theorem wh_mono {m n : Nat} (h : m ≤ n) : wh m ≤ wh n := by
  induction h with
  | refl => exact Nat.le_refl _
  | step _ ih => exact Nat.le_trans ih (Nat.le_of_lt (wh_lt_succ _))
theorem wh_smono {m n : Nat} (h : m < n) : wh m < wh n := Nat.lt_of_lt_of_le (wh_lt_succ m) (wh_mono h)
theorem wh_uniq {m n i : Nat} (h1 : wh m ≤ i) (h2 : i < wh (m + 1)) (h3 : wh n ≤ i) (h4 : i < wh (n + 1)) : m = n := by
  rcases Nat.lt_trichotomy m n with h | h | h
  · have := wh_mono (show m + 1 ≤ n from h); omega
  · exact h
  · have := wh_mono (show n + 1 ≤ m from h); omega

/-- the last record of the subtree (l, n) -/
def last : Nat → Nat → Nat
  | 0, n => n
  | l + 1, n => last l (2 * n + 1)
theorem last_eq (l n : Nat) : last l n + 1 = (n + 1) * 2 ^ l := by
  induction l generalizing n with
  | zero => simp [last]
  | succ l ih => rw [last, ih, Nat.pow_succ, show 2 * n + 1 + 1 = (n + 1) * 2 by omega, Nat.mul_assoc, Nat.mul_comm 2]
theorem last_snoc (l n : Nat) : last (l + 1) n = 2 * last l n + 1 := by
  have h1 := last_eq (l + 1) n
  have h2 := last_eq l n
  rw [Nat.pow_succ, ← Nat.mul_assoc, ← h2] at h1
  omega
theorem last_half (l n : Nat) : last (l + 1) n / 2 = last l n := by rw [last_snoc]; omega
theorem ones_last (l n : Nat) : l ≤ ones (last l n) := by
  induction l with
  | zero => omega
  | succ l ih => rw [ones_odd (by rw [last_snoc]; omega), last_half]; omega
theorem last_shift (l n : Nat) : last l n / 2 ^ l = n := by
  have h := last_eq l n
  have hp : 0 < 2 ^ l := Nat.pow_pos (by omega)
  have e : last l n = n * 2 ^ l + (2 ^ l - 1) := by rw [Nat.add_mul, Nat.one_mul] at h; omega
  rw [e, Nat.add_comm, Nat.add_mul_div_right _ _ hp, Nat.div_eq_of_lt (by omega)]
  omega
theorem last_of_ones {l m : Nat} (h : l ≤ ones m) : last l (m / 2 ^ l) = m := by
  induction l generalizing m with
  | zero => simp [last]
  | succ l ih =>
    have hm : m % 2 = 1 := by
      rcases Nat.mod_two_eq_zero_or_one m with h' | h'
      · rw [ones_even h'] at h; omega
      · exact h'
    rw [ones_odd hm] at h
    have := @ih (m / 2) (by omega)
    rw [Nat.pow_succ, Nat.mul_comm, ← Nat.div_div_eq_div_mul, last_snoc, this]
    omega

def idx (l n : Nat) : Nat := wh (last l n) + l

theorem last_lt {l n a b : Nat} (hn : n < 2 ^ a) (hl : l ≤ b) : last l n < 2 ^ (a + b) := by
  have h := last_eq l n
  have h1 : (n + 1) * 2 ^ l ≤ 2 ^ a * 2 ^ b := Nat.mul_le_mul hn (Nat.pow_le_pow_right (by omega) hl)
  rw [← Nat.pow_add] at h1
  omega

theorem idx_lt_count {l n m : Nat} : idx l n < wh m ↔ (n + 1) * 2 ^ l ≤ m := by
  have h := last_eq l n
  have ho := ones_last l n
  have hs := wh_succ (last l n)
  unfold idx
  rw [← h]
  constructor
  · intro hlt
    rcases Nat.lt_or_ge (last l n) m with g | g
    · exact g
    · have := wh_mono g; omega
  · intro hle
    have := wh_mono hle
    omega

theorem ones_le_log {n k : Nat} (h : n < 2 ^ k) : ones n ≤ k := by
  induction k generalizing n with
  | zero => have : n = 0 := by simpa using h
            subst this; rw [ones_even (by omega)]; omega
  | succ k ih =>
    rcases Nat.mod_two_eq_zero_or_one n with h' | h'
    · rw [ones_even h']; omega
    · have := @ih (n / 2) (by rw [Nat.pow_succ] at h; omega)
      rw [ones_odd h']; omega

end Go.Proofs.YtokopcbmpnnkcaaDoor.Idx
