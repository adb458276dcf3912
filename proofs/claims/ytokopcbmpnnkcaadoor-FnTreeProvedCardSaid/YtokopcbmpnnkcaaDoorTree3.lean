/- More plain laws of the trees of a log: how many binary digits a number has; what is stored for the first records; a tree of a power of two. No program is in sight here. No condition. -/
import Derived.Test.YtokopcbmpnnkcaaDoorTree2
namespace Go.Proofs.YtokopcbmpnnkcaaDoor.Tr
set_option linter.unusedVariables false

/-- how many binary digits a number has -/
def bits (n : Nat) : Nat := if n = 0 then 0 else bits (n / 2) + 1
  termination_by n
  decreasing_by omega
theorem bits_zero : bits 0 = 0 := by rw [bits]; simp
theorem bits_pos {n : Nat} (h : n ≠ 0) : bits n = bits (n / 2) + 1 := by rw [bits]; rw [if_neg h]
theorem lt_bits (n : Nat) : n < 2 ^ bits n := by
  induction n using Nat.strongRecOn with
  | ind n ih =>
    by_cases h : n = 0
    · subst h; exact Nat.two_pow_pos _
    · have := ih (n / 2) (by omega)
      rw [bits_pos h, Nat.pow_succ]; omega
theorem bits_log {n : Nat} (h : n ≠ 0) : bits n = n.log2 + 1 := by
  induction n using Nat.strongRecOn with
  | ind n ih =>
    rw [bits_pos h]
    by_cases h1 : n / 2 = 0
    · have : n = 1 := by omega
      subst this
      rw [show 1 / 2 = 0 from rfl, bits_zero]; rfl
    · rw [ih (n / 2) (by omega) h1]
      have h2 := Nat.log2_self_le h1
      have h3 := Nat.lt_log2_self (n := n / 2)
      rw [Nat.pow_succ] at h3
      have : n.log2 = (n / 2).log2 + 1 := log_of (by rw [Nat.pow_succ]; omega) (by rw [Nat.pow_succ, Nat.pow_succ]; omega)
      omega
theorem le_bits {n : Nat} (h : 1 ≤ n) : n ≤ 2 ^ bits (n - 1) := by have := lt_bits (n - 1); omega
theorem cut_half {n : Nat} (h : 2 ≤ n) : 2 ^ (bits (n - 1) - 1) = half n := by
  unfold half
  rw [bits_log (by omega), Nat.add_sub_cancel]
theorem bits_le {n k : Nat} (h : n < 2 ^ k) : bits n ≤ k := by
  by_cases h0 : n = 0
  · subst h0; rw [bits_zero]; omega
  · rw [bits_log h0]
    exact (Nat.log2_lt h0).2 h
theorem parts_pow (l : Nat) : parts 0 (2 ^ l) = [(l, 0)] := by
  have h := two_pos l
  rw [parts_pos _ (by omega), log_pow, Nat.sub_self, parts_zero]
  simp
theorem parts_len_log {m : Nat} : ∀ (lo d : Nat), d < 2 ^ m → (parts lo d).length ≤ m := by
  induction m with
  | zero => intro lo d h; rw [show d = 0 by simpa using h, parts_zero]; simp
  | succ m ih =>
    intro lo d h
    by_cases h0 : d = 0
    · rw [h0, parts_zero]; simp
    · have h1 := log_le h0
      have h2 := lt_log d
      have h3 : 2 ^ d.log2 ≤ 2 ^ m := Nat.pow_le_pow_right (by omega) (by have := (Nat.log2_lt h0).2 h; omega)
      have := ih (lo + 2 ^ d.log2) (d - 2 ^ d.log2) (by omega)
      rw [parts_pos _ h0, List.length_cons]; omega
theorem leafIx_len {m : Nat} (hm : m ≤ 41) : ∀ (lo d n : Nat), d ≤ 2 ^ m → (leafIx lo d n).length ≤ m * 42 := by
  induction m with
  | zero => intro lo d n h; rw [leafIx_one (by simpa using h)]; simp
  | succ m ih =>
    intro lo d n h
    by_cases h1 : d ≤ 1
    · rw [leafIx_one h1]; simp
    · have hp := half_pos d
      have hl := half_lt (d := d) (by omega)
      have h2 := half_le_pow h (by omega)
      have h3 := le_half (d := d) (by omega)
      have h4 : d - half d < 2 ^ (m + 1) := by rw [Nat.pow_succ] at h ⊢; omega
      have h5 : half d < 2 ^ (m + 1) := by rw [Nat.pow_succ] at h ⊢; omega
      have h6 := parts_len_log (lo + half d) (d - half d) h4
      have h7 := parts_len_log lo (half d) h5
      by_cases hn : n < lo + half d
      · rw [leafIx_left (by omega) hn, List.length_append]
        have := ih (by omega) lo (half d) n h2
        omega
      · rw [leafIx_right (by omega) hn, List.length_append]
        have := ih (by omega) (lo + half d) (d - half d) n (by omega)
        omega
theorem treeIx_len {m : Nat} (hm : m ≤ 41) : ∀ (lo d n : Nat), d ≤ 2 ^ m → (treeIx lo d n).length ≤ (m + 1) * 42 := by
  induction m with
  | zero =>
    intro lo d n h
    rw [treeIx, dif_pos (.inr (by simpa using h))]
    have := parts_len_log (m := 1) lo d (by simp at h ⊢; omega)
    split <;> simp <;> omega
  | succ m ih =>
    intro lo d n h
    by_cases h1 : n = lo + d ∨ d ≤ 1
    · rw [treeIx, dif_pos h1]
      have := parts_len_log (m := m + 2) lo d (by rw [Nat.pow_succ]; have := two_pos (m + 1); omega)
      split <;> simp <;> omega
    · have hp := half_pos d
      have hl := half_lt (d := d) (by omega)
      have h2 := half_le_pow h (by omega)
      have h3 := le_half (d := d) (by omega)
      have h4 : d - half d < 2 ^ (m + 1) := by rw [Nat.pow_succ] at h ⊢; omega
      have h5 : half d < 2 ^ (m + 1) := by rw [Nat.pow_succ] at h ⊢; omega
      have h6 := parts_len_log (lo + half d) (d - half d) h4
      have h7 := parts_len_log lo (half d) h5
      by_cases hn : n ≤ lo + half d
      · rw [treeIx_left (by omega) (by omega) hn, List.length_append]
        have := ih (by omega) lo (half d) n h2
        omega
      · rw [treeIx_right (by omega) (by omega) hn, List.length_append]
        have := ih (by omega) (lo + half d) (d - half d) n (by omega)
        omega
section
variable {α : Type} (nh : α → α → α) (f : Nat → α)
theorem R_congr {g : Nat → α} {l k : Nat} (h : ∀ i, i < (k + 1) * 2 ^ l → f i = g i) : R nh f l k = R nh g l k := by
  induction l generalizing k with
  | zero => exact h k (by simp)
  | succ l ih =>
    have e : (k + 1) * 2 ^ (l + 1) = (2 * k + 1 + 1) * 2 ^ l := by rw [Nat.pow_succ, Nat.mul_comm (2 ^ l), ← Nat.mul_assoc]; congr 1; omega
    rw [R, R, ih (fun i hi => h i (by rw [e]; exact Nat.lt_of_lt_of_le hi (Nat.mul_le_mul_right _ (by omega)))), ih (fun i hi => h i (by rw [e]; exact hi))]
theorem St_congr {g : Nat → α} {n : Nat} (h : ∀ i, i < n → f i = g i) : St nh f n = St nh g n := by
  induction n with
  | zero => rfl
  | succ n ih =>
    rw [St, St, ih (fun i hi => h i (by omega)), h n (by omega)]
    congr 2
    apply List.map_congr_left
    intro c hc
    obtain ⟨i, hi, rfl⟩ := List.mem_map.1 hc
    refine R_congr nh f fun j hj => h j ?_
    have h1 := odd_of_lt (List.mem_range.1 hi)
    have h3 := Nat.div_mul_le_self n (2 ^ i)
    have h2 : (n / 2 ^ i - 1 + 1) = n / 2 ^ i := by
      generalize n / 2 ^ i = q at *
      omega
    simp only [h2] at hj
    omega
theorem St_take {k n : Nat} (h : k ≤ n) : (St nh f n).take (Idx.wh k) = St nh f k := by
  obtain ⟨r, hr⟩ := St_mono nh f h
  rw [hr, List.take_append_of_le_length (by rw [St_len]; omega), List.take_of_length_le (by rw [St_len]; omega)]
end

end Go.Proofs.YtokopcbmpnnkcaaDoor.Tr
