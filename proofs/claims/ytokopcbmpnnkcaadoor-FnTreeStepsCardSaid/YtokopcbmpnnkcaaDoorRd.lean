/- What a reader of stored hashes reads, and what is read of the hashes that are stored for some records: plain laws, no program in sight. No condition. -/
import Derived.Test.YtokopcbmpnnkcaaDoorT2
namespace Go.Proofs.YtokopcbmpnnkcaaDoor
set_option linter.unusedVariables false

/-- the hashes that are read at some places -/
def rd (ls : List (List Int)) : List Nat → Option (List (List Int))
  | [] => some []
  | i :: r => match ls[i]? with
    | none => none
    | some l => (rd ls r).map (h32 l :: ·)
theorem rd_cons {ls : List (List Int)} {i : Nat} {l : List Int} (r : List Nat) (h : ls[i]? = some l) : rd ls (i :: r) = (rd ls r).map (h32 l :: ·) := by
  simp only [rd, h]
theorem rd_cons_none {ls : List (List Int)} {i : Nat} (r : List Nat) (h : ls[i]? = none) : rd ls (i :: r) = none := by
  simp only [rd, h]
theorem rd_append (ls : List (List Int)) (xs ys : List Nat) : rd ls (xs ++ ys) = (rd ls xs).bind fun a => (rd ls ys).map (a ++ ·) := by
  induction xs with
  | nil => simp [rd]
  | cons i r ih =>
    cases h : ls[i]? with
    | none => rw [List.cons_append, rd_cons_none _ h, rd_cons_none _ h]; rfl
    | some l =>
      rw [List.cons_append, rd_cons _ h, rd_cons _ h, ih]
      cases rd ls r <;> cases rd ls ys <;> simp
theorem rd_snoc {ls : List (List Int)} {xs : List Nat} {os : List (List Int)} {i : Nat} {l : List Int} (h : rd ls xs = some os) (hi : ls[i]? = some l) : rd ls (xs ++ [i]) = some (os ++ [h32 l]) := by
  rw [rd_append, h, rd_cons _ hi]; rfl
theorem rd_none {ls : List (List Int)} {xs : List Nat} {k i : Nat} (hk : xs[k]? = some i) (hi : ls.length ≤ i) : rd ls xs = none := by
  induction xs generalizing k with
  | nil => simp at hk
  | cons j r ih =>
    cases k with
    | zero =>
      obtain rfl : j = i := by simpa using hk
      exact rd_cons_none _ (List.getElem?_eq_none hi)
    | succ k =>
      have := ih (by simpa using hk)
      cases h : ls[j]? with
      | none => exact rd_cons_none _ h
      | some l => rw [rd_cons _ h, this]; rfl
theorem rd_len {ls : List (List Int)} {xs : List Nat} {os : List (List Int)} (h : rd ls xs = some os) : os.length = xs.length := by
  induction xs generalizing os with
  | nil => simp [rd] at h; subst h; rfl
  | cons i r ih =>
    cases hi : ls[i]? with
    | none => rw [rd_cons_none _ hi] at h; cases h
    | some l =>
      rw [rd_cons _ hi, Option.map_eq_some_iff] at h
      obtain ⟨a, ha, rfl⟩ := h
      simp [ih ha]
theorem rd_32 {ls : List (List Int)} {xs : List Nat} {os : List (List Int)} (h : rd ls xs = some os) : ∀ o ∈ os, o.length = 32 := by
  induction xs generalizing os with
  | nil => simp [rd] at h; subst h; simp
  | cons i r ih =>
    cases hi : ls[i]? with
    | none => rw [rd_cons_none _ hi] at h; cases h
    | some l =>
      rw [rd_cons _ hi, Option.map_eq_some_iff] at h
      obtain ⟨a, ha, rfl⟩ := h
      intro o ho
      rcases List.mem_cons.1 ho with rfl | ho
      · exact h32_len l
      · exact ih ha o ho
theorem rd_get {ls : List (List Int)} {xs : List Nat} {os : List (List Int)} {k i : Nat} (h : rd ls xs = some os) (hk : xs[k]? = some i) : ∃ l, ls[i]? = some l ∧ os[k]? = some (h32 l) := by
  induction xs generalizing os k with
  | nil => simp at hk
  | cons j r ih =>
    cases hi : ls[j]? with
    | none => rw [rd_cons_none _ hi] at h; cases h
    | some l =>
      rw [rd_cons _ hi, Option.map_eq_some_iff] at h
      obtain ⟨a, ha, rfl⟩ := h
      cases k with
      | zero =>
        obtain rfl : j = i := by simpa using hk
        exact ⟨l, hi, rfl⟩
      | succ k =>
        obtain ⟨l', h1, h2⟩ := ih ha (k := k) (by simpa using hk)
        exact ⟨l', h1, by simpa using h2⟩
theorem rd_all {ls : List (List Int)} {xs : List Nat} (h : ∀ i ∈ xs, i < ls.length) : ∃ os, rd ls xs = some os := by
  induction xs with
  | nil => exact ⟨[], rfl⟩
  | cons i r ih =>
    obtain ⟨os, ho⟩ := ih (fun j hj => h j (by simp [hj]))
    have hi := h i (by simp)
    exact ⟨_, by rw [rd_cons _ (List.getElem?_eq_getElem hi), ho]; rfl⟩
theorem R_len {ks : List Int} {f : Nat → List Int} (hf : ∀ n, (f n).length = 32) (l n : Nat) : (Tr.R (nhK ks) f l n).length = 32 := by
  cases l with
  | zero => exact hf n
  | succ l => exact nhK_len _ _ _
/-- what is read of the hashes that are stored for some records -/
theorem rd_St {ks : List Int} {f : Nat → List Int} (hf : ∀ n, (f n).length = 32) {n : Nat} {cs : List (Nat × Nat)} (h : ∀ c ∈ cs, (c.2 + 1) * 2 ^ c.1 ≤ n) : rd (Tr.St (nhK ks) f n) (ixs cs) = some (cs.map (Tr.Rc (nhK ks) f)) := by
  induction cs with
  | nil => rfl
  | cons c r ih =>
    have h1 := ih (fun d hd => h d (by simp [hd]))
    have h2 := Tr.St_at (nhK ks) f (h c (by simp))
    show rd _ (Idx.idx c.1 c.2 :: ixs r) = _
    rw [rd_cons _ h2, h1, h32_self (R_len hf _ _)]
    rfl
theorem St_32 {ks : List Int} {f : Nat → List Int} (hf : ∀ n, (f n).length = 32) (n : Nat) : ∀ h ∈ Tr.St (nhK ks) f n, h.length = 32 := by
  have hch : ∀ (os : List (List Int)) (h : List Int), h.length = 32 → ∀ x ∈ Tr.chain (nhK ks) h os, x.length = 32 := by
    intro os
    induction os with
    | nil => intro h hl x hx; obtain rfl : x = h := by simpa [Tr.chain] using hx
             exact hl
    | cons o os ih =>
      intro h hl x hx
      rcases List.mem_cons.1 hx with rfl | hx
      · exact hl
      · exact ih _ (nhK_len _ _ _) x hx
  induction n with
  | zero => simp [Tr.St]
  | succ n ih =>
    intro h hh
    rcases List.mem_append.1 hh with hh | hh
    · exact ih h hh
    · exact hch _ _ (hf n) h hh
theorem chain_32 {ks : List Int} (os : List (List Int)) : ∀ (h : List Int), h.length = 32 → ∀ x ∈ Tr.chain (nhK ks) h os, x.length = 32 := by
  induction os with
  | nil => intro h hl x hx; obtain rfl : x = h := by simpa [Tr.chain] using hx
           exact hl
  | cons o os ih =>
    intro h hl x hx
    rcases List.mem_cons.1 hx with rfl | hx
    · exact hl
    · exact ih _ (nhK_len _ _ _) x hx

end Go.Proofs.YtokopcbmpnnkcaaDoor
