/- Plain laws on versions: what the canonical form parses to, that versions compare as their canonical forms do, and what is equal. No program is in sight here; no condition. -/
import Derived.Test.YtienkoadkhcghaaSemOrder
namespace Go.Proofs.Ytienkoadkhcghaa.Sem

/-- the canonical parts -/
def canonV (v : Ver) : Ver := ⟨v.major, v.minor, v.patch, [], v.pre, []⟩
theorem canon_text {x : Bs} {v : Ver} (h : parse x = some v) : canonical x = 118 :: (v.major ++ 46 :: (v.minor ++ 46 :: (v.patch ++ v.pre))) := by
  unfold canonical
  rw [h]
  obtain ⟨⟨ha, hb, hd, hg⟩, rfl⟩ := parse_iff.1 h
  obtain ⟨a, b, d, sh, pre, build⟩ := v
  simp only at hg ⊢
  rcases hg with ⟨rfl, ht⟩ | ⟨rfl, rfl, rfl, rfl⟩ | ⟨rfl, rfl, rfl, rfl, rfl⟩
  · by_cases e : build = []
    · subst e; simp [textOf]
    · rw [if_pos e]
      have : textOf ⟨a, b, d, [], pre, build⟩ = (118 :: (a ++ 46 :: (b ++ 46 :: (d ++ pre)))) ++ build := by simp [textOf]
      rw [this, List.length_append, Nat.add_sub_cancel, List.take_left]
  · simp [textOf]
  · simp [textOf]
theorem good_canon {v : Ver} (h : Good v) : Good (canonV v) := by
  obtain ⟨ha, hb, hd, hg⟩ := h
  refine ⟨ha, hb, hd, .inl ⟨rfl, ?_, .inl rfl⟩⟩
  rcases hg with ⟨_, ht, _⟩ | ⟨_, _, h, _⟩ | ⟨_, _, _, h, _⟩
  · exact ht
  · exact .inl h
  · exact .inl h
theorem parse_canon {x : Bs} {v : Ver} (h : parse x = some v) : parse (canonical x) = some (canonV v) := by
  rw [parse_iff]
  refine ⟨good_canon (parse_iff.1 h).1, ?_⟩
  rw [canon_text h]
  simp [textOf, canonV]
theorem canon_none {x : Bs} (h : parse x = none) : canonical x = [] := by unfold canonical; rw [h]
theorem parse_nil : parse [] = none := rfl
theorem canon_ne {x : Bs} {v : Ver} (h : parse x = some v) : canonical x ≠ [] := by rw [canon_text h]; simp
theorem parse_canonical (x : Bs) : parse (canonical x) = (parse x).map canonV := by
  cases h : parse x with
  | none => rw [canon_none h]; rfl
  | some v => rw [parse_canon h]; rfl
theorem cmpVer_canon (a b : Ver) : cmpVer (canonV a) (canonV b) = cmpVer a b := rfl
theorem cmpVer_canon_l (a b : Ver) : cmpVer (canonV a) b = cmpVer a b := rfl
theorem cmpVer_canon_r (a b : Ver) : cmpVer a (canonV b) = cmpVer a b := rfl
theorem compare_canon (x y : Bs) : compare (canonical x) (canonical y) = compare x y := by
  rw [compare_opt, compare_opt, parse_canonical, parse_canonical]
  cases parse x <;> cases parse y <;> rfl
theorem compare_canon_l (x y : Bs) : compare (canonical x) y = compare x y := by
  rw [compare_opt, compare_opt, parse_canonical]
  cases parse x <;> cases parse y <;> rfl
theorem compare_canon_r (x y : Bs) : compare x (canonical y) = compare x y := by
  rw [compare_opt, compare_opt, parse_canonical]
  cases parse x <;> cases parse y <;> rfl
theorem pre_zero {x y : Bs} (hx : x = [] ∨ x.head? = some 45) (hy : y = [] ∨ y.head? = some 45) (h : cmpPre x y = 0) : x = y := by
  rw [pre_eq] at h
  unfold lex at h
  split at h
  · contradiction
  · rename_i k
    simp only [ne_eq, Decidable.not_not, cmpNat_zero] at k
    have hi := ids_inj _ _ ((cmpIds_zero _ _).1 h)
    by_cases h1 : x = []
    · by_cases h2 : y = []
      · rw [h1, h2]
      · simp [h1, h2] at k
    · by_cases h2 : y = []
      · simp [h1, h2] at k
      · rcases hx with hx | hx
        · exact absurd hx h1
        · rcases hy with hy | hy
          · exact absurd hy h2
          · cases x with
            | nil => exact absurd rfl h1
            | cons c x =>
              cases y with
              | nil => exact absurd rfl h2
              | cons d y =>
                simp at hx hy hi
                rw [hx, hy, hi]
theorem ver_zero {x y : Bs} {a b : Ver} (hx : parse x = some a) (hy : parse y = some b) (h : cmpVer a b = 0) : a.major = b.major ∧ a.minor = b.minor ∧ a.patch = b.patch ∧ a.pre = b.pre := by
  unfold cmpVer at h
  have s1 : cmpInt a.major b.major = 0 := by
    by_cases e : cmpInt a.major b.major = 0
    · exact e
    · rw [if_pos e] at h; exact h
  rw [if_neg (by simp [s1])] at h
  have s2 : cmpInt a.minor b.minor = 0 := by
    by_cases e : cmpInt a.minor b.minor = 0
    · exact e
    · rw [if_pos e] at h; exact h
  rw [if_neg (by simp [s2])] at h
  have s3 : cmpInt a.patch b.patch = 0 := by
    by_cases e : cmpInt a.patch b.patch = 0
    · exact e
    · rw [if_pos e] at h; exact h
  rw [if_neg (by simp [s3])] at h
  exact ⟨(int_zero _ _).1 s1, (int_zero _ _).1 s2, (int_zero _ _).1 s3, pre_zero (parse_pre hx) (parse_pre hy) h⟩
theorem compare_zero (x y : Bs) : compare x y = 0 ↔ canonical x = canonical y := by
  constructor
  · intro h
    rw [compare_opt] at h
    cases hx : parse x with
    | none =>
      cases hy : parse y with
      | none => rw [canon_none hx, canon_none hy]
      | some b => rw [hx, hy] at h; simp [cmpOpt] at h
    | some a =>
      cases hy : parse y with
      | none => rw [hx, hy] at h; simp [cmpOpt] at h
      | some b =>
        rw [hx, hy] at h
        obtain ⟨h1, h2, h3, h4⟩ := ver_zero hx hy h
        rw [canon_text hx, canon_text hy, h1, h2, h3, h4]
  · intro h
    rw [← compare_canon, h]
    exact lin_compare.self _
theorem isValid_iff (x : Bs) : isValid x = true ↔ canonical x ≠ [] := by
  unfold isValid
  cases h : parse x with
  | none => simp [canon_none h]
  | some v => simp [canon_ne h]
theorem isValid_canon (x : Bs) : isValid (canonical x) = isValid x := by unfold isValid; rw [parse_canonical]; cases parse x <;> rfl
theorem isValid_false {x : Bs} (h : isValid x = false) : parse x = none := by unfold isValid at h; cases k : parse x with | none => rfl | some v => rw [k] at h; cases h
theorem isValid_true {x : Bs} (h : isValid x = true) : ∃ v, parse x = some v := by unfold isValid at h; cases k : parse x with | none => rw [k] at h; cases h | some v => exact ⟨v, rfl⟩

/-- a canonical form with a build -/
theorem parse_build {x b : Bs} {v : Ver} (h : parse x = some v) (hb : BuildOk b) : parse (canonical x ++ b) = some ⟨v.major, v.minor, v.patch, [], v.pre, b⟩ := by
  rw [parse_iff]
  obtain ⟨ha, hm, hp, hg⟩ := (parse_iff.1 h).1
  refine ⟨⟨ha, hm, hp, .inl ⟨rfl, ?_, .inr hb⟩⟩, ?_⟩
  · rcases hg with ⟨_, ht, _⟩ | ⟨_, _, h, _⟩ | ⟨_, _, _, h, _⟩
    · exact ht
    · exact .inl h
    · exact .inl h
  · rw [canon_text h]; simp [textOf]

end Go.Proofs.Ytienkoadkhcghaa.Sem
