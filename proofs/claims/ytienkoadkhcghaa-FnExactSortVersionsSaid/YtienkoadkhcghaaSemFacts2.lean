/- Plain laws on the parts of versions and on maxima. No program is in sight here; no condition. -/
import Derived.Test.YtienkoadkhcghaaSemFacts
namespace Go.Proofs.Ytienkoadkhcghaa.Sem

theorem major_text {x : Bs} {v : Ver} (h : parse x = some v) : majorOf x = 118 :: v.major := by
  unfold majorOf
  rw [h]
  obtain ⟨_, rfl⟩ := parse_iff.1 h
  simp only [textOf]
  rw [Nat.add_comm 1, List.take_succ_cons, List.take_left]
theorem majorMinor_text {x : Bs} {v : Ver} (h : parse x = some v) : majorMinor x = 118 :: (v.major ++ 46 :: v.minor) := by
  unfold majorMinor
  rw [h]
  obtain ⟨⟨ha, hb, hd, hg⟩, rfl⟩ := parse_iff.1 h
  obtain ⟨a, b, d, sh, pre, build⟩ := v
  simp only at hg ⊢
  have tk : ∀ r : Bs, (118 :: (a ++ 46 :: (b ++ r))).take (1 + a.length + 1 + b.length) = 118 :: (a ++ 46 :: b) := fun r => by
    have e : (118 :: (a ++ 46 :: (b ++ r))) = (118 :: (a ++ 46 :: b)) ++ r := by simp
    have n : 1 + a.length + 1 + b.length = (118 :: (a ++ 46 :: b)).length := by simp; omega
    rw [e, n, List.take_left]
  have gt : ∀ r : Bs, (118 :: (a ++ 46 :: r))[1 + a.length]? = some 46 := fun r => by
    rw [Nat.add_comm 1, List.getElem?_cons_succ, List.getElem?_append_right (Nat.le_refl _)]; simp
  have dr : ∀ r : Bs, ((118 :: (a ++ 46 :: (b ++ r))).drop (1 + a.length + 1)).take b.length = b := fun r => by
    rw [show 1 + a.length + 1 = (a.length + 1) + 1 by omega, List.drop_succ_cons, List.drop_append, List.drop_eq_nil_of_le (by omega)]; simp
  rcases hg with ⟨rfl, ht⟩ | ⟨rfl, rfl, rfl, rfl⟩ | ⟨rfl, rfl, rfl, rfl, rfl⟩
  · have e : textOf ⟨a, b, d, [], pre, build⟩ = 118 :: (a ++ 46 :: (b ++ (46 :: (d ++ (pre ++ build))))) := by simp [textOf]
    rw [e, if_pos ⟨by simp; omega, gt _, dr _⟩, tk]
  · have e : textOf ⟨a, b, [48], [46, 48], [], []⟩ = 118 :: (a ++ 46 :: (b ++ [])) := by simp [textOf]
    rw [e, if_pos ⟨by simp; omega, gt _, dr _⟩, tk]
  · have e : textOf ⟨a, [48], [48], [46, 48, 46, 48], [], []⟩ = 118 :: a := by simp [textOf]
    rw [e, if_neg (by rintro ⟨k, _⟩; simp at k; omega), Nat.add_comm 1, List.take_succ_cons, List.take_length]
    simp
theorem pre_text {x : Bs} {v : Ver} (h : parse x = some v) : prerelease x = v.pre := by unfold prerelease; rw [h]
theorem build_text {x : Bs} {v : Ver} (h : parse x = some v) : build x = v.build := by unfold build; rw [h]
theorem major_none {x : Bs} (h : parse x = none) : majorOf x = [] := by unfold majorOf; rw [h]
theorem majorMinor_none {x : Bs} (h : parse x = none) : majorMinor x = [] := by unfold majorMinor; rw [h]
theorem pre_none {x : Bs} (h : parse x = none) : prerelease x = [] := by unfold prerelease; rw [h]
theorem build_none {x : Bs} (h : parse x = none) : build x = [] := by unfold build; rw [h]

theorem canon_idem (x : Bs) : canonical (canonical x) = canonical x := by
  cases h : parse x with
  | none => rw [canon_none h]; rfl
  | some v => rw [canon_text (parse_canon h), canon_text h]; rfl
theorem major_canon (x : Bs) : majorOf (canonical x) = majorOf x := by
  cases h : parse x with
  | none => rw [canon_none h, major_none h]; rfl
  | some v => rw [major_text (parse_canon h), major_text h]; rfl
theorem majorMinor_canon (x : Bs) : majorMinor (canonical x) = majorMinor x := by
  cases h : parse x with
  | none => rw [canon_none h, majorMinor_none h]; rfl
  | some v => rw [majorMinor_text (parse_canon h), majorMinor_text h]; rfl
theorem pre_canon (x : Bs) : prerelease (canonical x) = prerelease x := by
  cases h : parse x with
  | none => rw [canon_none h, pre_none h]; rfl
  | some v => rw [pre_text (parse_canon h), pre_text h]; rfl
theorem build_canon (x : Bs) : build (canonical x) = [] := by
  cases h : parse x with
  | none => rw [canon_none h]; rfl
  | some v => rw [build_text (parse_canon h)]; rfl

/-- a version with its three numbers is its canonical form with its build; one with fewer becomes it by .0 or .0.0 -/
theorem rebuilt {x : Bs} {v : Ver} (h : parse x = some v) : canonical x ++ build x = x ∨ (build x = [] ∧ (canonical x = x ++ [46, 48] ∨ canonical x = x ++ [46, 48, 46, 48])) := by
  rw [canon_text h, build_text h]
  obtain ⟨⟨ha, hb, hd, hg⟩, rfl⟩ := parse_iff.1 h
  obtain ⟨a, b, d, sh, pre, build⟩ := v
  simp only at hg
  rcases hg with ⟨rfl, ht⟩ | ⟨rfl, rfl, rfl, rfl⟩ | ⟨rfl, rfl, rfl, rfl, rfl⟩
  · left; simp [textOf]
  · right; exact ⟨rfl, .inl (by simp [textOf])⟩
  · right; exact ⟨rfl, .inr (by simp [textOf])⟩

/-- the greater one of two canonical texts -/
def mx (a b : Bs) : Bs := if compare a b > 0 then a else b
theorem maxV_mx (x y : Bs) : maxV x y = mx (canonical x) (canonical y) := rfl
theorem mx_canon {a b : Bs} (ha : canonical a = a) (hb : canonical b = b) : canonical (mx a b) = mx a b := by unfold mx; split <;> assumption
theorem canon_eq_of_zero {a b : Bs} (ha : canonical a = a) (hb : canonical b = b) (h : compare a b = 0) : a = b := by
  rw [← ha, ← hb]; exact (compare_zero a b).1 h
theorem mx_comm {a b : Bs} (ha : canonical a = a) (hb : canonical b = b) : mx b a = mx a b := by
  unfold mx
  have hs := lin_compare.swap a b
  by_cases h1 : compare a b > 0
  · rw [if_pos h1, if_neg (by omega)]
  · rw [if_neg h1]
    by_cases h2 : compare b a > 0
    · rw [if_pos h2]
    · rw [if_neg h2]; exact canon_eq_of_zero ha hb (by omega)
theorem mx_assoc (a b c : Bs) : mx a (mx b c) = mx (mx a b) c := by
  unfold mx
  have s1 := lin_compare.swap a b
  have s2 := lin_compare.swap b c
  have s3 := lin_compare.swap a c
  by_cases p : compare a b > 0
  · rw [if_pos p]
    by_cases q : compare b c > 0
    · have := lin_compare.chain c b a (by omega) (by omega)
      rw [if_pos q, if_pos p, if_pos (by omega)]
    · rw [if_neg q]
  · rw [if_neg p]
    by_cases q : compare b c > 0
    · rw [if_pos q, if_neg p]
    · have := lin_compare.chain a b c (by omega) (by omega)
      rw [if_neg q, if_neg (by omega)]
theorem mx_self (a : Bs) : mx a a = a := by unfold mx; split <;> rfl
theorem mx_or (a b : Bs) : mx a b = a ∨ mx a b = b := by unfold mx; split <;> simp
theorem mx_ge_l (a b : Bs) : 0 ≤ compare (mx a b) a := by
  unfold mx
  split
  · rw [lin_compare.self]; omega
  · have := lin_compare.swap a b; omega
theorem mx_ge_r (a b : Bs) : 0 ≤ compare (mx a b) b := by
  unfold mx
  split
  · omega
  · rw [lin_compare.self]; omega
theorem ge_trans {a b c : Bs} (h1 : 0 ≤ compare a b) (h2 : 0 ≤ compare b c) : 0 ≤ compare a c := by
  have s1 := lin_compare.swap a b
  have s2 := lin_compare.swap b c
  have s3 := lin_compare.swap a c
  have := lin_compare.chain c b a (by omega) (by omega)
  omega

theorem max_or (x y : Bs) : maxV x y = canonical x ∨ maxV x y = canonical y := mx_or _ _
theorem max_ge_l (x y : Bs) : 0 ≤ compare (maxV x y) x := by rw [← compare_canon_r]; exact mx_ge_l _ _
theorem max_ge_r (x y : Bs) : 0 ≤ compare (maxV x y) y := by rw [← compare_canon_r]; exact mx_ge_r _ _
theorem max_comm (x y : Bs) : maxV y x = maxV x y := mx_comm (canon_idem x) (canon_idem y)
theorem max_self (x : Bs) : maxV x x = canonical x := mx_self _
theorem max_canon (x y : Bs) : canonical (maxV x y) = maxV x y := mx_canon (canon_idem x) (canon_idem y)
theorem max_assoc (x y z : Bs) : maxV x (maxV y z) = maxV (maxV x y) z := by
  have e1 : maxV x (maxV y z) = mx (canonical x) (maxV y z) := by rw [maxV_mx x (maxV y z), max_canon]
  have e2 : maxV (maxV x y) z = mx (maxV x y) (canonical z) := by rw [maxV_mx (maxV x y) z, max_canon]
  rw [e1, e2]
  exact mx_assoc _ _ _
theorem max_len (x y : Bs) {n : Nat} (hx : (canonical x).length ≤ n) (hy : (canonical y).length ≤ n) : (maxV x y).length ≤ n := by
  rcases max_or x y with h | h <;> rw [h] <;> assumption

/-! ### which bytes stand where -/
theorem num_chars {t : Bs} (h : Num t) : ∀ c ∈ t, isId c = true := by
  intro c hc
  have := List.all_eq_true.1 h.2.1 c hc
  unfold isId
  rw [this]
  simp
/-- the last byte is a letter of an identifier -/
def EndsId (l : Bs) : Prop := ∃ c, l.getLast? = some c ∧ isId c = true
theorem EndsId.app {l r : Bs} (h : EndsId r) : EndsId (l ++ r) := by
  obtain ⟨c, h1, h2⟩ := h
  exact ⟨c, by rw [List.getLast?_append, h1]; rfl, h2⟩
theorem EndsId.cons {d : UInt8} {r : Bs} (h : EndsId r) : EndsId (d :: r) := EndsId.app (l := [d]) h
theorem num_ends {t : Bs} (h : Num t) : EndsId t := by
  cases hl : t.getLast? with
  | none => rw [List.getLast?_eq_none_iff] at hl; exact absurd hl h.1
  | some c => exact ⟨c, hl, num_chars h c (List.mem_of_getLast? hl)⟩
theorem chk_ends {num : Bool} {cur b : Bs} (h : chk num cur b = true) (hb : b ≠ [] ) : EndsId b := by
  induction b generalizing cur with
  | nil => exact absurd rfl hb
  | cons d r ih =>
    by_cases hr : r = []
    · subst hr
      by_cases hd : d = 46
      · subst hd
        rw [chk_cons_dot, Bool.and_eq_true] at h
        simp [chk] at h
      · rw [chk_cons_ne _ _ _ hd, Bool.and_eq_true] at h
        exact ⟨d, rfl, h.1⟩
    · by_cases hd : d = 46
      · subst hd
        rw [chk_cons_dot, Bool.and_eq_true] at h
        exact (ih h.2 hr).cons
      · rw [chk_cons_ne _ _ _ hd, Bool.and_eq_true] at h
        exact (ih h.2 hr).cons
theorem chk_ne {num : Bool} {b : Bs} (h : chk num [] b = true) : b ≠ [] := by rintro rfl; simp [chk] at h
theorem valid_ends {x : Bs} {v : Ver} (h : parse x = some v) : EndsId x := by
  obtain ⟨⟨ha, hb, hd, hg⟩, rfl⟩ := parse_iff.1 h
  obtain ⟨a, b, d, sh, pre, build⟩ := v
  simp only at ha hb hd hg
  rcases hg with ⟨rfl, h1, h2⟩ | ⟨rfl, rfl, rfl, rfl⟩ | ⟨rfl, rfl, rfl, rfl, rfl⟩
  · simp only [textOf]
    refine EndsId.cons (EndsId.app (EndsId.cons (EndsId.app (EndsId.cons ?_))))
    rcases h2 with h2 | ⟨y, h2, hy⟩
    · subst h2
      rw [List.append_nil]
      rcases h1 with h1 | ⟨y, h1, hy⟩
      · subst h1; rw [List.append_nil]; exact num_ends hd
      · subst h1; exact ((chk_ends hy (chk_ne hy)).cons).app
    · subst h2; exact (((chk_ends hy (chk_ne hy)).cons).app).app
  · simp only [textOf]
    refine EndsId.cons (EndsId.app (EndsId.cons ?_))
    simpa using num_ends hb
  · simp only [textOf]
    refine EndsId.cons ?_
    simpa using num_ends ha
/-- letters of identifiers, points, plus signs -/
theorem valid_chars {x : Bs} {v : Ver} (h : parse x = some v) : ∀ c ∈ x, isId c = true ∨ c = 46 ∨ c = 43 := by
  obtain ⟨⟨ha, hb, hd, hg⟩, rfl⟩ := parse_iff.1 h
  obtain ⟨a, b, d, sh, pre, build⟩ := v
  simp only at ha hb hd hg
  have na := num_chars ha
  have nb := num_chars hb
  have nd := num_chars hd
  intro c hc
  rcases hg with ⟨rfl, h1, h2⟩ | ⟨rfl, rfl, rfl, rfl⟩ | ⟨rfl, rfl, rfl, rfl, rfl⟩
  · have hp : ∀ c ∈ pre, isId c = true ∨ c = 46 ∨ c = 43 := by
      rcases h1 with h1 | ⟨y, h1, hy⟩
      · subst h1; intro c hc; cases hc
      · subst h1
        intro c hc
        rcases List.mem_cons.1 hc with e | e
        · rw [e]; left; decide
        · rcases chk_chars hy c e with k | k
          · exact .inl k
          · exact .inr (.inl k)
    have hbu : ∀ c ∈ build, isId c = true ∨ c = 46 ∨ c = 43 := by
      rcases h2 with h2 | ⟨y, h2, hy⟩
      · subst h2; intro c hc; cases hc
      · subst h2
        intro c hc
        rcases List.mem_cons.1 hc with e | e
        · exact .inr (.inr e)
        · rcases chk_chars hy c e with k | k
          · exact .inl k
          · exact .inr (.inl k)
    simp [textOf] at hc
    rcases hc with e | e | e | e | e | e | e | e
    · rw [e]; left; decide
    · exact .inl (na c e)
    · exact .inr (.inl e)
    · exact .inl (nb c e)
    · exact .inr (.inl e)
    · exact .inl (nd c e)
    · exact hp c e
    · exact hbu c e
  · simp [textOf] at hc
    rcases hc with e | e | e | e
    · rw [e]; left; decide
    · exact .inl (na c e)
    · exact .inr (.inl e)
    · exact .inl (nb c e)
  · simp [textOf] at hc
    rcases hc with e | e
    · rw [e]; left; decide
    · exact .inl (na c e)

end Go.Proofs.Ytienkoadkhcghaa.Sem
