/- The texts that are versions, told by their parts: 'parse l = some v' just if the parts v are good and l is their text. No program is in sight here; no condition. -/
import Derived.Test.YtienkoadkhcghaaSemInv
namespace Go.Proofs.Ytienkoadkhcghaa.Sem

/-- a decimal number without superfluous zeros -/
def Num (t : Bs) : Prop := t ≠ [] ∧ t.all isDig = true ∧ (t.length = 1 ∨ t.head? ≠ some 48)
/-- no digit ahead -/
def NoDig (r : Bs) : Prop := ∀ c, r.head? = some c → isDig c = false

theorem takeWhile_split {p : UInt8 → Bool} {t r : Bs} (h : t.all p = true) (hr : ∀ c, r.head? = some c → p c = false) : (t ++ r).takeWhile p = t ∧ (t ++ r).dropWhile p = r := by
  induction t with
  | nil =>
    cases r with
    | nil => exact ⟨rfl, rfl⟩
    | cons c r =>
      have : ¬ p c = true := by rw [hr c rfl]; simp
      simp [List.takeWhile_cons_of_neg this, List.dropWhile_cons_of_neg this]
  | cons c t ih =>
    simp only [List.all_cons, Bool.and_eq_true] at h
    have := ih h.2
    simp [List.takeWhile_cons_of_pos h.1, List.dropWhile_cons_of_pos h.1, this]
theorem takeWhile_all (p : UInt8 → Bool) (l : Bs) : (l.takeWhile p).all p = true := by
  induction l with
  | nil => rfl
  | cons c r ih =>
    by_cases h : p c = true
    · rw [List.takeWhile_cons_of_pos h]; simp only [List.all_cons, h, ih, Bool.and_self]
    · rw [List.takeWhile_cons_of_neg h]; rfl
theorem dropWhile_head (p : UInt8 → Bool) (l : Bs) : ∀ c, (l.dropWhile p).head? = some c → p c = false := by
  induction l with
  | nil => intro c h; cases h
  | cons d r ih =>
    intro c h
    by_cases hd : p d = true
    · rw [List.dropWhile_cons_of_pos hd] at h; exact ih c h
    · rw [List.dropWhile_cons_of_neg hd] at h
      simp at h
      rw [← h]; simpa using hd

theorem parseInt_iff {l t r : Bs} : parseInt l = some (t, r) ↔ t ++ r = l ∧ Num t ∧ NoDig r := by
  constructor
  · intro h
    refine ⟨parseInt_split h, ?_⟩
    unfold parseInt at h
    split at h
    · cases h
    · rename_i c x
      split at h
      · rename_i hc
        split at h
        · cases h
        · rename_i hz
          simp only [Option.some.injEq, Prod.mk.injEq] at h
          obtain ⟨rfl, rfl⟩ := h
          refine ⟨⟨?_, takeWhile_all _ _, ?_⟩, dropWhile_head _ _⟩
          · rw [List.takeWhile_cons_of_pos hc]; simp
          · rw [List.takeWhile_cons_of_pos hc]
            rw [List.takeWhile_cons_of_pos hc] at hz
            by_cases e : c = 48
            · left; simpa [e] using hz
            · right; simpa using e
      · cases h
  · rintro ⟨rfl, ⟨hne, had, hz⟩, hr⟩
    obtain ⟨h1, h2⟩ := takeWhile_split had hr
    cases t with
    | nil => exact absurd rfl hne
    | cons c t =>
      have hc : isDig c = true := by simp only [List.all_cons, Bool.and_eq_true] at had; exact had.1
      have e : (c :: t) ++ r = c :: (t ++ r) := rfl
      rw [e] at h1 h2 ⊢
      unfold parseInt
      rw [h1, h2]
      simp only [hc, if_true]
      rw [if_neg]
      rintro ⟨k1, k2⟩
      rcases hz with hz | hz
      · exact k2 hz
      · exact hz (by rw [k1]; rfl)

/-- chk sees letters of identifiers and points alone -/
theorem chk_chars {num : Bool} {cur b : Bs} (h : chk num cur b = true) : ∀ c ∈ b, isId c = true ∨ c = 46 := by
  induction b generalizing cur with
  | nil => intro c hc; cases hc
  | cons d r ih =>
    intro c hc
    by_cases hd : d = 46
    · subst hd
      rw [chk_cons_dot, Bool.and_eq_true] at h
      rcases List.mem_cons.1 hc with e | e
      · exact .inr e
      · exact ih h.2 c e
    · rw [chk_cons_ne _ _ _ hd, Bool.and_eq_true] at h
      rcases List.mem_cons.1 hc with e | e
      · rw [e]; exact .inl h.1
      · exact ih h.2 c e
theorem chk_no_plus {num : Bool} {b : Bs} (h : chk num [] b = true) : b.all (· != 43) = true := by
  rw [List.all_eq_true]
  intro c hc
  rcases chk_chars h c hc with e | e
  · rw [bne_iff_ne]; rintro rfl; revert e; decide
  · rw [e]; decide

def PreOk (t : Bs) : Prop := ∃ b, t = 45 :: b ∧ chk true [] b = true
def BuildOk (t : Bs) : Prop := ∃ b, t = 43 :: b ∧ chk false [] b = true

theorem parsePre_iff {l t r : Bs} : parsePre l = some (t, r) ↔ t ++ r = l ∧ PreOk t ∧ (∀ c, r.head? = some c → c = 43) := by
  constructor
  · intro h
    refine ⟨parsePre_split h, ?_⟩
    unfold parsePre at h
    split at h
    · cases h
    · rename_i c x
      split at h
      · rename_i hc
        split at h
        · rename_i hk
          simp only [Option.some.injEq, Prod.mk.injEq] at h
          obtain ⟨rfl, rfl⟩ := h
          exact ⟨⟨_, by rw [hc], hk⟩, fun c hc => by have := dropWhile_head _ _ c hc; simpa using this⟩
        · cases h
      · cases h
  · rintro ⟨rfl, ⟨b, rfl, hk⟩, hr⟩
    obtain ⟨h1, h2⟩ := takeWhile_split (r := r) (chk_no_plus hk) (fun c hc => by rw [hr c hc]; rfl)
    show parsePre (45 :: (b ++ r)) = _
    unfold parsePre
    simp only [h1, h2, hk, if_true]

theorem parseBuild_iff {l t r : Bs} : parseBuild l = some (t, r) ↔ t = l ∧ r = [] ∧ BuildOk t := by
  constructor
  · intro h
    obtain ⟨h1, h2⟩ := parseBuild_split h
    refine ⟨h1, h2, ?_⟩
    subst h1 h2
    unfold parseBuild at h
    split at h
    · cases h
    · rename_i c x
      split at h
      · rename_i hc
        split at h
        · rename_i hk
          exact ⟨_, by rw [hc], hk⟩
        · cases h
      · cases h
  · rintro ⟨rfl, rfl, b, rfl, hk⟩
    simp [parseBuild, hk]

/-- what may stand behind three numbers -/
def TailOk (pre build : Bs) : Prop := (pre = [] ∨ PreOk pre) ∧ (build = [] ∨ BuildOk build)

theorem endTail_iff {a b c pre l : Bs} {v : Ver} : endTail a b c pre l = some v ↔ ∃ build, v = ⟨a, b, c, [], pre, build⟩ ∧ l = build ∧ (build = [] ∨ BuildOk build) := by
  unfold endTail
  by_cases h43 : l.head? = some 43
  · rw [if_pos h43]
    cases hp : parseBuild l with
    | none =>
      simp only
      constructor
      · intro h; cases h
      · rintro ⟨build, rfl, rfl, h⟩
        rcases h with rfl | h
        · cases h43
        · have := (parseBuild_iff (l := l) (t := l) (r := [])).2 ⟨rfl, rfl, h⟩
          rw [this] at hp; cases hp
    | some x =>
      obtain ⟨t, r⟩ := x
      obtain ⟨rfl, rfl, hk⟩ := parseBuild_iff.1 hp
      simp only [if_true]
      constructor
      · intro h; cases h; exact ⟨_, rfl, rfl, .inr hk⟩
      · rintro ⟨build, rfl, rfl, _⟩; rfl
  · rw [if_neg h43]
    simp only
    constructor
    · intro h
      split at h
      · rename_i e; cases h; exact ⟨[], rfl, e, .inl rfl⟩
      · cases h
    · rintro ⟨build, rfl, rfl, h⟩
      rcases h with rfl | ⟨x, rfl, _⟩
      · simp
      · exact absurd rfl h43

theorem parseTail_iff {a b c l : Bs} {v : Ver} : parseTail a b c l = some v ↔ ∃ pre build, v = ⟨a, b, c, [], pre, build⟩ ∧ l = pre ++ build ∧ TailOk pre build := by
  unfold parseTail
  by_cases h45 : l.head? = some 45
  · rw [if_pos h45]
    cases hp : parsePre l with
    | none =>
      simp only
      constructor
      · intro h; cases h
      · rintro ⟨pre, build, rfl, rfl, h1, h2⟩
        rcases h1 with rfl | h1
        · rcases h2 with rfl | ⟨x, rfl, _⟩
          · cases h45
          · simp at h45
        · have := (parsePre_iff (l := pre ++ build) (t := pre) (r := build)).2 ⟨rfl, h1, fun c hc => by
            rcases h2 with rfl | ⟨x, rfl, _⟩
            · cases hc
            · simp at hc; exact hc.symm⟩
          rw [this] at hp; cases hp
    | some x =>
      obtain ⟨t, r⟩ := x
      obtain ⟨rfl, hk, hr⟩ := parsePre_iff.1 hp
      simp only
      rw [endTail_iff]
      constructor
      · rintro ⟨build, rfl, rfl, h⟩; exact ⟨t, _, rfl, rfl, .inr hk, h⟩
      · rintro ⟨pre, build, rfl, he, h1, h2⟩
        have : parsePre (t ++ r) = some (pre, build) := by
          rw [he]
          refine parsePre_iff.2 ⟨rfl, ?_, fun c hc => ?_⟩
          · rcases h1 with rfl | h1
            · rcases h2 with rfl | ⟨x, rfl, _⟩
              · rw [he] at h45; cases h45
              · rw [he] at h45; simp at h45
            · exact h1
          · rcases h2 with rfl | ⟨x, rfl, _⟩
            · cases hc
            · simp at hc; exact hc.symm
        rw [hp] at this
        cases this
        exact ⟨_, rfl, rfl, h2⟩
  · rw [if_neg h45]
    simp only
    rw [endTail_iff]
    constructor
    · rintro ⟨build, rfl, rfl, h⟩; exact ⟨[], _, rfl, rfl, .inl rfl, h⟩
    · rintro ⟨pre, build, rfl, rfl, h1, h2⟩
      rcases h1 with rfl | ⟨x, rfl, _⟩
      · exact ⟨_, rfl, rfl, h2⟩
      · exact absurd rfl h45

/-- the text of parts -/
def textOf (v : Ver) : Bs :=
  118 :: (v.major ++ (if v.short = [46, 48, 46, 48] then [] else 46 :: (v.minor ++ (if v.short = [46, 48] then [] else 46 :: (v.patch ++ (v.pre ++ v.build))))))

/-- parts of a version -/
def Good (v : Ver) : Prop :=
  Num v.major ∧ Num v.minor ∧ Num v.patch ∧
  ((v.short = [] ∧ TailOk v.pre v.build) ∨ (v.short = [46, 48] ∧ v.patch = [48] ∧ v.pre = [] ∧ v.build = []) ∨ (v.short = [46, 48, 46, 48] ∧ v.minor = [48] ∧ v.patch = [48] ∧ v.pre = [] ∧ v.build = []))

theorem num_zero : Num [48] := ⟨by simp, by decide, .inl rfl⟩
theorem noDig_nil : NoDig [] := fun c h => by cases h
theorem noDig_dot (r : Bs) : NoDig (46 :: r) := fun c h => by simp at h; rw [← h]; decide
theorem noDig_tail {pre build : Bs} (h : TailOk pre build) : NoDig (pre ++ build) := by
  obtain ⟨h1, h2⟩ := h
  rcases h1 with rfl | ⟨x, rfl, _⟩
  · rcases h2 with rfl | ⟨x, rfl, _⟩
    · exact noDig_nil
    · intro c h; simp at h; rw [← h]; decide
  · intro c h; simp at h; rw [← h]; decide

theorem parse_iff {l : Bs} {v : Ver} : parse l = some v ↔ Good v ∧ l = textOf v := by
  constructor
  · intro h
    unfold parse at h
    split at h
    · cases h
    · rename_i c l1
      split at h
      · rename_i hc
        subst hc
        split at h
        · cases h
        · rename_i a r h1
          obtain ⟨rfl, ha, _⟩ := parseInt_iff.1 h1
          split at h
          · cases h
            exact ⟨⟨ha, num_zero, num_zero, .inr (.inr ⟨rfl, rfl, rfl, rfl, rfl⟩)⟩, by simp [textOf]⟩
          · rename_i c2 l2 _
            split at h
            · rename_i hc2
              subst hc2
              split at h
              · cases h
              · rename_i b r2 h2
                obtain ⟨rfl, hb, _⟩ := parseInt_iff.1 h2
                split at h
                · cases h
                  exact ⟨⟨ha, hb, num_zero, .inr (.inl ⟨rfl, rfl, rfl, rfl⟩)⟩, by simp [textOf]⟩
                · rename_i c3 l3 _
                  split at h
                  · rename_i hc3
                    subst hc3
                    split at h
                    · cases h
                    · rename_i d r3 h3
                      obtain ⟨rfl, hd, _⟩ := parseInt_iff.1 h3
                      obtain ⟨pre, build, rfl, rfl, ht⟩ := parseTail_iff.1 h
                      exact ⟨⟨ha, hb, hd, .inl ⟨rfl, ht⟩⟩, by simp [textOf]⟩
                  · cases h
            · cases h
      · cases h
  · rintro ⟨⟨ha, hb, hd, h⟩, rfl⟩
    obtain ⟨a, b, d, sh, pre, build⟩ := v
    simp only at ha hb hd h
    rcases h with ⟨rfl, ht⟩ | ⟨rfl, rfl, rfl, rfl⟩ | ⟨rfl, rfl, rfl, rfl, rfl⟩
    · have e3 : parseInt (d ++ (pre ++ build)) = some (d, pre ++ build) := parseInt_iff.2 ⟨rfl, hd, noDig_tail ht⟩
      have e2 : parseInt (b ++ 46 :: (d ++ (pre ++ build))) = some (b, 46 :: (d ++ (pre ++ build))) := parseInt_iff.2 ⟨rfl, hb, noDig_dot _⟩
      have e1 : parseInt (a ++ 46 :: (b ++ 46 :: (d ++ (pre ++ build)))) = some (a, 46 :: (b ++ 46 :: (d ++ (pre ++ build)))) := parseInt_iff.2 ⟨rfl, ha, noDig_dot _⟩
      have e4 : parseTail a b d (pre ++ build) = some ⟨a, b, d, [], pre, build⟩ := parseTail_iff.2 ⟨pre, build, rfl, rfl, ht⟩
      simp [textOf, parse, e1, e2, e3, e4]
    · have e2 : parseInt b = some (b, []) := parseInt_iff.2 ⟨by simp, hb, noDig_nil⟩
      have e1 : parseInt (a ++ 46 :: b) = some (a, 46 :: b) := parseInt_iff.2 ⟨rfl, ha, noDig_dot _⟩
      simp [textOf, parse, e1, e2]
    · have e1 : parseInt a = some (a, []) := parseInt_iff.2 ⟨by simp, ha, noDig_nil⟩
      simp [textOf, parse, e1]

/-- lengths of the parts -/
theorem parse_len {l : Bs} {v : Ver} (h : parse l = some v) : v.major.length ≤ l.length ∧ v.minor.length ≤ l.length ∧ v.patch.length ≤ l.length ∧ v.short.length ≤ 4 ∧ v.pre.length ≤ l.length ∧ v.build.length ≤ l.length := by
  obtain ⟨⟨ha, hb, hd, hg⟩, rfl⟩ := parse_iff.1 h
  obtain ⟨a, b, d, sh, pre, build⟩ := v
  simp only at hg
  rcases hg with ⟨rfl, ht⟩ | ⟨rfl, rfl, rfl, rfl⟩ | ⟨rfl, rfl, rfl, rfl, rfl⟩ <;> simp [textOf] <;> omega
theorem parse_pre {l : Bs} {v : Ver} (h : parse l = some v) : v.pre = [] ∨ v.pre.head? = some 45 := by
  obtain ⟨⟨ha, hb, hd, hg⟩, rfl⟩ := parse_iff.1 h
  rcases hg with ⟨_, ht, _⟩ | ⟨_, _, h, _⟩ | ⟨_, _, _, h, _⟩
  · rcases ht with h | ⟨x, h, _⟩
    · exact .inl h
    · right; rw [h]; rfl
  · exact .inl h
  · exact .inl h

end Go.Proofs.Ytienkoadkhcghaa.Sem
