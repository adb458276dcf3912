/- The plain laws behind FnCompareTails, FnCompareLonger, FnCompareAhead, FnCompareKinds, FnCompareTens, FnZeros and FnVersionWritten. No program is in sight here. -/
import Derived.Test.YtpcmdgmbacokfaaSpecLaw2
namespace Go.Proofs.Ytpcmdgmbacokfaa.Sem

theorem id_nodot {c : UInt8} (h : isId c = true) : c ≠ 46 := by rintro rfl; revert h; decide
theorem ids_join : ∀ xs : List Bs, xs ≠ [] → (∀ x ∈ xs, ∀ c ∈ x, c ≠ 46) → ids (joinBy [46] xs) = xs
  | [], h, _ => absurd rfl h
  | [x], _, h => by rw [joinBy, ids_nodot x (h x (by simp))]
  | x :: y :: r, _, h => by
    rw [joinBy, List.append_assoc, List.singleton_append, ids_dot x _ (h x (by simp)), ids_join (y :: r) (by simp) (fun z hz => h z (by simp [hz]))]
theorem veId_chars {x : Bs} (h : veId x = true) : ∀ c ∈ x, isId c = true := by
  unfold veId at h
  rw [Bool.and_eq_true, List.all_eq_true] at h
  exact h.1
theorem veId_ne {x : Bs} (h : veId x = true) : x ≠ [] := by rintro rfl; revert h; decide
theorem goodId_veId {x : Bs} (h : goodId x = true) : veId x = true := by unfold goodId at h; rw [Bool.and_eq_true] at h; exact h.1
theorem good_nodot {xs : List Bs} (h : idsGood xs = true) : ∀ x ∈ xs, ∀ c ∈ x, c ≠ 46 := fun x hx c hc => id_nodot (veId_chars (goodId_veId (List.all_eq_true.1 h x hx)) c hc)

/-- the prerelease of identifiers -/
def preText (xs : List Bs) : Bs := if xs = [] then [] else 45 :: joinBy [46] xs
def buildText (xs : List Bs) : Bs := if xs = [] then [] else 43 :: joinBy [46] xs
theorem parts_pre {xs : List Bs} (h : ∀ x ∈ xs, ∀ c ∈ x, c ≠ 46) : partsOf (preText xs) = xs := by
  unfold preText partsOf
  by_cases e : xs = []
  · rw [if_pos e, if_pos rfl, e]
  · rw [if_neg e, if_neg (by simp)]; exact ids_join xs e h
theorem preText_ok {xs : List Bs} (h : idsGood xs = true) : preText xs = [] ∨ PreOk (preText xs) := by
  unfold preText
  by_cases e : xs = []
  · rw [if_pos e]; exact .inl rfl
  · rw [if_neg e]
    refine .inr ⟨_, rfl, ?_⟩
    rw [chk_all, ids_join xs e (good_nodot h)]
    refine Eq.trans ?_ (show xs.all goodId = true from h)
    congr 1; funext x; exact (goodId_eq x).symm
theorem buildText_ok {xs : List Bs} (h : xs.all veId = true) : buildText xs = [] ∨ BuildOk (buildText xs) := by
  unfold buildText
  by_cases e : xs = []
  · rw [if_pos e]; exact .inl rfl
  · rw [if_neg e]
    refine .inr ⟨_, rfl, ?_⟩
    rw [chk_all, ids_join xs e (fun x hx c hc => id_nodot (veId_chars (List.all_eq_true.1 h x hx) c hc))]
    refine Eq.trans ?_ h
    congr 1; funext x; exact (veId_eq x).symm

/-- a version of three numbers with a prerelease -/
def withPre (a b c : Bs) (xs : List Bs) : Bs := 118 :: (a ++ 46 :: (b ++ 46 :: (c ++ preText xs)))
theorem parse_with {a b c : Bs} (ha : Num a) (hb : Num b) (hc : Num c) {xs : List Bs} (h : idsGood xs = true) : parse (withPre a b c xs) = some ⟨a, b, c, [], preText xs, []⟩ :=
  parse_iff.2 ⟨⟨ha, hb, hc, .inl ⟨rfl, preText_ok h, .inl rfl⟩⟩, by simp [textOf, withPre]⟩
theorem compare_with {a b c : Bs} (ha : Num a) (hb : Num b) (hc : Num c) {xs ys : List Bs} (hx : idsGood xs = true) (hy : idsGood ys = true) : compare (withPre a b c xs) (withPre a b c ys) = preIds xs ys := by
  rw [compare_opt, parse_with ha hb hc hx, parse_with ha hb hc hy]
  simp only [cmpOpt, cmpVer, lin_int.self, ne_eq, not_true_eq_false, if_false]
  rw [cmpPre_parts, parts_pre (good_nodot hx), parts_pre (good_nodot hy)]
theorem num_one (d : UInt8) (h : isDig d = true) : Num [d] := ⟨by simp, by simp [h], .inl rfl⟩
/-- v1.2.3 with a prerelease -/
def ver123 (xs : List Bs) : Bs := withPre [49] [50] [51] xs
theorem parse_123 {xs : List Bs} (h : idsGood xs = true) : parse (ver123 xs) = some ⟨[49], [50], [51], [], preText xs, []⟩ := parse_with (num_one _ (by decide)) (num_one _ (by decide)) (num_one _ (by decide)) h
theorem compare_123 {xs ys : List Bs} (hx : idsGood xs = true) (hy : idsGood ys = true) : compare (ver123 xs) (ver123 ys) = preIds xs ys := compare_with (num_one _ (by decide)) (num_one _ (by decide)) (num_one _ (by decide)) hx hy
theorem valid_123 {xs : List Bs} (h : idsGood xs = true) : isValid (ver123 xs) = true := by unfold isValid; rw [parse_123 h]; rfl

-- FnCompareLonger
theorem lex_longer (a : List Bs) (x : Bs) : listLex cmpId (a ++ [x]) a = 1 := by
  rw [lex_end id_self (k := a.length) (by simp) (by simp)]
  simp [cmpNat]
theorem longer (a : List Bs) (x : Bs) : preIds (a ++ [x]) a = if a = [] then -1 else 1 := by
  unfold preIds
  by_cases h : a = []
  · subst h; rfl
  · rw [if_neg (by simp [h]), if_neg h, lex_longer]
theorem longer_none (a : List Bs) (x : Bs) : preIds (a ++ [x]) [] = -1 := by
  unfold preIds
  rw [if_pos (.inr rfl), sgn_pos (n := (a ++ [x]).length) (by simp)]; rfl
theorem good_snoc {a : List Bs} {x : Bs} (h : idsGood a = true) (hx : idsGood [x] = true) : idsGood (a ++ [x]) = true := by
  unfold idsGood at *; rw [List.all_append, h, hx]; rfl
theorem good_cons {a : List Bs} {x : Bs} (h : idsGood a = true) (hx : idsGood [x] = true) : idsGood (x :: a) = true := by
  unfold idsGood at *; rw [List.all_cons, h]; simpa using hx
theorem above_122 {xs : List Bs} (h : idsGood xs = true) : compare (ver123 xs) [118, 49, 46, 50, 46, 50] = 1 := by
  have e : parse [118, 49, 46, 50, 46, 50] = some ⟨[49], [50], [50], [], [], []⟩ := by rfl
  rw [compare_opt, parse_123 h, e]
  simp only [cmpOpt, cmpVer, lin_int.self, ne_eq, not_true_eq_false, if_false]
  rw [if_pos (by decide)]
  decide

-- FnCompareAhead
theorem ahead {a b : List Bs} (x : Bs) (ha : a ≠ []) (hb : b ≠ []) : preIds (x :: a) (x :: b) = preIds a b := by
  unfold preIds
  rw [if_neg (by simp), if_neg (by simp [ha, hb]), listLex, if_neg (by rw [id_self]; simp)]
theorem ahead_none (x : Bs) : preIds [x] [] = -1 := by
  unfold preIds
  rw [if_pos (.inr rfl), sgn_pos (n := [x].length) (by simp)]; rfl

-- FnCompareKinds
theorem hyphen_num (x : Bs) : isNum (45 :: x) = false := by unfold isNum; rw [List.all_cons, show isDig 45 = false by decide]; rfl
theorem kinds {n x : Bs} (hn : isNum n = true) (a b : List Bs) : preIds (n :: a) ((45 :: x) :: b) = -1 := by
  unfold preIds
  rw [if_neg (by simp), listLex, id_low hn (hyphen_num x), if_pos (by decide)]
theorem kinds' {n x : Bs} (hn : isNum n = true) (a b : List Bs) : preIds ((45 :: x) :: b) (n :: a) = 1 := by
  unfold preIds
  rw [if_neg (by simp), listLex, id_high (hyphen_num x) hn, if_pos (by decide)]
theorem hyphen_good {x : Bs} (h : idsGood [x] = true) : idsGood [45 :: x] = true := by
  have h1 : veId x = true := goodId_veId (List.all_eq_true.1 h x (by simp))
  have h2 : veId (45 :: x) = true := by
    unfold veId; rw [Bool.and_eq_true, List.all_cons, Bool.and_eq_true]
    exact ⟨⟨by decide, List.all_eq_true.2 (veId_chars h1)⟩, by simp⟩
  have h3 : veDig (45 :: x) = false := by rw [dig_num (by simp), hyphen_num]
  unfold idsGood goodId
  simp [h2, h3]

-- FnCompareTens
theorem int_more (n : Bs) : cmpInt n (n ++ [48]) = -1 := by
  rw [int_len (by simp), sgn, if_pos (by simp; omega)]
theorem num_more {n : Bs} (h : Num n) (h0 : n ≠ [48]) : Num (n ++ [48]) := by
  obtain ⟨h1, h2, h3⟩ := h
  refine ⟨by simp, by rw [List.all_append, h2]; rfl, .inr ?_⟩
  cases n with
  | nil => exact absurd rfl h1
  | cons c r =>
    rcases h3 with h3 | h3
    · have : r = [] := by simpa using h3
      subst this
      simpa using h0
    · simpa using h3
theorem num_isNum {n : Bs} (h : Num n) : isNum n = true := h.2.1
theorem num_good {n : Bs} (h : Num n) : idsGood [n] = true := by
  have h1 : veNum n = true := (veNum_iff n).2 h
  have h2 : veId n = true := by
    unfold veId; rw [Bool.and_eq_true]
    refine ⟨List.all_eq_true.2 (num_chars h), ?_⟩
    have := h.1
    cases n with
    | nil => exact absurd rfl this
    | cons => simp
  unfold idsGood goodId
  simp [h1, h2]
theorem text_more (n : Bs) : cmpText n (n ++ [48]) = -1 := by
  rw [text_end (k := n.length) (by simp) (by simp), sgn, if_pos (by simp; omega)]
theorem xnum (n : Bs) : isNum (120 :: n) = false := by unfold isNum; rw [List.all_cons, show isDig 120 = false by decide]; rfl
theorem xgood {n : Bs} (h : Num n) : idsGood [120 :: n] = true := by
  have h2 : veId (120 :: n) = true := by
    unfold veId; rw [Bool.and_eq_true, List.all_cons, Bool.and_eq_true]
    exact ⟨⟨by decide, List.all_eq_true.2 (num_chars h)⟩, by simp⟩
  have h3 : veDig (120 :: n) = false := by rw [dig_num (by simp), xnum]
  unfold idsGood goodId
  simp [h2, h3]
theorem one_good : idsGood [[120]] = true := by decide
theorem tens_major {n : Bs} (h : Num n) (h0 : n ≠ [48]) : compare (118 :: n) (118 :: (n ++ [48])) = -1 := by
  have p1 : parse (118 :: n) = some ⟨n, [48], [48], [46, 48, 46, 48], [], []⟩ := parse_iff.2 ⟨⟨h, num_zero, num_zero, .inr (.inr ⟨rfl, rfl, rfl, rfl, rfl⟩)⟩, by simp [textOf]⟩
  have p2 : parse (118 :: (n ++ [48])) = some ⟨n ++ [48], [48], [48], [46, 48, 46, 48], [], []⟩ := parse_iff.2 ⟨⟨num_more h h0, num_zero, num_zero, .inr (.inr ⟨rfl, rfl, rfl, rfl, rfl⟩)⟩, by simp [textOf]⟩
  rw [compare_opt, p1, p2]
  simp only [cmpOpt, cmpVer, int_more, ne_eq]
  rw [if_pos (by decide)]
theorem tens_patch {b n : Bs} (hb : Num b) (h : Num n) (h0 : n ≠ [48]) : compare (118 :: (49 :: 46 :: (b ++ 46 :: n))) (118 :: (49 :: 46 :: (b ++ 46 :: (n ++ [48])))) = -1 := by
  have p : ∀ {m : Bs}, Num m → parse (118 :: (49 :: 46 :: (b ++ 46 :: m))) = some ⟨[49], b, m, [], [], []⟩ := fun {m} hm => parse_iff.2 ⟨⟨num_one _ (by decide), hb, hm, .inl ⟨rfl, .inl rfl, .inl rfl⟩⟩, by simp [textOf]⟩
  rw [compare_opt, p h, p (num_more h h0)]
  simp only [cmpOpt, cmpVer, int_more, ne_eq, lin_int.self, not_true_eq_false, if_false]
  rw [if_pos (by decide)]
/-- v1.0.0 with a prerelease -/
def ver100 (xs : List Bs) : Bs := withPre [49] [48] [48] xs
theorem compare_100 {xs ys : List Bs} (hx : idsGood xs = true) (hy : idsGood ys = true) : compare (ver100 xs) (ver100 ys) = preIds xs ys := compare_with (num_one _ (by decide)) (num_one _ (by decide)) (num_one _ (by decide)) hx hy
theorem tens_id {n : Bs} (h : Num n) (h0 : n ≠ [48]) : compare (ver100 [n]) (ver100 [n ++ [48]]) = -1 := by
  rw [compare_100 (num_good h) (num_good (num_more h h0))]
  have e : cmpId n (n ++ [48]) = -1 := by rw [id_both (num_isNum h) (num_isNum (num_more h h0)), int_more]
  unfold preIds
  rw [if_neg (by simp), listLex, e, if_pos (by decide)]
theorem tens_x {n : Bs} (h : Num n) (h0 : n ≠ [48]) : compare (ver100 [[120], n ++ [48]]) (ver100 [[120], n]) = 1 := by
  rw [compare_100 (good_cons (num_good (num_more h h0)) one_good) (good_cons (num_good h) one_good)]
  have e : cmpId n (n ++ [48]) = -1 := by rw [id_both (num_isNum h) (num_isNum (num_more h h0)), int_more]
  have e2 : cmpId (n ++ [48]) n = 1 := by have := lin_id.swap n (n ++ [48]); omega
  unfold preIds
  rw [if_neg (by simp), listLex, if_neg (by rw [id_self]; simp), listLex, e2, if_pos (by decide)]
theorem tens_text {n : Bs} (h : Num n) (h0 : n ≠ [48]) : compare (ver100 [120 :: n]) (ver100 [120 :: (n ++ [48])]) = -1 := by
  rw [compare_100 (xgood h) (xgood (num_more h h0))]
  have e : cmpId (120 :: n) (120 :: (n ++ [48])) = -1 := by
    rw [id_text (xnum n) (xnum _)]
    exact text_more (120 :: n)
  unfold preIds
  rw [if_neg (by simp), listLex, e, if_pos (by decide)]

-- FnVersionWritten
theorem parts_build {xs : List Bs} (h : xs.all veId = true) : partsOf (buildText xs) = xs := by
  unfold buildText partsOf
  by_cases e : xs = []
  · rw [if_pos e, if_pos rfl, e]
  · rw [if_neg e, if_neg (by simp)]; exact ids_join xs e (fun x hx c hc => id_nodot (veId_chars (List.all_eq_true.1 h x hx) c hc))
theorem written {ns ps bs : List Bs} (h : verGood ns ps bs = true) : ∃ v n r, ns = n :: r ∧ parse (118 :: (joinBy [46] ns ++ (preText ps ++ buildText bs))) = some v ∧ v.major = n ∧ v.pre = preText ps ∧ v.build = buildText bs := by
  unfold verGood headGood at h
  simp only [Bool.and_eq_true, decide_eq_true_eq] at h
  obtain ⟨⟨g1, g2, g3⟩, g4, g5, g6⟩ := h
  rw [List.all_eq_true] at g4
  have hN : ∀ x ∈ ns, Num x := fun x hx => (veNum_iff x).1 (g4 x hx)
  have hP := preText_ok (xs := ps) g5
  have hB := buildText_ok g6
  match ns, hN, g1, g2, g3 with
  | [a], hN, _, _, g3 =>
    obtain ⟨e1, e2⟩ := g3.resolve_left (by simp)
    have e1 := List.eq_nil_of_length_eq_zero e1
    have e2 := List.eq_nil_of_length_eq_zero e2
    subst e1 e2
    exact ⟨⟨a, [48], [48], [46, 48, 46, 48], [], []⟩, a, [], rfl, parse_iff.2 ⟨⟨hN a (by simp), num_zero, num_zero, .inr (.inr ⟨rfl, rfl, rfl, rfl, rfl⟩)⟩, by simp [textOf, joinBy, preText, buildText]⟩, rfl, rfl, rfl⟩
  | [a, b], hN, _, _, g3 =>
    obtain ⟨e1, e2⟩ := g3.resolve_left (by simp)
    have e1 := List.eq_nil_of_length_eq_zero e1
    have e2 := List.eq_nil_of_length_eq_zero e2
    subst e1 e2
    exact ⟨⟨a, b, [48], [46, 48], [], []⟩, a, [b], rfl, parse_iff.2 ⟨⟨hN a (by simp), hN b (by simp), num_zero, .inr (.inl ⟨rfl, rfl, rfl, rfl⟩)⟩, by simp [textOf, joinBy, preText, buildText]⟩, rfl, rfl, rfl⟩
  | [a, b, c], hN, _, _, _ =>
    exact ⟨⟨a, b, c, [], preText ps, buildText bs⟩, a, [b, c], rfl, parse_iff.2 ⟨⟨hN a (by simp), hN b (by simp), hN c (by simp), .inl ⟨rfl, hP, hB⟩⟩, by simp [textOf, joinBy]⟩, rfl, rfl, rfl⟩

-- FnZeros
theorem int_zero_bad {a : Bs} (h : Num a) (r : Bs) : parseInt (48 :: (a ++ r)) = none ∨ ∃ t q, parseInt (48 :: (a ++ r)) = some (t, q) ∧ False := by
  left
  obtain ⟨h1, h2, _⟩ := h
  cases a with
  | nil => exact absurd rfl h1
  | cons c a =>
    have hc : isDig c = true := by simp at h2; exact h2.1
    have h48 : isDig 48 = true := by decide
    show (if isDig 48 = true then (if (48 : UInt8) = 48 ∧ ((48 :: (c :: a ++ r)).takeWhile isDig).length ≠ 1 then none else some ((48 :: (c :: a ++ r)).takeWhile isDig, (48 :: (c :: a ++ r)).dropWhile isDig)) else none) = none
    rw [if_pos h48, if_pos ⟨rfl, by simp [hc, h48]⟩]
theorem zero_none {a : Bs} (h : Num a) (r : Bs) : parseInt (48 :: (a ++ r)) = none := by
  rcases int_zero_bad h r with e | ⟨_, _, _, e⟩
  · exact e
  · exact e.elim
theorem zero_first {a : Bs} (h : Num a) (r : Bs) : isValid (118 :: (48 :: (a ++ r))) = false := by
  simp [isValid, parse, zero_none h r]
theorem zero_second {a b : Bs} (ha : Num a) (hb : Num b) (r : Bs) : isValid (118 :: (a ++ 46 :: 48 :: (b ++ r))) = false := by
  have e1 : parseInt (a ++ 46 :: 48 :: (b ++ r)) = some (a, 46 :: 48 :: (b ++ r)) := parseInt_iff.2 ⟨rfl, ha, noDig_dot _⟩
  simp [isValid, parse, e1, zero_none hb r]
theorem zero_third {a b c : Bs} (ha : Num a) (hb : Num b) (hc : Num c) (r : Bs) : isValid (118 :: (a ++ 46 :: (b ++ 46 :: 48 :: (c ++ r)))) = false := by
  have e1 : parseInt (a ++ 46 :: (b ++ 46 :: 48 :: (c ++ r))) = some (a, 46 :: (b ++ 46 :: 48 :: (c ++ r))) := parseInt_iff.2 ⟨rfl, ha, noDig_dot _⟩
  have e2 : parseInt (b ++ 46 :: 48 :: (c ++ r)) = some (b, 46 :: 48 :: (c ++ r)) := parseInt_iff.2 ⟨rfl, hb, noDig_dot _⟩
  simp [isValid, parse, e1, e2, zero_none hc r]
theorem tail_parse {a b c : Bs} (ha : Num a) (hb : Num b) (hc : Num c) {t : Bs} (ht : NoDig t) : parse (118 :: (a ++ 46 :: (b ++ 46 :: (c ++ t)))) = parseTail a b c t := by
  have e1 : parseInt (a ++ 46 :: (b ++ 46 :: (c ++ t))) = some (a, 46 :: (b ++ 46 :: (c ++ t))) := parseInt_iff.2 ⟨rfl, ha, noDig_dot _⟩
  have e2 : parseInt (b ++ 46 :: (c ++ t)) = some (b, 46 :: (c ++ t)) := parseInt_iff.2 ⟨rfl, hb, noDig_dot _⟩
  have e3 : parseInt (c ++ t) = some (c, t) := parseInt_iff.2 ⟨rfl, hc, ht⟩
  simp [parse, e1, e2, e3]
theorem pre_bad {a b c : Bs} (ha : Num a) (hb : Num b) (hc : Num c) {t : Bs} (hp : ∀ x ∈ t, x ≠ 43) (ht : chk true [] t = false) : isValid (118 :: (a ++ 46 :: (b ++ 46 :: (c ++ 45 :: t)))) = false := by
  unfold isValid
  rw [tail_parse ha hb hc (fun d h => by simp at h; rw [← h]; decide)]
  have e : t.takeWhile (· != 43) = t := by
    have := (takeWhile_split (p := fun c => c != 43) (t := t) (r := []) (by rw [List.all_eq_true]; intro c hc; simpa using hp c hc) (fun c h => by cases h)).1
    simpa using this
  simp [parseTail, parsePre, e, ht]
theorem zero_bad {b : Bs} (h : Num b) : isBad (48 :: b) = true := by
  obtain ⟨h1, h2, _⟩ := h
  unfold isBad
  cases b with
  | nil => exact absurd rfl h1
  | cons d r => rw [List.all_cons, h2]; simp; decide
theorem num_nodot' {b : Bs} (h : Num b) : ∀ c ∈ b, c ≠ 46 ∧ c ≠ 45 ∧ c ≠ 43 := num_nodot h
theorem zero_pre {a b c d : Bs} (ha : Num a) (hb : Num b) (hc : Num c) (hd : Num d) : isValid (118 :: (a ++ 46 :: (b ++ 46 :: (c ++ 45 :: 48 :: d)))) = false := by
  refine pre_bad ha hb hc (fun x hx => ?_) ?_
  · rcases List.mem_cons.1 hx with rfl | hx
    · decide
    · exact (num_nodot hd x hx).2.2
  · rw [chk_all, ids_nodot _ (fun x hx => by
      rcases List.mem_cons.1 hx with rfl | hx
      · decide
      · exact (num_nodot hd x hx).1)]
    simp [idOk, zero_bad hd]
theorem zero_pre2 {a b c d : Bs} (ha : Num a) (hb : Num b) (hc : Num c) (hd : Num d) : isValid (118 :: (a ++ 46 :: (b ++ 46 :: (c ++ 45 :: 97 :: 46 :: 48 :: d)))) = false := by
  refine pre_bad ha hb hc (fun x hx => ?_) ?_
  · rcases List.mem_cons.1 hx with rfl | hx
    · decide
    rcases List.mem_cons.1 hx with rfl | hx
    · decide
    rcases List.mem_cons.1 hx with rfl | hx
    · decide
    · exact (num_nodot hd x hx).2.2
  · have e : ids (97 :: 46 :: 48 :: d) = [97] :: ids (48 :: d) := ids_dot [97] (48 :: d) (by intro c hc; simp at hc; rw [hc]; decide)
    rw [chk_all, e, ids_nodot (48 :: d) (fun x hx => by
      rcases List.mem_cons.1 hx with rfl | hx
      · decide
      · exact (num_nodot hd x hx).1)]
    simp [idOk, zero_bad hd]
theorem pre_good {a b c : Bs} (ha : Num a) (hb : Num b) (hc : Num c) {x : Bs} (h : idsGood [x] = true) : isValid (118 :: (a ++ 46 :: (b ++ 46 :: (c ++ 45 :: x)))) = true := by
  have := parse_with ha hb hc h
  unfold isValid
  have e : withPre a b c [x] = 118 :: (a ++ 46 :: (b ++ 46 :: (c ++ 45 :: x))) := by simp [withPre, preText, joinBy]
  rw [← e, this]; rfl
theorem zero_build {a b c d : Bs} (ha : Num a) (hb : Num b) (hc : Num c) (hd : Num d) : isValid (118 :: (a ++ 46 :: (b ++ 46 :: (c ++ 43 :: 48 :: d)))) = true := by
  have hv : veId (48 :: d) = true := by
    unfold veId; rw [Bool.and_eq_true, List.all_cons, Bool.and_eq_true]
    exact ⟨⟨by decide, List.all_eq_true.2 (num_chars hd)⟩, by simp⟩
  have hB : BuildOk (43 :: 48 :: d) := by
    refine ⟨48 :: d, rfl, ?_⟩
    rw [chk_all, ids_nodot _ (fun x hx => id_nodot (veId_chars hv x hx))]
    simp [idOk, hv]
  have : parse (118 :: (a ++ 46 :: (b ++ 46 :: (c ++ 43 :: 48 :: d)))) = some ⟨a, b, c, [], [], 43 :: 48 :: d⟩ := parse_iff.2 ⟨⟨ha, hb, hc, .inl ⟨rfl, .inl rfl, .inr hB⟩⟩, by simp [textOf]⟩
  unfold isValid; rw [this]; rfl
theorem a0_good {d : Bs} (hd : Num d) : idsGood [97 :: 48 :: d] = true := by
  have h2 : veId (97 :: 48 :: d) = true := by
    unfold veId; rw [Bool.and_eq_true, List.all_cons, Bool.and_eq_true, List.all_cons, Bool.and_eq_true]
    exact ⟨⟨by decide, by decide, List.all_eq_true.2 (num_chars hd)⟩, by simp⟩
  have h3 : veDig (97 :: 48 :: d) = false := by rw [dig_num (by simp)]; unfold isNum; rw [List.all_cons, show isDig 97 = false by decide]; rfl
  unfold idsGood goodId
  simp [h2, h3]

end Go.Proofs.Ytpcmdgmbacokfaa.Sem
