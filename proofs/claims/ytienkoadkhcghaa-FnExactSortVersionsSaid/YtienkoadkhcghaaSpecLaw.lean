/- The reference's reading of a version, held against the plain function Sem.parse: the same texts are versions, with the same parts. No program is in sight here. -/
import Derived.Test.YtienkoadkhcghaaSpec4
import Derived.Test.YtienkoadkhcghaaSemFacts2
namespace Go.Proofs.Ytienkoadkhcghaa.Sem

def idOk (num : Bool) (x : Bs) : Bool := veId x && !(num && isBad x)
theorem bad_eq (x : Bs) : (veDig x && !veNum x) = isBad x := by
  unfold veNum veDig isBad
  cases x with
  | nil => simp
  | cons c r =>
    have e : (bt (c :: r) 0 = 48) ↔ c = 48 := by
      rw [← UInt8.toNat_inj]; simp [bt]; omega
    by_cases h : (c :: r).all isDig = true
    · cases r with
      | nil => simp [h]
      | cons d r =>
        have e' : decide (bt (c :: d :: r) 0 = 48) = (c == 48) := by
          rw [Bool.eq_iff_iff, decide_eq_true_eq, e]; simp
        simp [h, e']
    · simp [h]
theorem goodId_eq (x : Bs) : goodId x = idOk true x := by unfold goodId idOk; rw [bad_eq]; simp
theorem veId_eq (x : Bs) : veId x = idOk false x := by unfold idOk; simp

theorem ids_ne (r : Bs) : ids r ≠ [] := by
  cases r with
  | nil => simp [ids]
  | cons c r => unfold ids; split; · simp
                split <;> simp
theorem chk_ids (num : Bool) : ∀ (r cur : Bs), cur.all isId = true → chk num cur r = (idOk num (cur ++ (ids r).headD []) && (ids r).tail.all (idOk num))
  | [], cur, h => by
    simp only [chk, ids, List.headD_cons, List.tail_cons, List.append_nil, List.all_nil, Bool.and_true]
    unfold idOk veId
    rw [h]
    cases cur <;> simp
  | c :: r, cur, h => by
    by_cases hc : c = 46
    · subst hc
      rw [chk_cons_dot, chk_ids num r [] rfl, ids, if_pos rfl]
      simp only [List.headD_cons, List.tail_cons, List.append_nil, List.nil_append]
      obtain ⟨x, xs, e⟩ : ∃ x xs, ids r = x :: xs := List.exists_cons_of_ne_nil (ids_ne r)
      rw [e]
      simp only [List.headD_cons, List.tail_cons, List.all_cons]
      congr 1
      unfold idOk veId
      rw [h]
      cases cur <;> simp
    · rw [chk_cons_ne _ _ _ hc, ids, if_neg hc]
      obtain ⟨x, xs, e⟩ : ∃ x xs, ids r = x :: xs := List.exists_cons_of_ne_nil (ids_ne r)
      rw [e]
      simp only [List.headD_cons, List.tail_cons]
      by_cases hi : isId c = true
      · rw [hi, Bool.true_and, chk_ids num r (cur ++ [c]) (by simp only [List.all_append, h, List.all_cons, hi, List.all_nil, Bool.and_self]), e]
        simp only [List.headD_cons, List.tail_cons, List.append_assoc, List.singleton_append]
      · have : veId (cur ++ c :: x) = false := by unfold veId; simp [hi]
        simp only [idOk, this]
        simp [hi]
theorem chk_all (num : Bool) (r : Bs) : chk num [] r = (ids r).all (idOk num) := by
  rw [chk_ids num r [] rfl]
  obtain ⟨x, xs, e⟩ : ∃ x xs, ids r = x :: xs := List.exists_cons_of_ne_nil (ids_ne r)
  rw [e]; simp

/-- the parts as the reference has them -/
def numsOf (v : Ver) : List Bs := if v.short = [46, 48, 46, 48] then [v.major] else if v.short = [46, 48] then [v.major, v.minor] else [v.major, v.minor, v.patch]
def partsOf (t : Bs) : List Bs := if t = [] then [] else ids (t.drop 1)

theorem join_ids : ∀ r : Bs, joinBy [46] (ids r) = r
  | [] => rfl
  | c :: r => by
    have ih := join_ids r
    obtain ⟨x, xs, e⟩ : ∃ x xs, ids r = x :: xs := List.exists_cons_of_ne_nil (ids_ne r)
    by_cases hc : c = 46
    · rw [ids, if_pos hc, e, joinBy, ← e, ih, hc]; rfl
    · rw [ids, if_neg hc, e]
      rw [e] at ih
      simp only
      cases xs with
      | nil => simp only [joinBy] at ih ⊢; rw [ih]
      | cons y ys => simp only [joinBy] at ih ⊢; rw [← ih]; simp

theorem firstOf_split {t r : Bs} {b : UInt8} (h : ∀ c ∈ t, c ≠ b) (hr : r = [] ∨ ∃ x, r = b :: x) : firstOf (t ++ r) b = t.length := by
  unfold firstOf
  rw [(takeWhile_split (p := fun c => c != b) (t := t) (r := r) (by rw [List.all_eq_true]; intro c hc; simpa using h c hc) (fun c hc => by
    rcases hr with rfl | ⟨x, rfl⟩
    · cases hc
    · simp at hc; simp [hc])).1]
theorem firstOf_at (s : Bs) (b : UInt8) : s.drop (firstOf s b) = s.dropWhile (· != b) ∧ s.take (firstOf s b) = s.takeWhile (· != b) := by
  have e : s.takeWhile (· != b) ++ s.dropWhile (· != b) = s := List.takeWhile_append_dropWhile
  have h1 := List.drop_left (l₁ := s.takeWhile (· != b)) (l₂ := s.dropWhile (· != b))
  have h2 := List.take_left (l₁ := s.takeWhile (· != b)) (l₂ := s.dropWhile (· != b))
  rw [e] at h1 h2
  exact ⟨h1, h2⟩
theorem drop_past (t x : Bs) (b : UInt8) : (t ++ b :: x).drop (t.length + 1) = x := by
  induction t with
  | nil => rfl
  | cons c t _ => simp

/-- the numbers' text -/
def numText (v : Ver) : Bs := joinBy [46] (numsOf v)
theorem textOf_eq {v : Ver} (h : Good v) : textOf v = 118 :: (numText v ++ (v.pre ++ v.build)) := by
  obtain ⟨_, _, _, h⟩ := h
  unfold textOf numText numsOf
  rcases h with ⟨h, _⟩ | ⟨h, _, h2, h3⟩ | ⟨h, _, _, h2, h3⟩
  · rw [h]; simp [joinBy]
  · rw [h, h2, h3]; simp [joinBy]
  · rw [h, h2, h3]; simp [joinBy]
theorem num_nodot {t : Bs} (h : Num t) : ∀ c ∈ t, c ≠ 46 ∧ c ≠ 45 ∧ c ≠ 43 := by
  intro c hc
  have := List.all_eq_true.1 h.2.1 c hc
  refine ⟨?_, ?_, ?_⟩ <;> (rintro rfl; revert this; decide)
theorem ids_numText {v : Ver} (h : Good v) : ids (numText v) = numsOf v := by
  obtain ⟨h1, h2, h3, _⟩ := h
  have d := fun {t : Bs} (h : Num t) c hc => (num_nodot (t := t) h c hc).1
  unfold numText numsOf
  split
  · exact ids_nodot _ (d h1)
  · split
    · simp only [joinBy, List.append_assoc, List.singleton_append]
      rw [ids_dot _ _ (d h1), ids_nodot _ (d h2)]
    · simp only [joinBy, List.append_assoc, List.singleton_append]
      rw [ids_dot _ _ (d h1), ids_dot _ _ (d h2), ids_nodot _ (d h3)]
theorem numText_no {v : Ver} (h : Good v) : ∀ c ∈ numText v, c ≠ 45 ∧ c ≠ 43 := by
  obtain ⟨h1, h2, h3, _⟩ := h
  intro c hc
  have d := fun {t : Bs} (h : Num t) c hc => (num_nodot (t := t) h c hc).2
  have p : (46 : UInt8) ≠ 45 ∧ (46 : UInt8) ≠ 43 := by decide
  unfold numText numsOf at hc
  split at hc
  · exact d h1 c hc
  · split at hc
    · simp only [joinBy, List.mem_append, List.mem_singleton] at hc
      rcases hc with (hc | rfl) | hc
      · exact d h1 c hc
      · exact p
      · exact d h2 c hc
    · simp only [joinBy, List.mem_append, List.mem_singleton] at hc
      rcases hc with (hc | rfl) | ((hc | rfl) | hc)
      · exact d h1 c hc
      · exact p
      · exact d h2 c hc
      · exact p
      · exact d h3 c hc

theorem good_tail {v : Ver} (h : Good v) : TailOk v.pre v.build := by
  obtain ⟨_, _, _, h⟩ := h
  rcases h with ⟨_, h⟩ | ⟨_, _, h2, h3⟩ | ⟨_, _, _, h2, h3⟩
  · exact h
  · exact ⟨.inl h2, .inl h3⟩
  · exact ⟨.inl h2, .inl h3⟩
theorem good_verGood {v : Ver} (h : Good v) : verGood (numsOf v) (partsOf v.pre) (partsOf v.build) = true := by
  have ht := good_tail h
  obtain ⟨h1, h2, h3, h⟩ := h
  have k1 := (veNum_iff _).2 h1
  have k2 := (veNum_iff _).2 h2
  have k3 := (veNum_iff _).2 h3
  have hp : (partsOf v.pre).all goodId = true := by
    unfold partsOf
    split
    · rfl
    · rcases ht.1 with e | ⟨b, e, hb⟩
      · contradiction
      · rw [e, List.drop_one, List.tail_cons, ← hb, chk_all]; congr 1; funext x; exact goodId_eq x
  have hq : (partsOf v.build).all veId = true := by
    unfold partsOf
    split
    · rfl
    · rcases ht.2 with e | ⟨b, e, hb⟩
      · contradiction
      · rw [e, List.drop_one, List.tail_cons, ← hb, chk_all]; congr 1; funext x; exact veId_eq x
  unfold verGood headGood
  rw [hp, hq]
  rcases h with ⟨e, _⟩ | ⟨e, _, e2, e3⟩ | ⟨e, _, _, e2, e3⟩
  · simp [numsOf, e, k1, k2, k3]
  · simp [numsOf, e, e2, e3, partsOf, k1, k2]
  · simp [numsOf, e, e2, e3, partsOf, k1]

theorem sParse_good {v : Ver} (h : Good v) : sParse (textOf v) = some (numsOf v, partsOf v.pre, partsOf v.build) := by
  have ht := good_tail h
  have hb : v.build = [] ∨ ∃ x, v.build = 43 :: x := by rcases ht.2 with e | ⟨b, e, _⟩; exact .inl e; exact .inr ⟨b, e⟩
  have hp : v.pre = [] ∨ ∃ x, v.pre = 45 :: x := by rcases ht.1 with e | ⟨b, e, _⟩; exact .inl e; exact .inr ⟨b, e⟩
  have hpn : ∀ c ∈ v.pre, c ≠ 43 := by
    rcases ht.1 with e | ⟨b, e, hk⟩
    · rw [e]; intro c hc; cases hc
    · rw [e]; intro c hc
      rcases List.mem_cons.1 hc with rfl | hc
      · decide
      · have := List.all_eq_true.1 (chk_no_plus hk) c hc; simpa using this
  have f1 : firstOf (numText v ++ (v.pre ++ v.build)) 43 = (numText v ++ v.pre).length := by
    rw [← List.append_assoc]
    refine firstOf_split (fun c hc => ?_) hb
    rcases List.mem_append.1 hc with hc | hc
    · exact (numText_no h c hc).2
    · exact hpn c hc
  have f2 : firstOf (numText v ++ v.pre) 45 = (numText v).length := firstOf_split (fun c hc => (numText_no h c hc).1) hp
  have t1 : (numText v ++ (v.pre ++ v.build)).take (numText v ++ v.pre).length = numText v ++ v.pre := by rw [← List.append_assoc, List.take_left]
  have n1 : sNums (numText v ++ (v.pre ++ v.build)) = numsOf v := by unfold sNums; rw [f1, t1, f2, List.take_left, ids_numText h]
  have n2 : sPre (numText v ++ (v.pre ++ v.build)) = partsOf v.pre := by
    unfold sPre partsOf; rw [f1, t1, f2]
    rcases hp with e | ⟨x, e⟩
    · rw [e]; simp
    · rw [e, if_pos (by simp), if_neg (by simp), drop_past]; rfl
  have n3 : sBuild (numText v ++ (v.pre ++ v.build)) = partsOf v.build := by
    unfold sBuild partsOf; rw [f1]
    rcases hb with e | ⟨x, e⟩
    · rw [e]; simp
    · rw [e, if_pos (by simp), if_neg (by simp), ← List.append_assoc, drop_past]; rfl
  rw [textOf_eq h, sParse, if_pos rfl, n1, n2, n3, good_verGood h]
  rfl

/-- what stands behind the first byte b -/
theorem first_cases (s : Bs) (b : UInt8) : (¬ firstOf s b < s.length ∧ s.take (firstOf s b) = s) ∨ (firstOf s b < s.length ∧ s = s.take (firstOf s b) ++ b :: s.drop (firstOf s b + 1)) := by
  by_cases h : firstOf s b < s.length
  · refine .inr ⟨h, ?_⟩
    have e := (List.take_append_drop (firstOf s b) s).symm
    rw [List.drop_eq_getElem_cons h] at e
    have hd : s[firstOf s b] = b := by
      have h1 := (firstOf_at s b).1
      rw [List.drop_eq_getElem_cons h] at h1
      have := dropWhile_head (fun c => c != b) s s[firstOf s b] (by rw [← h1]; rfl)
      simpa using this
    rw [hd] at e
    exact e
  · exact .inl ⟨h, List.take_of_length_le (by omega)⟩

theorem sParse_some {l : Bs} {ns ps bs : List Bs} (h : sParse l = some (ns, ps, bs)) : ∃ v, Good v ∧ l = textOf v := by
  cases l with
  | nil => cases h
  | cons c s =>
    rw [sParse] at h
    split at h
    · rename_i hc
      split at h
      · rename_i hg
        clear h
        subst hc
        -- the build
        obtain ⟨build, hbt, hbp, hbl⟩ : ∃ build, s = s.take (firstOf s 43) ++ build ∧ (build = [] ∨ ∃ b, build = 43 :: b) ∧ sBuild s = partsOf build := by
          rcases first_cases s 43 with ⟨h1, h2⟩ | ⟨h1, h2⟩
          · exact ⟨[], by rw [h2]; simp, .inl rfl, by unfold sBuild partsOf; rw [if_neg h1]; rfl⟩
          · exact ⟨_, h2, .inr ⟨_, rfl⟩, by unfold sBuild partsOf; rw [if_pos h1]; rfl⟩
        obtain ⟨pre, hpt, hpp, hpl⟩ : ∃ pre, s.take (firstOf s 43) = (s.take (firstOf s 43)).take (firstOf (s.take (firstOf s 43)) 45) ++ pre ∧ (pre = [] ∨ ∃ b, pre = 45 :: b) ∧ sPre s = partsOf pre := by
          unfold sPre
          generalize s.take (firstOf s 43) = s1
          rcases first_cases s1 45 with ⟨h1, h2⟩ | ⟨h1, h2⟩
          · exact ⟨[], by rw [h2]; simp, .inl rfl, by unfold partsOf; rw [if_neg h1]; rfl⟩
          · exact ⟨_, h2, .inr ⟨_, rfl⟩, by unfold partsOf; rw [if_pos h1]; rfl⟩
        have hn : (s.take (firstOf s 43)).take (firstOf (s.take (firstOf s 43)) 45) = joinBy [46] (sNums s) := by unfold sNums; rw [join_ids]
        rw [hn] at hpt
        rw [hpt] at hbt
        rw [hpl, hbl] at hg
        generalize sNums s = N at *
        clear hn hpt hpl hbl
        unfold verGood headGood at hg
        simp only [Bool.and_eq_true, decide_eq_true_eq] at hg
        obtain ⟨⟨g1, g2, g3⟩, g4, g5, g6⟩ := hg
        have hP : pre = [] ∨ PreOk pre := by
          rcases hpp with e | ⟨b, e⟩
          · exact .inl e
          · refine .inr ⟨b, e, ?_⟩
            rw [e] at g5
            rw [chk_all]
            refine Eq.trans ?_ (show (ids b).all goodId = true from g5)
            congr 1; funext x; exact (goodId_eq x).symm
        have hB : build = [] ∨ BuildOk build := by
          rcases hbp with e | ⟨b, e⟩
          · exact .inl e
          · refine .inr ⟨b, e, ?_⟩
            rw [e] at g6
            rw [chk_all]
            refine Eq.trans ?_ (show (ids b).all veId = true from g6)
            congr 1; funext x; exact (veId_eq x).symm
        have hE : ∀ t : Bs, (partsOf t).length = 0 → t = [] := by
          intro t ht
          unfold partsOf at ht
          split at ht
          · assumption
          · exact absurd (List.eq_nil_of_length_eq_zero ht) (ids_ne _)
        rw [List.all_eq_true] at g4
        have hN : ∀ x ∈ N, Num x := fun x hx => (veNum_iff x).1 (g4 x hx)
        match N, hN, g1, g2, g3, hbt with
        | [a], hN, _, _, g3, hbt =>
          obtain ⟨e1, e2⟩ := g3.resolve_left (by simp)
          have e1 := hE _ e1
          have e2 := hE _ e2
          exact ⟨⟨a, [48], [48], [46, 48, 46, 48], [], []⟩, ⟨hN a (by simp), num_zero, num_zero, .inr (.inr ⟨rfl, rfl, rfl, rfl, rfl⟩)⟩, by rw [hbt, e1, e2]; simp [textOf, joinBy]⟩
        | [a, b], hN, _, _, g3, hbt =>
          obtain ⟨e1, e2⟩ := g3.resolve_left (by simp)
          have e1 := hE _ e1
          have e2 := hE _ e2
          exact ⟨⟨a, b, [48], [46, 48], [], []⟩, ⟨hN a (by simp), hN b (by simp), num_zero, .inr (.inl ⟨rfl, rfl, rfl, rfl⟩)⟩, by rw [hbt, e1, e2]; simp [textOf, joinBy]⟩
        | [a, b, c], hN, _, _, _, hbt =>
          exact ⟨⟨a, b, c, [], pre, build⟩, ⟨hN a (by simp), hN b (by simp), hN c (by simp), .inl ⟨rfl, hP, hB⟩⟩, by rw [hbt]; simp [textOf, joinBy]⟩
      · cases h
    · cases h

/-- **the reference reads versions as the package does** -/
theorem sParse_eq (l : Bs) : sParse l = (parse l).map fun v => (numsOf v, partsOf v.pre, partsOf v.build) := by
  cases h : parse l with
  | some v =>
    obtain ⟨hg, rfl⟩ := parse_iff.1 h
    exact sParse_good hg
  | none =>
    cases k : sParse l with
    | none => rfl
    | some x =>
      obtain ⟨ns, ps, bs⟩ := x
      obtain ⟨v, hv⟩ := sParse_some k
      rw [parse_iff.2 hv] at h
      cases h

end Go.Proofs.Ytienkoadkhcghaa.Sem
