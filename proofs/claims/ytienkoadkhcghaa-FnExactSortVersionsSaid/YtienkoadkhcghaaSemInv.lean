/- Plain steps for loops that scan a text as long as its bytes are of a kind. No program is in sight here. -/
import Derived.Test.YtienkoadkhcghaaSem
namespace Go.Proofs.Ytienkoadkhcghaa.Sem

/-- the first i bytes are all of the kind p -/
def Inv (p : UInt8 → Bool) (l : Bs) (i : Nat) : Prop := i ≤ l.length ∧ l.takeWhile p = l.take i ++ (l.drop i).takeWhile p

theorem Inv.zero (p : UInt8 → Bool) (l : Bs) : Inv p l 0 := ⟨Nat.zero_le _, by simp⟩
theorem Inv.step {p : UInt8 → Bool} {l : Bs} {i : Nat} (h : Inv p l i) (hi : i < l.length) (hp : p l[i] = true) : Inv p l (i + 1) := by
  refine ⟨hi, ?_⟩
  have e : l.take (i + 1) = l.take i ++ [l[i]] := List.take_succ_eq_append_getElem hi
  rw [h.2, List.drop_eq_getElem_cons hi, List.takeWhile_cons_of_pos hp, e, List.append_assoc]
  rfl
theorem dropWhile_eq_drop (p : UInt8 → Bool) (l : Bs) : l.dropWhile p = l.drop (l.takeWhile p).length := by
  induction l with
  | nil => simp
  | cons c r ih =>
    by_cases h : p c = true
    · simp [List.takeWhile_cons_of_pos h, List.dropWhile_cons_of_pos h, ih]
    · simp [List.takeWhile_cons_of_neg h, List.dropWhile_cons_of_neg h]
theorem Inv.stop {p : UInt8 → Bool} {l : Bs} {i : Nat} (h : Inv p l i) (hs : ∀ hi : i < l.length, p l[i] = false) : l.takeWhile p = l.take i ∧ l.dropWhile p = l.drop i := by
  have e : (l.drop i).takeWhile p = [] := by
    by_cases hi : i < l.length
    · rw [List.drop_eq_getElem_cons hi, List.takeWhile_cons_of_neg (by simp [hs hi])]
    · rw [List.drop_eq_nil_of_le (by omega)]; rfl
  have e1 : l.takeWhile p = l.take i := by rw [h.2, e]; simp
  refine ⟨e1, ?_⟩
  rw [dropWhile_eq_drop, e1, List.length_take, Nat.min_eq_left h.1]
theorem Inv.le {p : UInt8 → Bool} {l : Bs} {i : Nat} (h : Inv p l i) : i ≤ l.length := h.1

/-- a byte as a number -/
def bt (l : Bs) (k : Nat) : Int := ((l[k]?).map (fun c => (c.toNat : Int))).getD 0
theorem bt_at {l : Bs} {k : Nat} (h : k < l.length) : bt l k = (l[k].toNat : Int) := by simp [bt, h]
theorem bt_lo (l : Bs) (k : Nat) : 0 ≤ bt l k := by unfold bt; cases l[k]? <;> simp
theorem bt_hi (l : Bs) (k : Nat) : bt l k ≤ 255 := by
  unfold bt
  cases h : l[k]? with
  | none => simp
  | some c => have := c.toNat_lt; simp; omega
theorem isDig_at {l : Bs} {k : Nat} (h : k < l.length) : isDig l[k] = true ↔ 48 ≤ bt l k ∧ bt l k ≤ 57 := by
  rw [bt_at h]; simp [isDig, UInt8.le_iff_toNat_le]; omega
theorem eq_at {l : Bs} {k : Nat} (h : k < l.length) (c : UInt8) : l[k] = c ↔ bt l k = c.toNat := by
  rw [bt_at h, ← UInt8.toNat_inj]; omega

/-- a byte of an identifier, as a number -/
def idB (c : Int) : Bool := decide (65 ≤ c ∧ c ≤ 90 ∨ 97 ≤ c ∧ c ≤ 122 ∨ 48 ≤ c ∧ c ≤ 57 ∨ c = 45)
theorem idB_at {l : Bs} {k : Nat} (h : k < l.length) : idB (bt l k) = isId l[k] := by
  rw [bt_at h, Bool.eq_iff_iff]
  have e : ∀ c : UInt8, c = 45 ↔ (c.toNat : Int) = 45 := fun c => by rw [← UInt8.toNat_inj]; simp; omega
  simp [idB, isId, isDig, UInt8.le_iff_toNat_le, e]
  omega

theorem isNum_stop {l : Bs} {k : Nat} (hk : k ≤ l.length) (h : l.takeWhile isDig = l.take k) : isNum l = decide (k = l.length) := by
  rw [Bool.eq_iff_iff, decide_eq_true_iff, isNum]
  constructor
  · intro ha
    have : l.takeWhile isDig = l := by
      clear h hk
      induction l with
      | nil => rfl
      | cons c r ih =>
        simp only [List.all_cons, Bool.and_eq_true] at ha
        rw [List.takeWhile_cons_of_pos ha.1, ih ha.2]
    rw [this] at h
    have := congrArg List.length h
    rw [List.length_take] at this
    omega
  · intro e
    subst e
    rw [List.take_length] at h
    clear hk
    induction l with
    | nil => rfl
    | cons c r ih =>
      by_cases hc : isDig c = true
      · rw [List.takeWhile_cons_of_pos hc] at h
        simp only [List.all_cons, hc, Bool.true_and]
        exact ih (List.cons.inj h).2
      · rw [List.takeWhile_cons_of_neg hc] at h
        cases h

theorem chk_cons_dot (num : Bool) (cur r : Bs) : chk num cur (46 :: r) = ((!cur.isEmpty && !(num && isBad cur)) && chk num [] r) := by simp [chk]
theorem chk_cons_ne (num : Bool) (cur r : Bs) {c : UInt8} (h : c ≠ 46) : chk num cur (c :: r) = (isId c && chk num (cur ++ [c]) r) := by simp [chk, h]

/-- what a loop that checks identifiers has come to: of the text b, the place i, the beginning s of the present identifier -/
def CInv (num : Bool) (b : Bs) (i s : Nat) : Prop := s ≤ i ∧ i ≤ b.length ∧ chk num [] b = chk num ((b.take i).drop s) (b.drop i)
theorem CInv.zero (num : Bool) (b : Bs) : CInv num b 0 0 := ⟨Nat.le_refl _, Nat.zero_le _, by simp⟩
theorem CInv.char {num : Bool} {b : Bs} {i s : Nat} (h : CInv num b i s) (hi : i < b.length) (hne : b[i] ≠ 46) (hid : isId b[i] = true) : CInv num b (i + 1) s := by
  refine ⟨by have := h.1; omega, hi, ?_⟩
  have e : b.take (i + 1) = b.take i ++ [b[i]] := List.take_succ_eq_append_getElem hi
  have hs : s ≤ (b.take i).length := by rw [List.length_take]; have := h.1; omega
  rw [h.2.2, List.drop_eq_getElem_cons hi, chk_cons_ne _ _ _ hne, hid, Bool.true_and, e, List.drop_append_of_le_length hs]
theorem CInv.bad {num : Bool} {b : Bs} {i s : Nat} (h : CInv num b i s) (hi : i < b.length) (hne : b[i] ≠ 46) (hid : isId b[i] = false) : chk num [] b = false := by
  rw [h.2.2, List.drop_eq_getElem_cons hi, chk_cons_ne _ _ _ hne, hid, Bool.false_and]
/-- the present identifier is none, or a number with superfluous zeros -/
def wrong (num : Bool) (x : Bs) : Bool := x.isEmpty || (num && isBad x)
theorem wrong_eq (num : Bool) (x : Bs) : (!x.isEmpty && !(num && isBad x)) = !wrong num x := by unfold wrong; cases x.isEmpty <;> simp
theorem CInv.dot {num : Bool} {b : Bs} {i s : Nat} (h : CInv num b i s) (hi : i < b.length) (he : b[i] = 46) :
    chk num [] b = (!wrong num ((b.take i).drop s) && chk num [] (b.drop (i + 1))) := by
  rw [h.2.2, List.drop_eq_getElem_cons hi, he, chk_cons_dot, wrong_eq]
theorem CInv.next {num : Bool} {b : Bs} {i s : Nat} (h : CInv num b i s) (hi : i < b.length) (he : b[i] = 46) (hw : wrong num ((b.take i).drop s) = false) : CInv num b (i + 1) (i + 1) := by
  refine ⟨Nat.le_refl _, hi, ?_⟩
  have e : (b.take (i + 1)).drop (i + 1) = [] := List.drop_eq_nil_of_le (by rw [List.length_take]; omega)
  rw [h.dot hi he, hw, e]
  rfl
theorem CInv.stop {num : Bool} {b : Bs} {s : Nat} (h : CInv num b b.length s) : chk num [] b = !wrong num (b.drop s) := by
  rw [h.2.2, List.drop_length, List.take_length, chk, wrong_eq]
theorem wrong_empty (num : Bool) : wrong num [] = true := by simp [wrong]
theorem wrong_of {num : Bool} {x : Bs} (h : 0 < x.length) : wrong num x = (num && isBad x) := by cases x with | nil => simp at h | cons => simp [wrong]

theorem Inv.mem {p : UInt8 → Bool} {r body : Bs} {k : Nat} (h : Inv p r k) (hbd : r.takeWhile p = body) (hk : k < r.length) (hp : p r[k] = true) : ∃ hb : k < body.length, body[k] = r[k] := by
  have h1 := (h.step hk hp).2
  rw [hbd] at h1
  have hlen : (r.take (k + 1)).length = k + 1 := by rw [List.length_take]; omega
  have hb : k < body.length := by rw [h1, List.length_append]; omega
  refine ⟨hb, ?_⟩
  have e : body[k]? = some r[k] := by
    rw [h1, List.getElem?_append_left (by omega), List.getElem?_take_of_lt (by omega), List.getElem?_eq_getElem hk]
  rw [List.getElem?_eq_getElem hb] at e
  exact Option.some.inj e
theorem bt_cons (c : UInt8) (r : Bs) (k : Nat) : bt (c :: r) (k + 1) = bt r k := by simp [bt]
theorem take_pre {p : UInt8 → Bool} {r : Bs} {k : Nat} (h : Inv p r k) : (r.takeWhile p).take k = r.take k := by
  rw [h.2, List.take_append_of_le_length (by rw [List.length_take]; have := h.1; omega), List.take_take, Nat.min_self]

theorem isBad_eq (l : Bs) : isBad l = (isNum l && (decide (1 < l.length) && decide (bt l 0 = 48))) := by
  unfold isBad isNum
  rw [Bool.and_assoc]
  congr 1
  cases l with
  | nil => simp
  | cons c r =>
    have e : (c == 48) = decide (bt (c :: r) 0 = 48) := by
      rw [Bool.eq_iff_iff, decide_eq_true_iff, beq_iff_eq, ← UInt8.toNat_inj]
      simp [bt]; omega
    simp only [List.head?_cons, Option.some_beq_some, e]

theorem parseInt_split {l t r : Bs} (h : parseInt l = some (t, r)) : t ++ r = l := by
  unfold parseInt at h
  split at h
  · cases h
  · split at h
    · split at h
      · cases h
      · simp only [Option.some.injEq, Prod.mk.injEq] at h
        rw [← h.1, ← h.2, List.takeWhile_append_dropWhile]
    · cases h
theorem parsePre_split {l t r : Bs} (h : parsePre l = some (t, r)) : t ++ r = l := by
  unfold parsePre at h
  split at h
  · cases h
  · split at h
    · split at h
      · simp only [Option.some.injEq, Prod.mk.injEq] at h
        rw [← h.1, ← h.2, List.cons_append, List.takeWhile_append_dropWhile]
      · cases h
    · cases h
theorem parseBuild_split {l t r : Bs} (h : parseBuild l = some (t, r)) : t = l ∧ r = [] := by
  unfold parseBuild at h
  split at h
  · cases h
  · split at h
    · split at h
      · simp only [Option.some.injEq, Prod.mk.injEq] at h
        exact ⟨h.1.symm, h.2.symm⟩
      · cases h
    · cases h
theorem len_of_split {l t r : Bs} (h : t ++ r = l) : r.length ≤ l.length := by rw [← h, List.length_append]; omega

end Go.Proofs.Ytienkoadkhcghaa.Sem
