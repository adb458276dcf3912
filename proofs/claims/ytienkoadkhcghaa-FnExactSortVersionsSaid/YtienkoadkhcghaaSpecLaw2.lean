/- How the reference compares numbers, texts, identifiers and prereleases, as plain functions, and that this is how the package compares them. No program is in sight here. -/
import Derived.Test.YtienkoadkhcghaaSpecLaw
import Derived.Test.YtienkoadkhcghaaSemFacts2
namespace Go.Proofs.Ytienkoadkhcghaa.Sem

def sgn (n : Int) : Int := if n < 0 then -1 else if 0 < n then 1 else 0
theorem cmpNat_sgn (m n : Nat) : cmpNat m n = sgn ((m : Int) - n) := by
  unfold cmpNat sgn
  rcases Nat.lt_trichotomy m n with h | h | h
  · have h1 : (m : Int) - n < 0 := by omega
    rw [if_pos h, if_pos h1]
  · subst h
    simp
  · have h1 : ¬ (m : Int) - n < 0 := by omega
    have h2 : 0 < (m : Int) - n := by omega
    have h3 : ¬ m < n := by omega
    rw [if_neg h3, if_pos h, if_neg h1, if_pos h2]

theorem lex_take {α : Type} {c : α → α → Int} (h0 : ∀ x, c x x = 0) : ∀ (k : Nat) (a b : List α), a.take k = b.take k → k ≤ a.length → k ≤ b.length → listLex c a b = listLex c (a.drop k) (b.drop k)
  | 0, _, _, _, _, _ => rfl
  | k + 1, [], _, _, h, _ => by simp at h
  | k + 1, _ :: _, [], _, _, h => by simp at h
  | k + 1, x :: a, y :: b, h, ha, hb => by
    simp only [List.take_succ_cons, List.cons.injEq] at h
    obtain ⟨rfl, h⟩ := h
    rw [listLex, if_neg (by rw [h0]; simp), List.drop_succ_cons, List.drop_succ_cons]
    exact lex_take h0 k a b h (by simpa using ha) (by simpa using hb)
theorem lex_at {α : Type} {c : α → α → Int} (h0 : ∀ x, c x x = 0) {k : Nat} {a b : List α} (h : a.take k = b.take k) (ha : k < a.length) (hb : k < b.length) (hne : c a[k] b[k] ≠ 0) : listLex c a b = c a[k] b[k] := by
  rw [lex_take h0 k a b h (by omega) (by omega), List.drop_eq_getElem_cons ha, List.drop_eq_getElem_cons hb, listLex, if_pos hne]
theorem lex_end {α : Type} {c : α → α → Int} (h0 : ∀ x, c x x = 0) {k : Nat} {a b : List α} (h : a.take k = b.take k) (hk : k = min a.length b.length) : listLex c a b = cmpNat a.length b.length := by
  rw [lex_take h0 k a b h (by omega) (by omega)]
  by_cases e1 : a.length < b.length
  · have : k = a.length := by omega
    rw [this, List.drop_length, List.drop_eq_getElem_cons e1, listLex, cmpNat, if_pos e1]
  · by_cases e2 : b.length < a.length
    · have : k = b.length := by omega
      rw [this, List.drop_length, List.drop_eq_getElem_cons e2, listLex, cmpNat, if_neg e1, if_pos e2]
    · have k1 : k = a.length := by omega
      have k2 : a.length = b.length := by omega
      rw [k1, List.drop_length, k2, List.drop_length, listLex, cmpNat, if_neg (by omega), if_neg (by omega)]

theorem byte_self (x : UInt8) : cmpByte x x = 0 := (cmpByte_zero x x).2 rfl
theorem id_self (x : Bs) : cmpId x x = 0 := (id_zero x x).2 rfl
theorem text_at {a b : Bs} {k : Nat} (h : a.take k = b.take k) (ha : k < a.length) (hb : k < b.length) (hne : bt a k ≠ bt b k) : cmpText a b = sgn (bt a k - bt b k) := by
  have e1 : bt a k = (a[k].toNat : Int) := by simp [bt, ha]
  have e2 : bt b k = (b[k].toNat : Int) := by simp [bt, hb]
  rw [text_eq, lex_at byte_self h ha hb (by rw [Ne, cmpByte_zero]; intro e; rw [e1, e2, e] at hne; exact hne rfl), cmpByte, cmpNat_sgn, e1, e2]
theorem text_end {a b : Bs} {k : Nat} (h : a.take k = b.take k) (hk : k = min a.length b.length) : cmpText a b = sgn ((a.length : Int) - b.length) := by
  rw [text_eq, lex_end byte_self h hk, cmpNat_sgn]
theorem int_len {a b : Bs} (h : a.length ≠ b.length) : cmpInt a b = sgn ((a.length : Int) - b.length) := by
  rw [int_eq, lex_ne (by rw [Ne, cmpNat_zero]; exact h), cmpNat_sgn]
theorem int_text {a b : Bs} (h : a.length = b.length) : cmpInt a b = cmpText a b := by
  rw [int_eq, lex_zero (by rw [cmpNat_zero]; exact h)]
theorem dig_num {a : Bs} (h : a ≠ []) : veDig a = isNum a := by
  unfold veDig isNum
  have : 0 < a.length := by cases a with | nil => exact absurd rfl h | cons => simp
  simp [this]
theorem id_both {a b : Bs} (ha : isNum a = true) (hb : isNum b = true) : cmpId a b = cmpInt a b := by
  rw [id_eq, int_eq]
  rw [lex_zero (by simp [rank, ha, hb, cmpNat])]
  unfold lex
  simp [ha, hb]
theorem id_low {a b : Bs} (ha : isNum a = true) (hb : isNum b = false) : cmpId a b = -1 := by
  rw [id_eq, lex_ne (by simp [rank, ha, hb, cmpNat])]
  simp [rank, ha, hb, cmpNat]
theorem id_high {a b : Bs} (ha : isNum a = false) (hb : isNum b = true) : cmpId a b = 1 := by
  rw [id_eq, lex_ne (by simp [rank, ha, hb, cmpNat])]
  simp [rank, ha, hb, cmpNat]
theorem id_text {a b : Bs} (ha : isNum a = false) (hb : isNum b = false) : cmpId a b = cmpText a b := by
  rw [id_eq, lex_zero (by simp [rank, ha, hb, cmpNat]), lex_zero (by simp [ha, hb, cmpNat])]

/-- the identifiers of two prereleases -/
def preIds (xs ys : List Bs) : Int := if xs = [] ∨ ys = [] then sgn ys.length - sgn xs.length else listLex cmpId xs ys
theorem sgn_pos {n : Nat} (h : 0 < n) : sgn (n : Int) = 1 := by unfold sgn; rw [if_neg (by omega), if_pos (by omega)]
theorem cmpPre_parts {x y : Bs} : cmpPre x y = preIds (partsOf x) (partsOf y) := by
  have hp : ∀ t : Bs, t ≠ [] → partsOf t = ids (t.drop 1) ∧ partsOf t ≠ [] := fun t ht => by
    unfold partsOf; rw [if_neg ht]; exact ⟨rfl, ids_ne _⟩
  have hl : ∀ t : List Bs, t ≠ [] → sgn (t.length : Int) = 1 := fun t ht => sgn_pos (by cases t with | nil => exact absurd rfl ht | cons => simp)
  unfold cmpPre preIds
  by_cases hx : x = []
  · by_cases hy : y = []
    · rw [hx, hy]; rfl
    · rw [if_neg (by rw [hx]; exact fun e => hy e.symm), if_pos hx, if_pos (.inl (by rw [hx]; rfl)), hl _ (hp y hy).2, hx]; rfl
  · by_cases hy : y = []
    · rw [if_neg (by rw [hy]; exact hx), if_neg hx, if_pos hy, if_pos (.inr (by rw [hy]; rfl)), hl _ (hp x hx).2, hy]; rfl
    · rw [if_neg hx, if_neg hy, if_neg (not_or.2 ⟨(hp x hx).2, (hp y hy).2⟩), (hp x hx).1, (hp y hy).1, ids_eq]
      by_cases e : x = y
      · rw [if_pos e, e, ← ids_eq, (cmpIds_zero _ _).2 rfl]
      · rw [if_neg e]
theorem pre_at {xs ys : List Bs} {k : Nat} (h : xs.take k = ys.take k) (ha : k < xs.length) (hb : k < ys.length) (hne : cmpId xs[k] ys[k] ≠ 0) : preIds xs ys = cmpId xs[k] ys[k] := by
  unfold preIds
  rw [if_neg (by rintro (e | e) <;> simp [e] at ha hb), lex_at id_self h ha hb hne]
theorem pre_end {xs ys : List Bs} {k : Nat} (h : xs.take k = ys.take k) (hx : xs ≠ []) (hy : ys ≠ []) (hk : k = min xs.length ys.length) : preIds xs ys = sgn ((xs.length : Int) - ys.length) := by
  unfold preIds
  rw [if_neg (not_or.2 ⟨hx, hy⟩), lex_end id_self h hk, cmpNat_sgn]
theorem preIds_none {xs ys : List Bs} (h : xs = [] ∨ ys = []) : preIds xs ys = sgn ys.length - sgn xs.length := by
  unfold preIds; rw [if_pos h]
theorem take_step {α : Type} {a b : List α} {k : Nat} (h : a.take k = b.take k) (ha : k < a.length) (hb : k < b.length) (e : a[k] = b[k]) : a.take (k + 1) = b.take (k + 1) := by
  rw [List.take_succ_eq_append_getElem ha, List.take_succ_eq_append_getElem hb, h, e]

end Go.Proofs.Ytienkoadkhcghaa.Sem
