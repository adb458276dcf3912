/- The walk of the law FnCompareNumbers: it returns true. Condition: each text takes at most 2 to the power of 47 bytes. -/
import Derived.Test.YtpcmdgmbacokfaaSpec1
namespace Go.Proofs.Ytpcmdgmbacokfaa
open Go.RowKit
attribute [local go_sem] app_str

theorem good3 {xs : List (List UInt8)} (h : Sem.numsGood xs = true) : ∃ a b c, xs = [a, b, c] ∧ Sem.Num a ∧ Sem.Num b ∧ Sem.Num c := by
  unfold Sem.numsGood at h
  simp only [Bool.and_eq_true, decide_eq_true_eq] at h
  obtain ⟨h1, h2⟩ := h
  match xs, h2 with
  | [a, b, c], _ =>
    simp only [List.all_cons, List.all_nil, Bool.and_true, Bool.and_eq_true] at h1
    exact ⟨a, b, c, rfl, (Sem.veNum_iff a).1 h1.1, (Sem.veNum_iff b).1 h1.2.1, (Sem.veNum_iff c).1 h1.2.2⟩
theorem parse3 {a b c : List UInt8} (ha : Sem.Num a) (hb : Sem.Num b) (hc : Sem.Num c) : Sem.parse (118 :: Sem.joinBy [46] [a, b, c]) = some ⟨a, b, c, [], [], []⟩ := by
  rw [Sem.parse_iff]
  exact ⟨⟨ha, hb, hc, .inl ⟨rfl, .inl rfl, .inl rfl⟩⟩, by simp [Sem.textOf, Sem.joinBy]⟩
theorem compare3 {xs ys : List (List UInt8)} (hx : Sem.numsGood xs = true) (hy : Sem.numsGood ys = true) :
    Sem.compare (118 :: Sem.joinBy [46] xs) (118 :: Sem.joinBy [46] ys) = Sem.listLex Sem.cmpInt xs ys := by
  obtain ⟨a, b, c, rfl, ha, hb, hc⟩ := good3 hx
  obtain ⟨d, e, f, rfl, hd, he, hf⟩ := good3 hy
  rw [Sem.compare_opt, parse3 ha hb hc, parse3 hd he hf]
  simp only [Sem.cmpOpt, Sem.cmpVer, Sem.listLex, ne_eq]
  have : Sem.cmpPre [] [] = 0 := by simp [Sem.cmpPre]
  rw [this]
theorem lex_at {α : Type} {c : α → α → Int} (hz : ∀ x, c x x = 0) {xs ys : List α} {k : Nat} (hk : k < xs.length) (hk' : k < ys.length) (h : xs.take k = ys.take k) (hne : c xs[k] ys[k] ≠ 0) : Sem.listLex c xs ys = c xs[k] ys[k] := by
  induction k generalizing xs ys with
  | zero =>
    cases xs with
    | nil => simp at hk
    | cons x xs =>
      cases ys with
      | nil => simp at hk'
      | cons y ys => rw [Sem.listLex]; simp at hne ⊢; intro e; exact absurd e hne
  | succ k ih =>
    cases xs with
    | nil => simp at hk
    | cons x xs =>
      cases ys with
      | nil => simp at hk'
      | cons y ys =>
        simp only [List.take_succ_cons, List.cons.injEq] at h
        rw [Sem.listLex, h.1, if_neg (by simp [hz])]
        exact ih (by simpa using hk) (by simpa using hk') h.2 hne


end Go.Proofs.Ytpcmdgmbacokfaa
