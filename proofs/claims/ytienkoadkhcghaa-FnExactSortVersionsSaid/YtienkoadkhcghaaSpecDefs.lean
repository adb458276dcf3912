/- What the reference's small functions on texts and lists of texts compute, as plain functions. No program is in sight here. -/
import Derived.Test.YtienkoadkhcghaaSemForm
namespace Go.Proofs.Ytienkoadkhcghaa.Sem

def veDig (l : Bs) : Bool := l.all isDig && decide (0 < l.length)
def veNum (l : Bs) : Bool := veDig l && (decide (l.length = 1) || decide (bt l 0 ≠ 48))
def veId (l : Bs) : Bool := l.all isId && decide (0 < l.length)
def goodId (l : Bs) : Bool := veId l && !(veDig l && !veNum l)
def numsGood (xs : List Bs) : Bool := xs.all veNum && decide (xs.length = 3)
def idsGood (xs : List Bs) : Bool := xs.all goodId
def joinBy (by_ : Bs) : List Bs → Bs
  | [] => []
  | [x] => x
  | x :: y :: r => x ++ by_ ++ joinBy by_ (y :: r)
theorem joinBy_snoc (b : Bs) (xs : List Bs) (y : Bs) : joinBy b (xs ++ [y]) = if xs = [] then y else joinBy b xs ++ b ++ y := by
  induction xs with
  | nil => rfl
  | cons x r ih =>
    cases r with
    | nil => rfl
    | cons z r =>
      have e : x :: z :: r ++ [y] = x :: z :: (r ++ [y]) := rfl
      rw [e, joinBy, joinBy]
      have ih' : joinBy b (z :: (r ++ [y])) = joinBy b (z :: r) ++ b ++ y := by rw [← List.cons_append, ih]; simp
      rw [ih']
      simp
theorem joinBy_len (b : Bs) (xs : List Bs) {n : Nat} (hb : b.length ≤ n) : (joinBy b xs).length ≤ (xs.map fun x => x.length + n).sum := by
  induction xs with
  | nil => simp [joinBy]
  | cons x r ih =>
    cases r with
    | nil => simp [joinBy]
    | cons y r =>
      rw [joinBy]
      simp only [List.length_append, List.map_cons, List.sum_cons] at ih ⊢
      omega

theorem all_take_succ {α : Type} (p : α → Bool) (l : List α) {k : Nat} (h : k < l.length) : (l.take (k + 1)).all p = ((l.take k).all p && p l[k]) := by
  have e : l.take (k + 1) = l.take k ++ [l[k]] := List.take_succ_eq_append_getElem h
  rw [e, List.all_append]
  simp
theorem all_false {α : Type} (p : α → Bool) (l : List α) {k : Nat} (h : k < l.length) (hp : p l[k] = false) : l.all p = false := by
  rw [List.all_eq_false]
  exact ⟨l[k], List.getElem_mem h, by simp [hp]⟩
theorem veNum_iff (t : Bs) : veNum t = true ↔ Num t := by
  unfold veNum veDig Num
  cases t with
  | nil => simp
  | cons c r =>
    have e : (bt (c :: r) 0 = 48) ↔ c = 48 := by
      rw [← UInt8.toNat_inj]; simp [bt]; omega
    simp [e]

end Go.Proofs.Ytienkoadkhcghaa.Sem
