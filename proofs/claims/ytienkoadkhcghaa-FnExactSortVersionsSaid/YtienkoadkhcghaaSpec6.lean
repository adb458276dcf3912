/- Contracts of the reference's veJoin, veTail, BuildOf, PrereleaseOf, MajorOf, and the walks of the laws that hold the package against them. Condition: the text is no longer than 2 to the power of 20. -/
import Derived.Test.YtienkoadkhcghaaSpec5
namespace Go.Proofs.Ytienkoadkhcghaa
open Go.RowKit
attribute [local go_sem] app_str


/-- identifiers with a sign ahead, or nothing -/
def tailText (c : List UInt8) (xs : List (List UInt8)) : List UInt8 := if xs = [] then [] else c ++ Sem.joinBy [46] xs
theorem tail_parts {c : UInt8} {t : List UInt8} (h : t = [] ∨ ∃ x, t = c :: x) : tailText [c] (Sem.partsOf t) = t := by
  rcases h with rfl | ⟨x, rfl⟩
  · rfl
  · have e : Sem.partsOf (c :: x) = Sem.ids x := by unfold Sem.partsOf; rw [if_neg (by simp)]; rfl
    unfold tailText
    rw [e, if_neg (Sem.ids_ne _), Sem.join_ids]; rfl
theorem pre_form {l : List UInt8} {v : Sem.Ver} (h : Sem.parse l = some v) : tailText [45] (Sem.partsOf v.pre) = v.pre :=
  tail_parts (by rcases (Sem.good_tail (Sem.parse_iff.1 h).1).1 with e | ⟨b, e, _⟩; exact .inl e; exact .inr ⟨b, e⟩)
theorem build_form {l : List UInt8} {v : Sem.Ver} (h : Sem.parse l = some v) : tailText [43] (Sem.partsOf v.build) = v.build :=
  tail_parts (by rcases (Sem.good_tail (Sem.parse_iff.1 h).1).2 with e | ⟨b, e, _⟩; exact .inl e; exact .inr ⟨b, e⟩)
theorem ids_sum : ∀ l : List UInt8, ((Sem.ids l).map fun x => x.length + 1).sum = l.length + 1
  | [] => rfl
  | c :: r => by
    have ih := ids_sum r
    obtain ⟨x, xs, e⟩ : ∃ x xs, Sem.ids r = x :: xs := List.exists_cons_of_ne_nil (Sem.ids_ne r)
    unfold Sem.ids
    split
    · rw [List.map_cons, List.sum_cons, ih]; simp; omega
    · rw [e] at ih ⊢
      simp only [List.map_cons, List.sum_cons, List.length_cons] at ih ⊢
      omega
theorem parts_sum (t : List UInt8) : ((Sem.partsOf t).map fun x => x.length + 1).sum ≤ t.length + 1 := by
  unfold Sem.partsOf
  split
  · simp
  · rw [ids_sum]; simp
theorem part_len {l : List UInt8} {v : Sem.Ver} (h : Sem.parse l = some v) : v.pre.length ≤ l.length ∧ v.build.length ≤ l.length ∧ v.major.length ≤ l.length ∧ v.minor.length ≤ l.length ∧ v.patch.length ≤ l.length + 1 := by
  obtain ⟨hg, rfl⟩ := Sem.parse_iff.1 h
  obtain ⟨_, _, _, hg⟩ := hg
  unfold Sem.textOf
  rcases hg with ⟨h, _⟩ | ⟨h, h1, h2, h3⟩ | ⟨h, h0, h1, h2, h3⟩
  · rw [h]; simp; omega
  · rw [h, h1, h2, h3]; simp; omega
  · rw [h, h0, h1, h2, h3]; simp






end Go.Proofs.Ytienkoadkhcghaa
