/- Contracts of the reference's VersionOk, veJoin, veTail, BuildOf, PrereleaseOf, MajorOf, and the walks of the laws that hold the package against them. Condition: the text is no longer than 2 to the power of 20. -/
import Derived.Test.YtienkoadkhcghaaSpecLaw
namespace Go.Proofs.Ytienkoadkhcghaa
open Go.RowKit
attribute [local go_sem] app_str

theorem sret_some {o : Option Sem.Ver} {ns ps bs : List (List UInt8)} (h : (o.map fun v => (Sem.numsOf v, Sem.partsOf v.pre, Sem.partsOf v.build)) = some (ns, ps, bs)) : ∃ v, o = some v ∧ ns = Sem.numsOf v ∧ ps = Sem.partsOf v.pre ∧ bs = Sem.partsOf v.build := by
  cases o with
  | none => cases h
  | some v => cases h; exact ⟨v, rfl, rfl, rfl, rfl⟩
theorem sret_none {o : Option Sem.Ver} (h : (o.map fun v => (Sem.numsOf v, Sem.partsOf v.pre, Sem.partsOf v.build)) = none) : o = none := by
  cases o with
  | none => rfl
  | some v => cases h
/-- what ParseVersion returns, by the package's own reading -/
def VRet (l : List UInt8) (e : Ending) (w : World) : Prop :=
  (∃ A1 A2 A3 n1 n2 n3 c1 c2 c3 v, Sem.parse l = some v ∧ e = .returned (.tuple #[.agg #[.slice A1 n1 c1, .slice A2 n2 c2, .slice A3 n3 c3], .bool true]) ∧ StrsAt w (.slice A1 n1 c1) (Sem.numsOf v) ∧ StrsAt w (.slice A2 n2 c2) (Sem.partsOf v.pre) ∧ StrsAt w (.slice A3 n3 c3) (Sem.partsOf v.build)) ∨
  (Sem.parse l = none ∧ e = .returned (.tuple #[.agg #[.slice none 0 0, .slice none 0 0, .slice none 0 0], .bool false]))
theorem SRet.read {l : List UInt8} {e : Ending} {w : World} (h : SRet (Sem.sParse l) e w) : VRet l e w := by
  rw [Sem.sParse_eq] at h
  rcases h with ⟨v1, v2, v3, ns, ps, bs, h, he, h1, h2, h3⟩ | ⟨h, he⟩
  · obtain ⟨v, hv, rfl, rfl, rfl⟩ := sret_some h
    have k1 := h1; have k2 := h2; have k3 := h3
    obtain ⟨A1, c1, rfl, -⟩ := k1
    obtain ⟨A2, c2, rfl, -⟩ := k2
    obtain ⟨A3, c3, rfl, -⟩ := k3
    exact .inl ⟨_, _, _, _, _, _, _, _, _, v, hv, he, h1, h2, h3⟩
  · exact .inr ⟨sret_none h, he⟩



end Go.Proofs.Ytienkoadkhcghaa
