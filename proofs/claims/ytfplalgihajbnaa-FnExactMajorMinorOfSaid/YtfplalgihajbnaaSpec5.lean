/- Contracts of the reference's VersionOk, veJoin, veTail, BuildOf, PrereleaseOf, MajorOf, and the walks of the laws that hold the package against them. Condition: the text is no longer than 2 to the power of 20. -/
import Derived.Test.YtfplalgihajbnaaSpecLaw
namespace Go.Proofs.Ytfplalgihajbnaa
open Go.RowKit
attribute [local go_sem] app_str

theorem sret_some {o : Option Sem.Ver} {ns ps bs : List (List UInt8)} (h : (o.map fun v => (Sem.numsOf v, Sem.partsOf v.pre, Sem.partsOf v.build)) = some (ns, ps, bs)) : ∃ v, o = some v ∧ ns = Sem.numsOf v ∧ ps = Sem.partsOf v.pre ∧ bs = Sem.partsOf v.build := by
  cases o with
  | none => cases h
  | some v => cases h; exact ⟨v, rfl, rfl, rfl, rfl⟩
theorem sret_none {o : Option Sem.Ver} (h : (o.map fun v => (Sem.numsOf v, Sem.partsOf v.pre, Sem.partsOf v.build)) = none) : o = none := by
  cases o with
  | none => rfl
  | some v => cases h
/-- what ParseVersion returns, by the package's own reading -/
def VRet (l : List UInt8) (e : Ending) (w : World) : Prop :=
  (∃ A1 A2 A3 n1 n2 n3 c1 c2 c3 v, Sem.parse l = some v ∧ e = .returned (.tuple #[.agg #[.slice A1 n1 c1, .slice A2 n2 c2, .slice A3 n3 c3], .bool true]) ∧ StrsAt w (.slice A1 n1 c1) (Sem.numsOf v) ∧ StrsAt w (.slice A2 n2 c2) (Sem.partsOf v.pre) ∧ StrsAt w (.slice A3 n3 c3) (Sem.partsOf v.build)) ∨
  (Sem.parse l = none ∧ e = .returned (.tuple #[.agg #[.slice none 0 0, .slice none 0 0, .slice none 0 0], .bool false]))
theorem SRet.read {l : List UInt8} {e : Ending} {w : World} (h : SRet (Sem.sParse l) e w) : VRet l e w := by
  rw [Sem.sParse_eq] at h
  rcases h with ⟨v1, v2, v3, ns, ps, bs, h, he, h1, h2, h3⟩ | ⟨h, he⟩
  · obtain ⟨v, hv, rfl, rfl, rfl⟩ := sret_some h
    have k1 := h1; have k2 := h2; have k3 := h3
    obtain ⟨A1, c1, rfl, -⟩ := k1
    obtain ⟨A2, c2, rfl, -⟩ := k2
    obtain ⟨A3, c3, rfl, -⟩ := k3
    exact .inl ⟨_, _, _, _, _, _, _, _, _, v, hv, he, h1, h2, h3⟩
  · exact .inr ⟨sret_none h, he⟩

set_option maxHeartbeats 400000 in
theorem spec_VersionOk (l : List UInt8) (w : World) (hl : l.length ≤ 1048576) :
    Calls Try.prog 12 #[str l] w fun e w' => e = .returned (.bool (Sem.isValid l)) ∧ Below w.heap.size w w' := by
  go_enter Try.func12, Try.ntmps12
  go_wp2_with fail
  refine (parseVersion_any l w hl).mono ?_
  rintro e w1 ⟨hr, hb⟩
  have hsz := hb.size
  rcases hr.read with ⟨A1, A2, A3, n1, n2, n3, c1, c2, c3, v, hv, rfl, -, -, -⟩ | ⟨hv, rfl⟩
  · have HV : Hid (Sem.isValid l = true) := Lib.hid (by unfold Sem.isValid; rw [hv]; rfl)
    clear hr hv
    go_wp2
    go_ret
    exact ⟨ret_bool HV.out.symm, by (repeat (first | assumption | (refine bl_set ?_ hsz _) | (refine bl_alloc ?_ hsz _)))⟩
  · have HV : Hid (Sem.isValid l = false) := Lib.hid (by unfold Sem.isValid; rw [hv]; rfl)
    clear hr hv
    go_wp2
    go_ret
    exact ⟨ret_bool HV.out.symm, by (repeat (first | assumption | (refine bl_set ?_ hsz _) | (refine bl_alloc ?_ hsz _)))⟩

set_option maxHeartbeats 400000 in
theorem walk_FnExactVersionOk (s0 : ByteArray) (w : World) (b0 : s0.size ≤ 140737488351232) :
    Calls Try.prog 3 #[.string s0] w fun e w' => e = .returned (.bool true) ∧ Below w.heap.size w w' := by
  rw [← len_of] at b0
  rw [str_of]
  generalize s0.data.toList = l at *
  by_cases hs : l.length ≤ 1048576
  · go_enter Try.func3, Try.ntmps3
    go_wp2_with fail
    refine (spec_VersionOk l w hs).mono ?_
    rintro e w1 ⟨rfl, hb⟩
    go_wp2_with fail
    refine (impl_VersionOk l w1 (by omega)).mono ?_
    rintro e w2 ⟨rfl, hb2⟩
    go_wp2
    go_ret
    exact ⟨rfl, hb.trans (hb2.mono hb.size)⟩
  · go_enter Try.func3, Try.ntmps3
    go_wp2
    go_ret
    exact ⟨rfl, Below.refl _ _⟩

end Go.Proofs.Ytfplalgihajbnaa
