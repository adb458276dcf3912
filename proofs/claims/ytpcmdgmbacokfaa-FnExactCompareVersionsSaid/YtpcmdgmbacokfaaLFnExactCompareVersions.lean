/- The law FnExactCompareVersions as the given statement has it: for every input the call returns true, and each argument reads as it did. The frame is written by a program (frame.py); the walk stands in the text YtpcmdgmbacokfaaSpec12. -/
import Derived.Test.YtpcmdgmbacokfaaSpec12
import Derived.Deep.DeepHandedRow
import Derived.Lay
import Derived.SizedLaws
import Derived.WalkKit
import Derived.ProofKit
import Derived.OpenShut
import Derived.ShutString
import Derived.ChangeOld
import Derived.Below
import Derived.JoinedCond
namespace Go.Proofs.Ytpcmdgmbacokfaa.lFnExactCompareVersions
open Go.ChangeShapes Go.WideShapes Go.ChangeAt Go.RowKit
open Go.ChangeMaps (open_string shut_string)
set_option linter.unusedVariables false

theorem own : ownKnob Try.prog.godebug = none := by kernel_rfl
theorem laidOut : laidOutB Try.prog = true := by kernel_rfl

set_option maxRecDepth 100000 in
theorem contract (H : Type) (enc : TypeId × Value → H) (W : World) (base : Nat) (args : Array Value) (ds gs : List (DataW H)) (before : List MemPlace)
    (hval : ∀ (j : Nat) t v, Try.f4.params[j]? = some t → args[j]? = some v → Value.okWide Try.prog W .any base t v)
    (hW : DataW.Whole enc Try.prog Try.f4.params.toList Rows.fnExactCompareVersionsSpec.vars false W args.toList ds gs before) (hsz : (DataW.weightsEach Try.prog [9, 9] (ds ++ gs)).all (· ≤ reachBytes) = true) (hsh : W.ShapedOpen Try.prog) :
    Calls Try.prog 4 args W fun e W' => ∃ v, e = .returned v ∧ Rows.fnExactCompareVersionsSpec.post enc Try.prog Try.f4 false true false false W args v W' := by
  have hW' := hW
  obtain ⟨p, q, hA0, hV, rfl, hfz, hnd⟩ := hW
  have hA : DataW.TrodAll enc Try.prog W 0 (fun _ => true) true Try.f4.params.toList args.toList ds p := hA0
  rw [Try.params4] at hA hval
  obtain ⟨v0, vs0, d0, ds0, p0, q0, hargs, rfl, rfl, h0, r0⟩ := trodAll_cons hA
  obtain ⟨v1, vs1, d1, ds1, p1, q1, rfl, rfl, rfl, h1, r1⟩ := trodAll_cons r0
  obtain ⟨rfl, rfl, rfl⟩ := trodAll_nil r1
  obtain rfl : args = #[v0, v1] := by cases args; simp_all
  obtain ⟨rfl, rfl⟩ := trodVars_none hV
  obtain ⟨s0, rfl, rfl, rfl, w0⟩ := open_string Try.underlying9 (hval 0 9 v0 rfl rfl) h0
  obtain ⟨s1, rfl, rfl, rfl, w1⟩ := open_string Try.underlying9 (hval 1 9 v1 rfl rfl) h1
  have b0 : s0.size ≤ 140737488351232 := by
    have e : s0.data.toList.length = s0.size := by rw [Array.length_toList]; rfl
    have := sized_string hsz (j := 0) (bytes := s0.data.toList) rfl rfl
    rw [e] at this
    exact this
  have b1 : s1.size ≤ 140737488351232 := by
    have e : s1.data.toList.length = s1.size := by rw [Array.length_toList]; rfl
    have := sized_string hsz (j := 1) (bytes := s1.data.toList) rfl rfl
    rw [e] at this
    exact this
  clear hA0
  refine (walk_FnExactCompareVersions s0 s1 W b0 b1).mono fun e W' ⟨he, bel⟩ => ?_
  subst he
  exact ⟨_, rfl, _, _, _, [], _, [], hW', trodAll_mk1 (shut_bool Try.underlying4 _), (trodAll_cons_mk (shut_string Try.underlying9 w0) (trodAll_cons_mk (shut_string Try.underlying9 w1) trodAll_mk0)), rfl, bel.frame _, fun h => by cases h⟩

theorem witness_met (os : Os) : laidMet Try.prog Rows.fnExactCompareVersionsRow.laid ((World.laidAll Try.prog os Rows.fnExactCompareVersionsRow.laid).forCall (fun _ _ => 0) ⟨#[], #[.string .empty, .string .empty], []⟩).memory := laidMet_laidAll _ (by kernel_rfl) (by kernel_rfl)
theorem reads (os : Os) {H : Type} (enc : TypeId × Value → H) : ∃ places, DataW.whole enc Try.prog ((World.laidAll Try.prog os Rows.fnExactCompareVersionsRow.laid).forCall (fun _ _ => 0) ⟨#[], #[.string .empty, .string .empty], []⟩).memory Try.f4.params.toList Rows.fnExactCompareVersionsSpec.vars false #[.string .empty, .string .empty].toList 8 = some ([.lit (.string []), .lit (.string [])], [], places) :=
  ⟨[], by kernel_rfl⟩

set_option maxRecDepth 100000 in
theorem lifted (os : Os) (started : os.Started) (H : Type) (enc : TypeId × Value → H) (F : Stop.Interp) :
    ReturnsInHanded {} Try.checked os 4 .any ((OpenSpec.ofChange Rows.fnExactCompareVersionsSpec).preRow enc Try.prog Try.f4 Rows.fnExactCompareVersionsRow.domain false Rows.fnExactCompareVersionsRow.laid) (((OpenSpec.ofChange Rows.fnExactCompareVersionsSpec).at F).post enc Try.prog Try.f4 false true false false) := by
  obtain ⟨places, hx⟩ := reads os enc
  refine returnsInHanded_of_row (C := Try.checked) (s := (OpenSpec.ofChange Rows.fnExactCompareVersionsSpec)) own started (by kernel_rfl) Try.func4
    (witness_row_at (enc := enc) (C := Try.checked) false (World.laidAll Try.prog os Rows.fnExactCompareVersionsRow.laid) #[.string .empty, .string .empty] rfl (by kernel_rfl) (by kernel_rfl) (by kernel_rfl)
      (OpenSpec.preRow_of_cond 8 hx (by kernel_rfl) (fun k hk => by cases hk) (by kernel_rfl) (witness_met os))) ?_
  intro W base args ds gs before hval hW _ hcond hsz hL hsh _
  exact contract H enc W base args ds gs before hval hW hsz hsh

theorem proved : Rows.FnExactCompareVersionsSaid :=
  OpenClaim.holds_of_cond 4 Try.f4 rfl rfl rfl rfl rfl rfl rfl ⟨rfl, rfl, rfl, rfl, rfl⟩ rfl rfl rfl rfl rfl (by kernel_rfl) Try.func4 (by kernel_rfl)
    (of_decide_eq_true (by kernel_rfl)) (by unfold Func.isWrapper; first | (rw [if_pos (by decide +kernel)]; kernel_rfl) | (rw [if_neg (by decide +kernel)]; exact ⟨rfl, rfl⟩))
    (fun os started H enc _ F => by rw [OpenClaim.pre_eq_preRow]; exact lifted os started H enc F)

#print axioms proved
end Go.Proofs.Ytpcmdgmbacokfaa.lFnExactCompareVersions
