/- The law FnTreeSteps as the given statement has it: for every input the call returns true, and each argument reads as it did. The frame is written by a program (frame.py); the walk stands in the text YtokopcbmpnnkcaaDoorU12. -/
import Derived.Test.YtokopcbmpnnkcaaDoorU12
import Derived.Test.YtokopcbmpnnkcaaDoorCards
import Derived.Test.YtokopcbmpnnkcaaDoorTie
import Derived.Lib.LaidTab
import Derived.Deep.DeepHandedRow
import Derived.Lay
import Derived.SizedLaws
import Derived.OpenVars
import Derived.WalkKit
import Derived.ProofKit
import Derived.OpenShut
import Derived.ShutString
import Derived.ChangeOld
import Derived.Below
import Derived.JoinedCond
namespace Go.Proofs.YtokopcbmpnnkcaaDoor.lFnTreeSteps
open Go.ChangeShapes Go.WideShapes Go.ChangeAt Go.RowKit
open Go.ChangeMaps (open_string shut_string)
set_option linter.unusedVariables false

theorem own : ownKnob Tryd.prog.godebug = none := by kernel_rfl
theorem vars_len {H : Type} {enc : TypeId × Value → H} {P : Program} {W : World} {sp : Nat → Bool} : ∀ {ns : List String} {gs : List (DataW H)} {ps : List MemPlace}, DataW.TrodVars enc P W sp ns gs ps → gs.length = ns.length
  | [], [], _, _ => rfl
  | [], _ :: _, _, h => h.elim
  | _ :: _, [], _, h => h.elim
  | _ :: _, _ :: _, _, ⟨_, _, _, _, _, _, _, _, _, _, hs, _⟩ => congrArg (· + 1) (vars_len hs)
theorem laidOut : laidOutB Tryd.prog = true := by kernel_rfl

set_option maxRecDepth 100000 in
theorem contract (H : Type) (enc : TypeId × Value → H) (W : World) (base : Nat) (args : Array Value) (ds gs : List (DataW H)) (before : List MemPlace)
    (hval : ∀ (j : Nat) t v, Tryd.f10.params[j]? = some t → args[j]? = some v → Value.okWide Tryd.prog W .any base t v)
    (hW : DataW.Whole enc Tryd.prog Tryd.f10.params.toList Rows.fnTreeStepsSpec.vars false W args.toList ds gs before) (hsz : (DataW.weightsEach Tryd.prog [22, 3, 3, 3, 43, 54, 43] (ds ++ gs)).all (· ≤ reachBytes) = true) (hL : laidMetH Tryd.prog Rows.fnTreeStepsRow.laid W) (hsh : W.ShapedOpen Tryd.prog) :
    Calls Tryd.prog 10 args W fun e W' => ∃ v, e = .returned v ∧ Rows.fnTreeStepsSpec.post enc Tryd.prog Tryd.f10 false true false false W args v W' := by
  have hW' := hW
  obtain ⟨p, q, hA0, hV, rfl, hfz, hnd⟩ := hW
  have hA : DataW.TrodAll enc Tryd.prog W 0 (fun _ => true) true Tryd.f10.params.toList args.toList ds p := hA0
  rw [Tryd.params10] at hA hval
  obtain ⟨v0, vs0, d0, ds0, p0, q0, hargs, rfl, rfl, h0, r0⟩ := trodAll_cons hA
  obtain ⟨v1, vs1, d1, ds1, p1, q1, rfl, rfl, rfl, h1, r1⟩ := trodAll_cons r0
  obtain ⟨v2, vs2, d2, ds2, p2, q2, rfl, rfl, rfl, h2, r2⟩ := trodAll_cons r1
  obtain ⟨v3, vs3, d3, ds3, p3, q3, rfl, rfl, rfl, h3, r3⟩ := trodAll_cons r2
  obtain ⟨rfl, rfl, rfl⟩ := trodAll_nil r3
  obtain rfl : args = #[v0, v1, v2, v3] := by cases args; simp_all
  have hgl : gs.length = 3 := vars_len hV
  obtain ⟨g1, g2, g3, rfl⟩ : ∃ g1 g2 g3, gs = [g1, g2, g3] := by
    match gs, hgl with
    | [g1, g2, g3], _ => exact ⟨g1, g2, g3, rfl⟩
  have k0 := h0
  have lt0 : ∀ x ∈ p0, x.block < W.heap.size := by obtain ⟨m, hm⟩ := k0; exact DataW.trod_lt m _ _ _ hm
  obtain ⟨x0, w0, u0⟩ := opened_rows (hval 0 22 v0 rfl rfl) h0
  obtain ⟨a1, rfl, rfl, rfl, w1⟩ := open_int Tryd.underlying3 (hval 1 3 v1 rfl rfl) h1
  obtain ⟨a2, rfl, rfl, rfl, w2⟩ := open_int Tryd.underlying3 (hval 2 3 v2 rfl rfl) h2
  obtain ⟨a3, rfl, rfl, rfl, w3⟩ := open_int Tryd.underlying3 (hval 3 3 v3 rfl rfl) h3
  have z0 : ∀ n ∈ d0.weights Tryd.prog 22, n ≤ reachBytes := fun n hn => by
    have := List.all_eq_true.1 hsz n (DataW.weights_mem_each (j := 0) rfl rfl n hn)
    simpa using this
  clear hA0
  refine (walk_FnTreeSteps v0 x0 a1 a2 a3 W ⟨w0, u0.2 z0⟩ w1 w2 w3 hL hsh).mono fun e W' ⟨he, bel⟩ => ?_
  subst he
  exact ⟨_, rfl, _, _, _, [], _, _, hW', trodAll_mk1 (shut_bool Tryd.underlying4 _), (trodAll_cons_mk (Below.trod laidOut (by kernel_rfl) (of_decide_eq_true (by kernel_rfl)) k0 bel lt0) (trodAll_cons_mk (shut_int Tryd.underlying3 w1) (trodAll_cons_mk (shut_int Tryd.underlying3 w2) (trodAll_cons_mk (shut_int Tryd.underlying3 w3) trodAll_mk0)))), Below.trodVars laidOut bel (by kernel_rfl) hV, bel.frame _, fun h => by cases h⟩

theorem witness_met (os : Os) : laidMet Tryd.prog Rows.fnTreeStepsRow.laid ((World.laidAll Tryd.prog os Rows.fnTreeStepsRow.laid).forCall (fun _ _ => 0) ⟨#[], #[.slice none 0 0, .int .i64 0, .int .i64 0, .int .i64 0], []⟩).memory := laidMet_laidAll _ (by kernel_rfl) (by kernel_rfl)
theorem reads (os : Os) {H : Type} (enc : TypeId × Value → H) : ∃ x, DataW.whole enc Tryd.prog ((World.laidAll Tryd.prog os Rows.fnTreeStepsRow.laid).forCall (fun _ _ => 0) ⟨#[], #[.slice none 0 0, .int .i64 0, .int .i64 0, .int .i64 0], []⟩).memory Tryd.f10.params.toList Rows.fnTreeStepsSpec.vars false #[.slice none 0 0, .int .i64 0, .int .i64 0, .int .i64 0].toList 8 = some x :=
  Option.isSome_iff_exists.1 (by kernel_rfl)

set_option maxRecDepth 100000 in
theorem lifted (os : Os) (started : os.Started) (H : Type) (enc : TypeId × Value → H) (F : Stop.Interp) :
    ReturnsInHanded {} Tryd.checked os 10 .any ((OpenSpec.ofChange Rows.fnTreeStepsSpec).preRow enc Tryd.prog Tryd.f10 Rows.fnTreeStepsRow.domain false Rows.fnTreeStepsRow.laid) (((OpenSpec.ofChange Rows.fnTreeStepsSpec).at F).post enc Tryd.prog Tryd.f10 false true false false) := by
  obtain ⟨x, hx⟩ := reads os enc
  refine returnsInHanded_of_row (C := Tryd.checked) (s := (OpenSpec.ofChange Rows.fnTreeStepsSpec)) own started (by kernel_rfl) Tryd.func10
    (witness_row_at (enc := enc) (C := Tryd.checked) false (World.laidAll Tryd.prog os Rows.fnTreeStepsRow.laid) #[.slice none 0 0, .int .i64 0, .int .i64 0, .int .i64 0] rfl (by kernel_rfl) (by kernel_rfl) (by kernel_rfl)
      (OpenSpec.preRow_of_cond 8 hx (by kernel_rfl) (fun k hk => by cases hk) (by kernel_rfl) (witness_met os))) ?_
  intro W base args ds gs before hval hW _ hcond hsz hL hsh _
  exact contract H enc W base args ds gs before hval hW hsz hL hsh

theorem said : Rows.FnTreeStepsSaid :=
  OpenClaim.holds_of_cond 10 Tryd.f10 rfl rfl rfl rfl rfl rfl rfl ⟨rfl, rfl, rfl, rfl, rfl⟩ rfl rfl rfl rfl rfl (by kernel_rfl) Tryd.func10 (by kernel_rfl)
    (of_decide_eq_true (by kernel_rfl)) (by unfold Func.isWrapper; first | (rw [if_pos (by decide +kernel)]; kernel_rfl) | (rw [if_neg (by decide +kernel)]; exact ⟨rfl, rfl⟩))
    (fun os started H enc _ F => by rw [OpenClaim.pre_eq_preRow]; exact lifted os started H enc F)

set_option maxRecDepth 100000 in
theorem plain (f : FuncId) (fn : Func) (hf : Tryd.pinned.checked.prog.funcNamed "loop.example/pub-g01440/laws.FnTreeSteps" = some f) (hfn : Tryd.pinned.checked.prog.funcs[f]? = some fn) :
    false = Tryd.pinned.checked.prog.looks [] ∧ ∀ (j : Nat) t, fn.params[j]? = some t → Tryd.pinned.checked.prog.wantsStandIn t = false := by
  obtain rfl : f = 10 := Option.some.inj ((show Tryd.prog.funcNamed "loop.example/pub-g01440/laws.FnTreeSteps" = some 10 by kernel_rfl).symm.trans hf) |>.symm
  obtain rfl : fn = Tryd.f10 := (Option.some.inj (Tryd.func10.symm.trans hfn)).symm
  refine ⟨by kernel_rfl, fun j t ht => ?_⟩
  rw [Tryd.params10] at ht
  have e3 : Tryd.pinned.checked.prog.wantsStandIn 3 = false := by kernel_rfl
  have e22 : Tryd.pinned.checked.prog.wantsStandIn 22 = false := by kernel_rfl
  have hm := Array.mem_of_getElem? ht
  simp at hm
  rcases hm with rfl | rfl | rfl | rfl
  all_goals first | with_reducible exact e3 | with_reducible exact e22

theorem proved : Rows.FnTreeStepsCardSaid :=
  Claim7.holds_tied_plain_at .later [] _ _ _ _ said (fun _ h => by cases h) (by kernel_rfl) (fun _ h => by cases h) fnTreeSteps_row_tie rfl ⟨rfl, rfl⟩ (by kernel_rfl) rfl plain (by kernel_rfl)
#print axioms proved
end Go.Proofs.YtokopcbmpnnkcaaDoor.lFnTreeSteps
