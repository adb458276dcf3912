/- The reference's 64 constants of SHA-256. No condition. -/
import Derived.Test.YtlmcoaidngnomaaDoorE1
namespace Go.Proofs.YtlmcoaidngnomaaDoor
open Go.RowKit
set_option linter.unusedVariables false

theorem wpList_build_to {P : Program} {ops : Array Oper} {rest : List Oper} {o : Oper} {a : Act} {w : World} {Q : Exit → Act → World → Prop} (hg : o.guard = none) (t : TypeId) (parts : Array (Nat × Operand)) (ho : o.op = .build t parts) (cells : Array Value)
    (hf : P.built t (parts.map fun (i, x) => (i, a.eval x)).toList = some cells) (h : wpList P ops Q rest (a.put o.dst (.agg cells)) w) : wpList P ops Q (o :: rest) a w :=
  wpList_build hg t parts ho (by rw [hf]; rfl) (by rw [hf]; exact h)
set_option maxHeartbeats 4000000 in
set_option maxRecDepth 50000 in
theorem spec_rounds (w : World) : Calls Tryd.prog 61 #[] w fun e w' => e = .returned (.agg (eK.map (Value.int .u32)).toArray) ∧ Below w.heap.size w w' := by
  have hz := ez64
  have HR : Hid (RAt (w.alloc (Obj.cells ((List.replicate 64 (0 : Int)).map (Value.int .u32)).toArray 88)) w.heap.size 88 (List.replicate 64 0)) := Lib.hid (RAt.new w _ _)
  generalize hG : ((List.replicate 64 (0 : Int)).map (Value.int .u32)).toArray = G at *
  have HGG := Lib.hid hG
  clear hG
  obtain ⟨KA, hKA⟩ : ∃ KA, KA = (eK.map (Value.int .u32)).toArray := ⟨_, rfl⟩
  have HKA := Lib.hid hKA
  rw [← hKA]
  clear hKA
  go_enter Tryd.func61, Tryd.ntmps61
  go_upto_region 1 with fail
  go_step
  refine wpList_build_to rfl 88 _ rfl KA (by rw [HKA.out]; kernel_rfl) ?_
  refine wpList_store_row rfl 88 (.tmp 0) (.tmp 1) rfl w.heap.size KA rfl rfl 88 _ HR.out (by rw [einfo64, HKA.out]; rfl) (by rw [HKA.out]; rfl) (by rw [HKA.out]; exact eall32 _) ?_
  go_wp2_with fail
  try simp only [Exit.inBlock, Exit.then]
  refine bodyPost_ret (results_cell_row rfl _ _ w.heap.size 88 KA (0, 0) _ rfl (by rw [HKA.out]; exact HR.out.row eK) Tryd.underlying88 rfl (by rw [einfo64, HKA.out]; rfl)) rfl ?_
  exact ⟨rfl, ebl_setRow ((Below.refl _ _).alloc (Nat.le_refl _) _) (Nat.le_refl _) _⟩

end Go.Proofs.YtlmcoaidngnomaaDoor
