/- tlog.runTreeProof where the beginning is the whole tree: three results; tlog.CheckTree of a tree with itself. Conditions: the numbers of records are below 2 to the power of 41; the hashes lie in memory; the variable errProofFailed holds an error. -/
import Derived.Test.YtokopcbmpnnkcaaDoorU1
import Derived.Deep.RegionHeld3
namespace Go.Proofs.YtokopcbmpnnkcaaDoor
open Go.RowKit
set_option linter.unusedVariables false

theorem results_cc {P : Program} {fn : Func} {p q u : Tmp} {ty : TypeId} (h : fn.results = #[.cell p ty, .cell q ty, .tmp u]) (tmps : Array Value) (w : World) :
    (results fn tmps).run P w = ((asAddr (tmps.getD p undef)).run P w).andThen fun a w1 => ((loadVar ty a).run P w1).andThen fun v w2 => ((asAddr (tmps.getD q undef)).run P w2).andThen fun a' w3 => ((loadVar ty a').run P w3).andThen fun v' w4 => .ok (.tuple #[v, v', tmps.getD u undef]) w4 := by
  simp only [results, h]
  simp [Sem.run_bind, Result.andThen]
theorem results_cc_tmp {P : Program} {fn : Func} {p q u : Tmp} {ty : TypeId} (h : fn.results = #[.cell p ty, .cell q ty, .tmp u]) (tmps : Array Value) (w : World) (b b' : Nat) (cs cs' : List Value) (d : TypeDesc) (hp : tmps.getD p undef = .pointer (some ⟨b, 0, none⟩)) (hq : tmps.getD q undef = .pointer (some ⟨b', 0, none⟩))
    (hc : w.rangeAt b 0 cs) (hc' : w.rangeAt b' 0 cs') (hu : P.underlying ty = some d) (hd : d.isRow = true) (hi : (P.info? ty).map (·.size) = some cs.length) (hi' : (P.info? ty).map (·.size) = some cs'.length) : (results fn tmps).run P w = .ok (.tuple #[.agg cs.toArray, .agg cs'.toArray, tmps.getD u undef]) w := by
  have h1 := run_loadVar_mid (P := P) w b 0 ty cs d hc hu hd hi
  have h2 := run_loadVar_mid (P := P) w b' 0 ty cs' d hc' hu hd hi'
  rw [results_cc h, hp, hq]
  simp [asAddr, Result.andThen, h1, h2]
/-- what a proof for a beginning gives: two hashes and an error -/
def treeOut (E : Value) : Option (List Int × List Int) → Value
  | some x => .tuple #[.agg (hcs x.1).toArray, .agg (hcs x.2).toArray, .nilIface]
  | none => .tuple #[.agg (hcs z32).toArray, .agg (hcs z32).toArray, E]
set_option maxHeartbeats 2000000 in
set_option maxRecDepth 50000 in
theorem runTree_self (t : Nat) (A : Option Addr) (c : Nat) (old : List Int) (w : World) (ht : 1 ≤ t) (hb : t < 2199023255552) (hl : old.length = 32) :
    Calls Tryd.prog 47 #[.slice A 0 c, .int .i64 0, .int .i64 t, .int .i64 t, .agg (hcs old).toArray] w fun e w' => e = .returned (treeOut .nilIface (some (old, old))) ∧ Below w.heap.size w w' := by
  have hz := zh_zero
  rw [show ((List.replicate 32 (0 : Int)).map (Value.int .u8)).toArray = (hcs z32).toArray from rfl] at hz
  obtain ⟨zs, hzs⟩ : ∃ zs, zs = z32 := ⟨_, rfl⟩
  rw [← hzs] at hz
  have HZL : Hid (zs.length = 32) := Lib.hid (by rw [hzs]; rfl)
  have HLL := Lib.hid hl
  obtain ⟨W3, hW3⟩ : ∃ W3, W3 = ((w.alloc (Obj.cells (hcs old).toArray 54)).alloc (Obj.cells (hcs zs).toArray 54)).alloc (Obj.cells (hcs zs).toArray 54) := ⟨_, rfl⟩
  have HW3 := Lib.hid hW3
  have HB3 : Hid (Below w.heap.size w W3) := Lib.hid (by rw [hW3]; exact (((Below.refl w.heap.size w).alloc (Nat.le_refl _) _).alloc (by simp) _).alloc (by simp; omega) _)
  have HO3 : Hid (BAt W3 w.heap.size 54 old) := Lib.hid (by rw [hW3]; exact (Below.heap_alloc _ _ _ (by simp; omega)).trans ((Below.heap_alloc _ _ _ (by simp)).trans (heap_alloc_new w _)))
  have HP3 : Hid (BAt W3 (w.heap.size + 1) 54 zs) := Lib.hid (by
    have := heap_alloc_new (w.alloc (Obj.cells (hcs old).toArray 54)) (Obj.cells (hcs zs).toArray 54)
    rw [show (w.alloc (Obj.cells (hcs old).toArray 54)).heap.size = w.heap.size + 1 by simp] at this
    rw [hW3]; exact (Below.heap_alloc _ _ _ (by simp)).trans this)
  have HQ3 : Hid (BAt W3 (w.heap.size + 2) 54 zs) := Lib.hid (by
    have := heap_alloc_new ((w.alloc (Obj.cells (hcs old).toArray 54)).alloc (Obj.cells (hcs zs).toArray 54)) (Obj.cells (hcs zs).toArray 54)
    rw [show ((w.alloc (Obj.cells (hcs old).toArray 54)).alloc (Obj.cells (hcs zs).toArray 54)).heap.size = w.heap.size + 2 by simp] at this
    rw [hW3]; exact this)
  have HXI := Lib.hid (info_hcs hl)
  have hb1 : decide ((0 : Int) < (t : Int)) = true := by simp; omega
  clear hW3 hzs hl
  go_enter Tryd.func47, Tryd.ntmps47
  go_upto_region 1 with fail
  rw [← HW3.out]
  go_upto_region 7 with fail
  have hS0 : W3.drew.rangeAt w.heap.size 0 (hcs old) ∧ W3.drew.there (w.heap.size + 1) 0 (hcs old).toArray.size ∧ W3.drew.there (w.heap.size + 2) 0 (hcs old).toArray.size := by
    have e : (hcs old).toArray.size = 32 := by rw [List.size_toArray, hcs_len, HLL.out]
    rw [e]
    exact ⟨by simpa using b_range HO3.out, by simpa using b_there HP3.out 32 (by rw [HZL.out]; exact Nat.le_refl _), by simpa using b_there HQ3.out 32 (by rw [HZL.out]; exact Nat.le_refl _)⟩
  refine wp_region_noPanic ?_
  refine wp_region_held_drew (S := fun w' => w'.rangeAt w.heap.size 0 (hcs old) ∧ w'.there (w.heap.size + 1) 0 (hcs old).toArray.size ∧ w'.there (w.heap.size + 2) 0 (hcs old).toArray.size) (by kernel_rfl) hS0 (fun hHeld => ?_)
  refine wpAnyH_take (i := 0) rfl (by kernel_rfl) (by kernel_rfl) (by kernel_rfl) (fun _ _ _ h => h) (yieldsIf_load_mid (by rfl) 54 (.tmp 9) rfl w.heap.size 0 rfl (hcs old) _ (fun w h => h.1) Tryd.underlying54 rfl HXI.out) (by assumption) ?_
  refine wpAnyH_take (i := 1) rfl (by kernel_rfl) (by kernel_rfl) (by kernel_rfl) (fun _ _ _ h => h) (yieldsIf_load_mid (by rfl) 54 (.tmp 9) rfl w.heap.size 0 rfl (hcs old) _ (fun w h => h.1) Tryd.underlying54 rfl HXI.out) (by assumption) ?_
  refine wpAnyH_ready (rs := [2]) (by kernel_rfl) (by simp) ?_
  refine AllReadyH.cons rfl (fun K hK => ?_) AllReadyH.nil
  rw [if_pos (by rfl)]
  refine wp_store_mid 54 (.tmp 10) (.tmp 42) rfl (w.heap.size + 1) 0 (hcs old).toArray rfl rfl (hHeld.2.1) (info_hcs HLL.out) (all_oneCell_toArray (hcs_one old)) ?_
  refine hK.out _ _ ⟨World.rangeAt_setCells_apart hHeld.1 _ _ _ (.inl (by omega)), World.there_setCells hHeld.2.1 _ _ _, World.there_setCells hHeld.2.2 _ _ _⟩ (fun hHeld => ?_)
  clear hK K
  refine wpAnyH_ready (rs := [3]) (by kernel_rfl) (by simp) ?_
  refine AllReadyH.cons rfl (fun K hK => ?_) AllReadyH.nil
  rw [if_pos (by rfl)]
  refine wp_store_mid 54 (.tmp 11) (.tmp 43) rfl (w.heap.size + 2) 0 (hcs old).toArray rfl rfl (hHeld.2.2) (info_hcs HLL.out) (all_oneCell_toArray (hcs_one old)) ?_
  refine hK.out _ _ ⟨World.rangeAt_setCells_apart hHeld.1 _ _ _ (.inl (by omega)), World.there_setCells hHeld.2.1 _ _ _, World.there_setCells hHeld.2.2 _ _ _⟩ (fun hHeld => ?_)
  clear hK K
  refine wpAnyH_take (i := 4) (v := .nilIface) rfl (by kernel_rfl) (by kernel_rfl) (by kernel_rfl) (fun _ _ _ h => h) (Or.inl ⟨by rfl, fun _ _ => rfl⟩) (by assumption) ?_
  refine wpAnyH_done (by kernel_rfl) ?_ _
  refine NoPanic.normal ?_
  have hR1 := World.rangeAt_setCells_same W3.drew (w.heap.size + 1) 0 (hcs old) (by have := hS0.2.1; simpa using this)
  have hR2 := World.rangeAt_setCells_apart hR1 (w.heap.size + 2) 0 (hcs old) (.inl (by omega))
  have hR3 := World.rangeAt_setCells_same (W3.drew.setCells (w.heap.size + 1) 0 (hcs old)) (w.heap.size + 2) 0 (hcs old) (World.there_setCells (by have := hS0.2.2; simpa using this) _ _ _)
  go_wp2_with fail
  try simp only [Exit.inBlock, Exit.then]
  refine bodyPost_ret (results_cc_tmp rfl _ _ (w.heap.size + 1) (w.heap.size + 2) (hcs old) (hcs old) _ rfl rfl hR2 hR3 Tryd.underlying54 rfl HXI.out HXI.out) rfl ?_
  exact ⟨rfl, below_set (below_set HB3.out.drew (by omega) (Nat.le_refl _) 0 _) (by omega) (Nat.le_refl _) 0 _⟩

end Go.Proofs.YtokopcbmpnnkcaaDoor
