/- tlog.TreeHash of no records; impl.TreeHash of no records; the walk of FnTreeEmpty: it returns true at every input. Conditions: tlog.emptyHash holds its bytes; errMissing holds an error. -/
import Derived.Test.YtlmcoaidngnomaaDoorE5
import Derived.Test.YtlmcoaidngnomaaDoorT9
import Derived.Lib.LaidTab
import Derived.Stop.LaidErr
import Derived.MakeChecks
namespace Go.Proofs.YtlmcoaidngnomaaDoor
open Go.RowKit
set_option linter.unusedVariables false

theorem empty_of_laid {W : World} {rest : List (String × DataW Unit)} (h : laidMet Tryd.prog (("loop.example/pub-g01440/pub/tlog.emptyHash", Lib.tabData .u8 eHash) :: rest) W) : W.rangeAt 2 0 (hcs eHash) ∧ 2 < W.heap.size := by
  have ht := Lib.tabIs_of_head (g := 2) (t := 51) (e := 5) (n := 32) (by kernel_rfl) (by kernel_rfl) (by kernel_rfl) (by kernel_rfl) (by kernel_rfl) (by kernel_rfl) h
  have hr : W.rangeAt 2 0 (hcs eHash) := by
    intro j v hv
    have hj : j < eHash.length := by have := (List.getElem?_eq_some_iff.1 hv).1; simpa [hcs] using this
    rw [Nat.zero_add, ht.cell (g := 2) (by kernel_rfl) j (by simpa using hj), ← hv]
    simp [hcs, List.getElem?_eq_getElem hj]
  exact ⟨hr, World.block_lt_of_cell? W ⟨2, 0 + 0, none⟩ (hr 0 _ rfl)⟩
theorem missing_at {W : World} {nm : String} {text : List UInt8} {rest : List (String × DataW Unit)} (hn : nm = "*errors.errorString") (h : laidMet Tryd.prog (("loop.example/pub-g01440/impl.errMissing", .iface nm (.ptr (.agg [.lit (.string text)]))) :: rest) W) :
    ∃ T a, W.cell? ⟨1, 0, none⟩ = some (.iface T (.pointer (some a))) ∧ 1 < W.heap.size := by
  subst hn
  obtain ⟨a, s, hv, _⟩ := laid_sentinel (g := 1) (ti := 45) (tp := 102) (te := 104) (ts := 9) h (by kernel_rfl) (by kernel_rfl) Tryd.underlying45 (fun u h => typeName_ptr_named (nm := "errors.errorString") (by rw [show "*" ++ "errors.errorString" = "*errors.errorString" by decide]; kernel_rfl) (by kernel_rfl) (by decide) u (by rw [show "*" ++ "errors.errorString" = "*errors.errorString" by decide]; exact h)) Tryd.underlying102 Tryd.underlying104 rfl rfl Tryd.underlying9 (by kernel_rfl) (by kernel_rfl)
  have hc := World.var?_cell (g := 1) (by kernel_rfl) hv 0
  exact ⟨_, _, hc, World.block_lt_of_cell? W ⟨_, 0, none⟩ hc⟩
set_option maxHeartbeats 4000000 in
set_option maxRecDepth 50000 in
theorem treeHash_zero (X : Value) (x : List Int) (w : World) (hl : x.length = 32) (hR : w.rangeAt 2 0 (hcs x)) (hg : 2 < w.heap.size) :
    Calls Tryd.prog 45 #[.int .i64 0, X] w fun e w' => e = .returned (.tuple #[.agg (hcs x).toArray, .nilIface]) ∧ Below w.heap.size w w' := by
  have hz := zh_zero
  rw [show ((List.replicate 32 (0 : Int)).map (Value.int .u8)).toArray = (hcs z32).toArray from rfl] at hz
  obtain ⟨zs, hzs⟩ : ∃ zs, zs = z32 := ⟨_, rfl⟩
  rw [← hzs] at hz
  have HZL : Hid (zs.length = 32) := Lib.hid (by rw [hzs]; rfl)
  obtain ⟨W1, hW1⟩ : ∃ W1, W1 = w.alloc (Obj.cells (hcs zs).toArray 51) := ⟨_, rfl⟩
  have HW1 := Lib.hid hW1
  have HB1 : Hid (Below w.heap.size w W1) := Lib.hid (by rw [hW1]; exact (Below.refl w.heap.size w).alloc (Nat.le_refl _) _)
  have HR1 : Hid (BAt W1 w.heap.size 51 zs) := Lib.hid (by rw [hW1]; exact heap_alloc_new w _)
  have HRE : Hid (W1.rangeAt 2 0 (hcs x)) := Lib.hid (rangeAt_below hR HB1.out hg)
  have HXL := Lib.hid hl
  have HXI := Lib.hid (info_hcs hl)
  clear hW1 hzs hR hl
  go_enter Tryd.func45, Tryd.ntmps45
  go_upto_region 1 with fail
  rw [← HW1.out]
  go_wp2_with (first
    | (refine wpList_load_mid rfl 51 (.global 2) rfl 2 0 rfl (hcs x) _ HRE.out Tryd.underlying51 rfl HXI.out ?_)
    | (refine wpList_storeH rfl (.tmp 4) (.tmp 12) rfl w.heap.size x rfl rfl 51 zs HR1.out HZL.out HXL.out ?_; intro w3 HR3 HX3))
  try simp only [Exit.inBlock, Exit.then]
  refine bodyPost_ret (results_cell_tmp_mid rfl _ _ w.heap.size 0 (hcs x) _ rfl (b_range HR3.out) Tryd.underlying51 rfl HXI.out) rfl ?_
  exact ⟨rfl, below_but HB1.out HX3.out (Nat.le_refl _)⟩
set_option maxHeartbeats 4000000 in
set_option maxRecDepth 50000 in
theorem implTreeHash_zero (x : List Int) (ls : List (List Int)) (v : Value) (E0t : TypeId) (E0a : Addr) (w : World) (hl : x.length = 32) (hR : w.rangeAt 2 0 (hcs x)) (hg : 2 < w.heap.size) (hv : RowsIn w v ls)
    (hE : w.cell? ⟨1, 0, none⟩ = some (.iface E0t (.pointer (some E0a)))) (hE0 : 1 < w.heap.size) :
    Calls Tryd.prog 22 #[.int .i64 0, v] w fun e w' => (∃ v', e = .returned (.tuple #[v', .bool true]) ∧ BIn w' v' x) ∧ Below w.heap.size w w' := by
  have HS := Lib.hid (implSize_any 0 w)
  rw [show (0 : Int) % 1099511627776 = 0 from rfl] at HS
  have HR := Lib.hid (reader_any ls v _ w hv hE hE0)
  have HT := Lib.hid (fun X w' (hb : Below w.heap.size w w') => treeHash_zero X x w' hl (rangeAt_below hR hb hg) (Nat.lt_of_lt_of_le hg hb.size))
  have hz := zh_zero
  rw [show ((List.replicate 32 (0 : Int)).map (Value.int .u8)).toArray = (hcs z32).toArray from rfl] at hz
  obtain ⟨zs, hzs⟩ : ∃ zs, zs = z32 := ⟨_, rfl⟩
  rw [← hzs] at hz
  have HZL : Hid (zs.length = 32) := Lib.hid (by rw [hzs]; rfl)
  have HXL := Lib.hid hl
  have HXI := Lib.hid (info_hcs hl)
  have HBT := Lib.hid (fun w' => bytesOf_any x w' hl)
  rw [show (x.map (Value.int .u8)) = hcs x from rfl] at HBT
  clear hv hE hzs hl hR
  go_enter Tryd.func22, Tryd.ntmps22
  go_wp2_with fail
  refine HS.out.mono ?_
  rintro e w' ⟨rfl, rfl⟩
  go_wp2_with fail
  refine HR.out.mono ?_
  rintro e w1 ⟨rfl, hr1, hb1⟩
  have HB1 := Lib.hid hb1
  clear hr1 hb1
  go_wp2_with fail
  refine (HT.out _ w1 HB1.out).mono ?_
  rintro e w2 ⟨rfl, hb2⟩
  have HB2 : Hid (Below w.heap.size w w2) := Lib.hid (bl_step HB1.out hb2 (Nat.le_refl _))
  have HG2 : Hid (BAt (w2.alloc (Obj.cells (hcs zs).toArray 51)) w2.heap.size 51 zs) := Lib.hid (heap_alloc_new w2 _)
  clear hb2
  go_wp2_with (first
    | (refine wpList_storeH rfl (.tmp 6) (.tmp 14) rfl w2.heap.size x rfl rfl 51 zs HG2.out HZL.out HXL.out ?_; intro w3 HR3 HX3)
    | (refine wpList_load_mid rfl 51 (.tmp 6) rfl w2.heap.size 0 rfl (hcs x) _ (b_range HR3.out) Tryd.underlying51 rfl HXI.out ?_)
    | (go_at_call 43; (with_reducible refine (HBT.out w3).mono ?_); rintro e w4 ⟨⟨g4, c4, rfl, ho4⟩, hb4⟩; have HO4 := Lib.hid ho4; have HB4 := Lib.hid hb4; clear ho4 hb4))
  go_ret2
  have hb3 : Below w.heap.size w w3 := below_but (HB2.out.alloc HB2.out.size _) HX3.out HB2.out.size
  exact ⟨⟨_, rfl, row_in HO4.out⟩, bl_step hb3 HB4.out (Nat.le_refl _)⟩
set_option maxHeartbeats 4000000 in
set_option maxRecDepth 20000 in
theorem walk_FnTreeEmpty (v0 : Value) (ls : List (List Int)) (w : World)
    (h0 : (RowsIn w v0 ls ∧ OctR ls) ∧ (ls.length ≤ 5864062014634 ∧ ∀ l ∈ ls, l.length ≤ 140737488351232)) (hL : laidMetH Tryd.prog Rows.fnTreeEmptyRow.laid w) :
    Calls Tryd.prog 6 #[v0] w fun e w' => e = .returned (.bool true) ∧ Below w.heap.size w w' := by
  rw [MakeChecks.laidMetH_plain _ _ _ (by kernel_rfl)] at hL
  obtain ⟨hR, hg⟩ := empty_of_laid hL
  obtain ⟨E0t, E0a, hE, hE0⟩ := missing_at rfl hL.tail
  have HT := Lib.hid (implTreeHash_zero eHash ls v0 E0t E0a w rfl hR hg h0.1.1 hE hE0)
  have HS := Lib.hid (fun w' => spec_Sum_nil w')
  rw [eSum_nil] at HS
  have HQ := Lib.hid (fun v u w' (hv : BIn w' v eHash) (hu : BIn w' u eHash) => bytesEqual_same eHash eHash v u w' hv hu rfl)
  clear h0 hL hR hE
  generalize eHash = x at *
  go_enter Tryd.func6, Tryd.ntmps6
  go_wp2_with fail
  refine HT.out.mono ?_
  rintro e w1 ⟨⟨v1, rfl, hv1⟩, hb1⟩
  have HV1 := Lib.hid hv1
  have HB1 := Lib.hid hb1
  clear hv1 hb1
  go_wp2_with fail
  refine (HS.out w1).mono ?_
  rintro e w2 ⟨⟨v2, rfl, ho2⟩, hb2⟩
  have HV2 := Lib.hid (row_in ho2)
  have HV1' := Lib.hid (HV1.out.below hb2)
  have HB2 : Hid (Below w.heap.size w w2) := Lib.hid (bl_step HB1.out hb2 (Nat.le_refl _))
  clear ho2 hb2
  go_wp2_with fail
  refine (HQ.out _ _ w2 HV1'.out HV2.out).mono ?_
  rintro e w3 ⟨rfl, rfl⟩
  go_wp2_with fail
  go_ret
  exact ⟨rfl, HB2.out⟩

end Go.Proofs.YtlmcoaidngnomaaDoor
