/- errors.New; two hashes compared; tlog.CheckRecord. Conditions: the hashes lie in memory; the variable errProofFailed holds an error. -/
import Derived.Test.YtokopcbmpnnkcaaDoorT3
import Derived.Laws.StructEq
import Derived.WideLaws
namespace Go.Proofs.YtokopcbmpnnkcaaDoor
open Go.RowKit

theorem size_byte_run (w : World) : (sizeOf 5).run Tryd.prog w = .ok 1 w := by
  obtain ⟨i, hi, hz⟩ := Option.map_eq_some_iff.1 size_byte
  simp [sizeOf, typeInfo, hi, hz]
theorem part_byte (xs : List Int) (i : Nat) (hi : i < xs.length) (w : World) : (part 5 (hcs xs).toArray (i * 1)).run Tryd.prog w = .ok (.int .u8 (xs.getD i 0)) w := by
  simp [part, isAgg, run_underlying Tryd.underlying5, hcs, List.getD, List.getElem?_eq_getElem hi]
theorem all_getD (xs ys : List Int) (n : Nat) (hx : xs.length = n) (hy : ys.length = n) : (List.range' 0 n 1).all (fun i => xs.getD i 0 == ys.getD i 0) = decide (xs = ys) := by
  by_cases h : xs = ys
  · subst h; simp
  · rw [decide_eq_false h, ← Bool.not_eq_true, List.all_eq_true]
    intro hall
    apply h
    refine List.ext_getElem (by omega) fun i h1 h2 => ?_
    have := hall i (List.mem_range'_1.2 ⟨by omega, by omega⟩)
    simpa [List.getD, h1, h2] using this
/-- two hashes are compared byte by byte -/
theorem run_equalIn_hash (d : Nat) (xs ys : List Int) (hx : xs.length = 32) (hy : ys.length = 32) (w : World) :
    (Op.equalIn (d + 2) 54 (.agg (hcs xs).toArray) (.agg (hcs ys).toArray)).run Tryd.prog w = .ok (decide (xs = ys)) w := by
  rw [← all_getD xs ys 32 hx hy, Op.equalIn]
  simp only [Sem.run_bind, run_underlying Tryd.underlying54, Result.andThen_ok, size_byte_run, Std.Legacy.Range.forIn_eq_forIn_range', Std.Legacy.Range.size, Nat.sub_zero, Nat.add_sub_cancel, Nat.div_one]
  have hlt : ∀ i ∈ List.range' 0 32 1, i < 32 := fun i hi => by have := List.mem_range'_1.1 hi; omega
  generalize List.range' 0 32 1 = l at hlt ⊢
  induction l with
  | nil => simp
  | cons i l ih =>
    have hi : i < 32 := hlt i (by simp)
    have p1 := part_byte xs i (by omega) w
    have p2 := part_byte ys i (by omega) w
    have p3 : (Op.equalIn (d + 1) 5 (.int .u8 (xs.getD i 0)) (.int .u8 (ys.getD i 0))).run Tryd.prog w = .ok (xs.getD i 0 == ys.getD i 0) w := run_equalIn_int w d 5 .u8 .u8 _ _ Tryd.underlying5
    simp only [List.forIn_cons, Sem.run_bind, p1, p2, p3, Result.andThen_ok, List.all_cons]
    cases hq : (xs.getD i 0 == ys.getD i 0) with
    | false => simp
    | true =>
      simp only [Bool.not_true, Bool.false_eq_true, if_false, Sem.run_pure, Result.andThen_ok, Bool.true_and]
      exact ih fun j hj => hlt j (by simp [hj])
theorem run_eql_hash (xs ys : List Int) (hx : xs.length = 32) (hy : ys.length = 32) (w : World) :
    (binOp .eql 54 (.agg (hcs xs).toArray) (.agg (hcs ys).toArray)).run Tryd.prog w = .ok (.bool (decide (xs = ys))) w := by
  rw [run_eql_struct, show (10000 : Nat) = 9998 + 2 from rfl, run_equalIn_hash 9998 xs ys hx hy w]
  rfl

theorem errorsNew_any (s : ByteArray) (w : World) :
    Calls Tryd.prog 39 #[.string s] w fun e w' => e = .returned (.iface 86 (.pointer (some ⟨w.heap.size, 0, none⟩))) ∧ Below w.heap.size w w' := by
  go_enter Tryd.func39, Tryd.ntmps39
  go_wp2
  go_ret
  exact ⟨rfl, (Below.refl _ _).alloc (Nat.le_refl _) _⟩

/-- no error just if -/
def ErrIf (b : Bool) (v : Value) : Prop := match b with
  | true => v = .nilIface
  | false => ∃ T a, v = .iface T (.pointer (some a))
set_option maxHeartbeats 4000000 in
set_option maxRecDepth 50000 in
theorem checkRecord_bad (t : Nat) (n : Int) (v : Value) (th h : List Int) (w : World) (hn : n < 0 ∨ (t : Int) ≤ n) :
    Calls Tryd.prog 29 #[v, .int .i64 t, .agg (hcs th).toArray, .int .i64 n, .agg (hcs h).toArray] w fun e w' => (∃ u, e = .returned u ∧ ErrIf false u) ∧ Below w.heap.size w w' := by
  have hb1 : decide ((t : Int) < 0) = false := by simp
  by_cases h0 : n < 0
  · have hb2 : decide (n < 0) = true := by simpa using h0
    go_enter Tryd.func29, Tryd.ntmps29
    go_wp2_with (go_at_call 39; refine (errorsNew_any _ _).mono ?_; rintro e w1 ⟨rfl, hb1'⟩)
    go_ret
    exact ⟨⟨_, rfl, _, _, rfl⟩, (((Below.refl w.heap.size w).alloc (Nat.le_refl _) _).alloc (by simp) _).trans (hb1'.mono (by simp; omega))⟩
  · have hb2 : decide (n < 0) = false := by simpa using h0
    have hb3 : decide ((t : Int) ≤ n) = true := by simp; omega
    go_enter Tryd.func29, Tryd.ntmps29
    go_wp2_with (go_at_call 39; refine (errorsNew_any _ _).mono ?_; rintro e w1 ⟨rfl, hb1'⟩)
    go_ret
    exact ⟨⟨_, rfl, _, _, rfl⟩, (((Below.refl w.heap.size w).alloc (Nat.le_refl _) _).alloc (by simp) _).trans (hb1'.mono (by simp; omega))⟩
set_option maxHeartbeats 4000000 in
set_option maxRecDepth 50000 in
theorem checkRecord_good (ks : List Int) (E0t : TypeId) (E0a : Addr) (t n : Nat) (v : Value) (ps : List (List Int)) (th h : List Int) (w : World) (ht : t < 2199023255552) (hn : n < t) (hv : HIn w v ps) (hth : th.length = 32) (hh : h.length = 32) (hK : WAt w 4 ks)
    (hE : w.cell? ⟨1, 0, none⟩ = some (.iface E0t (.pointer (some E0a)))) (hE0 : 1 < w.heap.size) :
    Calls Tryd.prog 29 #[v, .int .i64 t, .agg (hcs th).toArray, .int .i64 n, .agg (hcs h).toArray] w fun e w' => (∃ u, e = .returned u ∧ ErrIf (decide (Tr.runRec (nhK ks) ps 0 t n h = some th)) u) ∧ Below w.heap.size w w' := by
  have hb1 : decide ((t : Int) < 0) = false := by simp
  have hb2 : decide ((n : Int) < 0) = false := by simp
  have hb3 : decide ((t : Int) ≤ n) = false := by simp; omega
  have hk0 : 4 < w.heap.size := (Array.getElem?_eq_some_iff.1 hK.2.2).1
  obtain ⟨W2, hW2⟩ : ∃ W2, W2 = (w.alloc (Obj.cells (hcs th).toArray 54)).alloc (Obj.cells (hcs h).toArray 54) := ⟨_, rfl⟩
  have HW2 := Lib.hid hW2
  have HB2 : Hid (Below w.heap.size w W2) := Lib.hid (by rw [hW2]; exact ((Below.refl w.heap.size w).alloc (Nat.le_refl _) _).alloc (by simp) _)
  have HT2 : Hid (BAt W2 w.heap.size 54 th) := Lib.hid (by rw [hW2]; exact (Below.heap_alloc _ _ _ (by simp)).trans (heap_alloc_new w _))
  have HH2 : Hid (BAt W2 (w.heap.size + 1) 54 h) := Lib.hid (by
    have := heap_alloc_new (w.alloc (Obj.cells (hcs th).toArray 54)) (Obj.cells (hcs h).toArray 54)
    rw [show (w.alloc (Obj.cells (hcs th).toArray 54)).heap.size = w.heap.size + 1 by simp] at this
    rw [hW2]; exact this)
  have hs2 : W2.heap.size = w.heap.size + 2 := by rw [hW2]; simp
  have HS2 := Lib.hid hs2
  have HE2 : Hid (W2.cell? ⟨1, 0, none⟩ = some (.iface E0t (.pointer (some E0a)))) := Lib.hid ((HB2.out.cell (p := ⟨1, 0, none⟩) hE0).trans hE)
  have HR := Lib.hid (runRec_any ks E0t E0a t 0 t n v ps h W2 (Nat.sub_zero _) (Nat.zero_le _) hn ht (hv.below HB2.out) hh (hK.below HB2.out hk0) HE2.out (by omega))
  rw [Nat.sub_zero, show ((0 : Nat) : Int) = 0 from rfl] at HR
  have HHL := Lib.hid hh
  have HTL := Lib.hid hth
  have hz := zh_zero
  rw [show ((List.replicate 32 (0 : Int)).map (Value.int .u8)).toArray = (hcs z32).toArray from rfl] at hz
  obtain ⟨zs, hzs⟩ : ∃ zs, zs = z32 := ⟨_, rfl⟩
  have HZS := Lib.hid hzs
  rw [← hzs] at hz
  have HZL : Hid (zs.length = 32) := Lib.hid (by rw [hzs]; rfl)
  cases hr : Tr.runRec (nhK ks) ps 0 t n h with
  | none =>
    rw [hr] at HR
    simp only [recOut] at HR
    rw [show z32 = zs from HZS.out.symm] at HR
    clear hW2 hs2 hv hK hE hr hzs hth hh
    go_enter Tryd.func29, Tryd.ntmps29
    go_upto_region 1 with fail
    rw [← HW2.out]
    go_wp2_with (first
      | (refine wpList_load_mid rfl 54 (.tmp 9) rfl (w.heap.size + 1) 0 rfl (hcs h) _ (b_range HH2.out) Tryd.underlying54 rfl (info_hcs HHL.out) ?_)
      | (go_at_call 44; (with_reducible refine HR.out.mono ?_); rintro e w1 ⟨rfl, hb1'⟩; have HB1 := Lib.hid hb1'; clear hb1')
      | (refine wpList_storeH rfl (.tmp 11) (.tmp 31) rfl w1.heap.size zs rfl rfl 54 zs (heap_alloc_new w1 _) HZL.out HZL.out ?_; intro w3 HR3 HX3))
    go_ret
    refine ⟨⟨_, rfl, by rw [decide_eq_false (by simp)]; exact ⟨_, _, rfl⟩⟩, ?_⟩
    have hb12 : Below w.heap.size w w1 := HB2.out.trans (HB1.out.mono HB2.out.size)
    exact below_but (hb12.alloc hb12.size _) HX3.out hb12.size
  | some x =>
    rw [hr] at HR
    simp only [recOut] at HR
    have HXL : Hid (x.length = 32) := Lib.hid (runRec_len hv.1 hh hr)
    have HEQ := Lib.hid (fun w => run_eql_hash x th HXL.out hth w)
    have HBB : Hid (decide (some x = some th) = decide (x = th)) := Lib.hid (by simp)
    have hE2 := HE2.out
    clear hW2 hs2 hv hK hE hr hzs hth hh hE2
    go_enter Tryd.func29, Tryd.ntmps29
    go_upto_region 1 with fail
    rw [← HW2.out]
    go_upto_region 6 with (first
      | (refine wpList_load_mid rfl 54 (.tmp 9) rfl (w.heap.size + 1) 0 rfl (hcs h) _ (b_range HH2.out) Tryd.underlying54 rfl (info_hcs HHL.out) ?_)
      | (go_at_call 44; (with_reducible refine HR.out.mono ?_); rintro e w1 ⟨rfl, hb1'⟩; have HB1 := Lib.hid hb1'; clear hb1')
      | (refine wpList_storeH rfl (.tmp 11) (.tmp 31) rfl w1.heap.size x rfl rfl 54 zs (heap_alloc_new w1 _) HZL.out HXL.out ?_; intro w3 HR3 HX3))
    have HB12 : Hid (Below w.heap.size w w1) := Lib.hid (HB2.out.trans (HB1.out.mono HB2.out.size))
    have HB3 : Hid (Below w.heap.size w w3) := Lib.hid (below_but (HB12.out.alloc HB12.out.size _) HX3.out HB12.out.size)
    have hw1s : w.heap.size + 2 ≤ w1.heap.size := by have := HB1.out.size; rw [HS2.out] at this; exact this
    have HT3 : Hid (BAt w3 w.heap.size 54 th) := Lib.hid (by
      have h1 := HT2.out.below HB1.out (by rw [HS2.out]; omega)
      have h2 : BAt (w1.alloc (Obj.cells (hcs zs).toArray 54)) w.heap.size 54 th := h1.below ((Below.refl w1.heap.size w1).alloc (Nat.le_refl _) _) (by omega)
      exact h2.but HX3.out (by omega))
    have hE3 : w3.cell? ⟨1, 0, none⟩ = some (.iface E0t (.pointer (some E0a))) := by
      have h0 := HE2.out
      have h1 := (HB1.out.cell (p := ⟨1, 0, none⟩) (show 1 < W2.heap.size by rw [HS2.out]; omega)).trans h0
      have h2 := (((Below.refl w1.heap.size w1).alloc (Nat.le_refl _) (Obj.cells (hcs zs).toArray 54)).cell (p := ⟨1, 0, none⟩) (show 1 < w1.heap.size by omega)).trans h1
      exact (HX3.out.cell (p := ⟨1, 0, none⟩) (by show 1 < _; first | (simp; done) | (simp; omega)) (by show 1 ≠ _; omega)).trans h2
    by_cases hxt : x = th
    · have heq := fun w => HEQ.out w
      rw [decide_eq_true hxt] at heq
      have HXT := Lib.hid hxt
      clear hxt hE3
      go_wp2_with (first
        | (refine wpList_load_mid rfl 54 (.tmp 11) rfl w1.heap.size 0 rfl (hcs x) _ (b_range HR3.out) Tryd.underlying54 rfl (info_hcs HXL.out) ?_)
        | (refine wpList_load_mid rfl 54 (.tmp 7) rfl w.heap.size 0 rfl (hcs th) _ (b_range HT3.out) Tryd.underlying54 rfl (info_hcs HTL.out) ?_))
      go_ret
      exact ⟨⟨_, rfl, by rw [HBB.out, decide_eq_true HXT.out]; rfl⟩, HB3.out⟩
    · have heq := fun w => HEQ.out w
      rw [decide_eq_false hxt] at heq
      have HXT := Lib.hid hxt
      clear hxt
      go_wp2_with (first
        | (refine wpList_load_mid rfl 54 (.tmp 11) rfl w1.heap.size 0 rfl (hcs x) _ (b_range HR3.out) Tryd.underlying54 rfl (info_hcs HXL.out) ?_)
        | (refine wpList_load_mid rfl 54 (.tmp 7) rfl w.heap.size 0 rfl (hcs th) _ (b_range HT3.out) Tryd.underlying54 rfl (info_hcs HTL.out) ?_))
      go_ret
      exact ⟨⟨_, rfl, by rw [HBB.out, decide_eq_false HXT.out]; exact ⟨_, _, rfl⟩⟩, HB3.out⟩

end Go.Proofs.YtokopcbmpnnkcaaDoor
