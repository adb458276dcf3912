/- impl.CheckTree over what tlog.CheckTree answers; tlog.CheckTree of sizes that do not fit. The walks of FnRecordNone and FnTreeNone: they return true at every input, whatever words the table of SHA-256 holds. Conditions: errProofFailed and errMissing hold errors. -/
import Derived.Test.YtokopcbmpnnkcaaDoorT18
import Derived.Test.YtokopcbmpnnkcaaDoorRec2
namespace Go.Proofs.YtokopcbmpnnkcaaDoor
open Go.RowKit
set_option linter.unusedVariables false

theorem recOK_bad {ks : List Int} {ls : List (List Int)} {t n : Int} {th h : List Int} (hb : n < 0 ∨ t % 1099511627776 ≤ n) : recOK ks ls t n th h = false := by
  unfold recOK
  exact decide_eq_false (by omega)
set_option maxHeartbeats 4000000 in
set_option maxRecDepth 50000 in
theorem checkTree_bad (t : Nat) (n : Int) (v : Value) (th h : List Int) (w : World) (hn : t < 1 ∨ n < 1 ∨ (t : Int) < n) :
    Calls Tryd.prog 33 #[v, .int .i64 t, .agg (hcs th).toArray, .int .i64 n, .agg (hcs h).toArray] w fun e w' => (∃ u, e = .returned u ∧ ErrIf false u) ∧ Below w.heap.size w w' := by
  by_cases hT : t < 1
  · have hb1 : decide ((t : Int) < 1) = true := by simp; omega
    clear hn hT
    go_enter Tryd.func33, Tryd.ntmps33
    go_wp2_with (go_at_call 39; refine (errorsNew_any _ _).mono ?_; rintro e w1 ⟨rfl, hb1'⟩)
    go_ret
    exact ⟨⟨_, rfl, _, _, rfl⟩, (((Below.refl w.heap.size w).alloc (Nat.le_refl _) _).alloc (by simp) _).trans (hb1'.mono (by simp; omega))⟩
  · have hb1 : decide ((t : Int) < 1) = false := by simp; omega
    by_cases h0 : n < 1
    · have hb2 : decide (n < 1) = true := by simpa using h0
      clear hn hT
      go_enter Tryd.func33, Tryd.ntmps33
      go_wp2_with (go_at_call 39; refine (errorsNew_any _ _).mono ?_; rintro e w1 ⟨rfl, hb1'⟩)
      go_ret
      exact ⟨⟨_, rfl, _, _, rfl⟩, (((Below.refl w.heap.size w).alloc (Nat.le_refl _) _).alloc (by simp) _).trans (hb1'.mono (by simp; omega))⟩
    · have hb2 : decide (n < 1) = false := by simpa using h0
      have hb3 : decide ((t : Int) < n) = true := by simp; omega
      clear hn hT
      go_enter Tryd.func33, Tryd.ntmps33
      go_wp2_with (go_at_call 39; refine (errorsNew_any _ _).mono ?_; rintro e w1 ⟨rfl, hb1'⟩)
      go_ret
      exact ⟨⟨_, rfl, _, _, rfl⟩, (((Below.refl w.heap.size w).alloc (Nat.le_refl _) _).alloc (by simp) _).trans (hb1'.mono (by simp; omega))⟩
set_option maxHeartbeats 4000000 in
set_option maxRecDepth 50000 in
theorem implCheckTree_of (r : Bool) (t n : Int) (v tv ev : Value) (ls : List (List Int)) (th h : List Int) (w : World) (hv : RowsIn w v ls) (hl : ls.length ≤ 5864062014640) (hth : BIn w tv th) (hh : BIn w ev h)
    (hC : ∀ v w', Below w.heap.size w w' → HIn w' v (ls.map h32) → Calls Tryd.prog 33 #[v, .int .i64 (t % 1099511627776), .agg (hcs (h32 th)).toArray, .int .i64 n, .agg (hcs (h32 h)).toArray] w' fun e w'' => (∃ u, e = .returned u ∧ ErrIf r u) ∧ Below w'.heap.size w' w'') :
    Calls Tryd.prog 16 #[v, .int .i64 t, tv, .int .i64 n, ev] w fun e w' => e = .returned (.bool r) ∧ Below w.heap.size w w' := by
  have HL := Lib.hid (toHashes_any ls v w hv hl)
  have HS := Lib.hid (fun w => implSize_any t w)
  have HT := Lib.hid (fun w h => hashOf_any th tv w h)
  have HH := Lib.hid (fun w g => hashOf_any h ev w g)
  have HC := Lib.hid hC
  have HBT := Lib.hid hth
  have HBH := Lib.hid hh
  clear hth hh hv hC
  generalize h32 th = P at *
  generalize h32 h = Q at *
  generalize t % 1099511627776 = T at *
  go_enter Tryd.func16, Tryd.ntmps16
  go_wp2_with fail
  refine HL.out.mono ?_
  rintro e w1 ⟨⟨v1, rfl, ho1⟩, hb1⟩
  have HO1 := Lib.hid ho1
  have HB1 := Lib.hid hb1
  clear ho1 hb1
  go_wp2_with fail
  refine (HS.out _).mono ?_
  rintro e w' ⟨rfl, rfl⟩
  go_wp2_with fail
  refine (HT.out w1 (HBT.out.below HB1.out)).mono ?_
  rintro e w2 ⟨rfl, hb2⟩
  have HB2 : Hid (Below w.heap.size w w2) := Lib.hid (bl_step HB1.out hb2 (Nat.le_refl _))
  have HO2 : Hid (HOwn w2 w.heap.size v1 (ls.map h32)) := Lib.hid ⟨HO1.out.1, owns_below HO1.out.2 hb2⟩
  clear hb2
  go_wp2_with fail
  refine (HH.out w2 (HBH.out.below HB2.out)).mono ?_
  rintro e w3 ⟨rfl, hb3⟩
  have HB3 : Hid (Below w.heap.size w w3) := Lib.hid (bl_step HB2.out hb3 (Nat.le_refl _))
  have HO3 : Hid (HOwn w3 w.heap.size v1 (ls.map h32)) := Lib.hid ⟨HO2.out.1, owns_below HO2.out.2 hb3⟩
  clear hb3
  go_wp2_with fail
  refine (HC.out v1 w3 HB3.out HO3.out.in_).mono ?_
  rintro e w4 ⟨⟨u, rfl, hu⟩, hb4⟩
  have HB4 : Hid (Below w.heap.size w w4) := Lib.hid (bl_step HB3.out hb4 (Nat.le_refl _))
  clear hb4
  cases r with
  | true =>
    obtain rfl : u = .nilIface := hu
    go_wp2_with fail
    go_ret
    exact ⟨rfl, HB4.out⟩
  | false =>
    obtain ⟨T', a, rfl⟩ := hu
    go_wp2_with fail
    go_ret
    exact ⟨rfl, HB4.out⟩
theorem implCheckTree_bad (t n : Int) (v tv ev : Value) (ls : List (List Int)) (th h : List Int) (w : World) (hv : RowsIn w v ls) (hl : ls.length ≤ 5864062014640) (hth : BIn w tv th) (hh : BIn w ev h) (hb : n < 1 ∨ t % 1099511627776 < n) :
    Calls Tryd.prog 16 #[v, .int .i64 t, tv, .int .i64 n, ev] w fun e w' => e = .returned (.bool false) ∧ Below w.heap.size w w' := by
  refine implCheckTree_of false t n v tv ev ls th h w hv hl hth hh fun v' w' _ _ => ?_
  have h0 := Int.emod_nonneg t (b := 1099511627776) (by omega)
  obtain ⟨T, hT⟩ := Int.eq_ofNat_of_zero_le h0
  rw [hT] at hb ⊢
  exact checkTree_bad T n v' _ _ w' (by omega)
set_option maxHeartbeats 2000000 in
set_option maxRecDepth 20000 in
theorem walk_FnRecordNone (v0 : Value) (ls : List (List Int)) (t : Int) (v2 : Value) (th : List Int) (n : Int) (v4 : Value) (h : List Int) (w : World)
    (h0 : (RowsIn w v0 ls ∧ OctR ls) ∧ (ls.length ≤ 5864062014634 ∧ ∀ l ∈ ls, l.length ≤ 140737488351232)) (_ : (Lit.int .i64 t).wf = true) (h2 : (BIn w v2 th ∧ Oct th) ∧ th.length ≤ 140737488351232) (_ : (Lit.int .i64 n).wf = true)
    (h4 : (BIn w v4 h ∧ Oct h) ∧ h.length ≤ 140737488351232) (hL : laidMetH Tryd.prog Rows.fnRecordNoneRow.laid w) (hsh : w.ShapedOpen Tryd.prog) :
    Calls Tryd.prog 3 #[v0, .int .i64 t, v2, .int .i64 n, v4] w fun e w' => e = .returned (.bool true) ∧ Below w.heap.size w w' := by
  have h00 := h0
  rw [MakeChecks.laidMetH_plain _ _ _ (by kernel_rfl)] at hL
  obtain ⟨P0t, P0a, hP, hP0⟩ := proofFailed_of rfl hL
  obtain ⟨E0t, E0a, hE, hE0⟩ := missing_of rfl hL.tail
  obtain ⟨ks, hK⟩ := table_of hsh
  have hk0 : 4 < w.heap.size := (Array.getElem?_eq_some_iff.1 hK.2.2).1
  have HW := Lib.hid (fun (p : BW w) => trWorks_any ks p.val (hK.below p.bel hk0))
  have HTE := rem_eq t 1099511627776 (by omega)
  have HSZ := Lib.hid (fun w => spec_Size t w)
  rw [HTE] at HSZ
  have HP := Lib.hid (implProveRecord_any ks ls t n (rem t 1099511627776) v0 E0t E0a w HTE h0.1.1 hK hE hE0)
  have HC := Lib.hid (fun w' (hb : Below w.heap.size w w') => implCheckRecord_any ks P0t P0a t n v0 v2 v4 ls th h w' (h0.1.1.below hb) (by omega) (h2.1.1.below hb) (h4.1.1.below hb) (hK.below hb hk0) ((hb.cell (p := ⟨1, 0, none⟩) hP0).trans hP) (Nat.lt_of_lt_of_le hP0 hb.size))
  have hpf : n < 0 ∨ ((rem t 1099511627776 : Nat) : Int) ≤ n → pfRec ks ls (rem t 1099511627776) n = none := fun h => pfRec_bad h
  have hok : n < 0 ∨ ((rem t 1099511627776 : Nat) : Int) ≤ n → recOK ks ls t n th h = false := fun h => recOK_bad (by omega)
  clear h0 h00 h2 h4 hL hsh hK hE hP HTE
  generalize rem t 1099511627776 = T at *
  generalize hr : pfRec ks ls T n = r at *
  generalize recOK ks ls t n th h = r2 at *
  clear hr
  by_cases hbad : n < 0 ∨ (T : Int) ≤ n
  · obtain rfl := hpf hbad
    obtain rfl := hok hbad
    clear hpf hok
    by_cases hn0 : n < 0
    · have hb1 : decide (n < 0) = true := by simpa using hn0
      clear hbad
      go_enter Tryd.func3, Tryd.ntmps3
      go_wp2_with fail
      refine HP.out.mono ?_
      rintro e w1 ⟨⟨u1, rfl, A1, rfl⟩, hb1'⟩
      have HB1 := Lib.hid hb1'
      clear hb1'
      go_wp2_with fail
      refine (HC.out w1 HB1.out).mono ?_
      rintro e w2 ⟨rfl, hb2⟩
      have HB2 : Hid (Below w.heap.size w w2) := Lib.hid (bl_step HB1.out hb2 (Nat.le_refl _))
      clear hb2
      go_wp2_with fail
      refine (HW.out ⟨w2, HB2.out⟩).mono ?_
      rintro e w3 ⟨rfl, hb3⟩
      have HB3 : Hid (Below w.heap.size w w3) := Lib.hid (bl_step HB2.out hb3 (Nat.le_refl _))
      clear hb3
      go_wp2_with fail
      go_ret
      exact ⟨rfl, HB3.out⟩
    · have hb1 : decide (n < 0) = false := by simpa using hn0
      have hb2 : decide ((T : Int) ≤ n) = true := by simp; omega
      clear hbad
      go_enter Tryd.func3, Tryd.ntmps3
      go_wp2_with fail
      refine HP.out.mono ?_
      rintro e w1 ⟨⟨u1, rfl, A1, rfl⟩, hb1'⟩
      have HB1 := Lib.hid hb1'
      clear hb1'
      go_wp2_with fail
      refine (HSZ.out _).mono ?_
      rintro e w' ⟨rfl, rfl⟩
      go_wp2_with fail
      refine (HC.out w1 HB1.out).mono ?_
      rintro e w2 ⟨rfl, hb2⟩
      have HB2 : Hid (Below w.heap.size w w2) := Lib.hid (bl_step HB1.out hb2 (Nat.le_refl _))
      clear hb2
      go_wp2_with fail
      refine (HW.out ⟨w2, HB2.out⟩).mono ?_
      rintro e w3 ⟨rfl, hb3⟩
      have HB3 : Hid (Below w.heap.size w w3) := Lib.hid (bl_step HB2.out hb3 (Nat.le_refl _))
      clear hb3
      go_wp2_with fail
      go_ret
      exact ⟨rfl, HB3.out⟩
  · have hb1 : decide (n < 0) = false := by simp; omega
    have hb2 : decide ((T : Int) ≤ n) = false := by simp; omega
    clear hbad hpf hok
    go_enter Tryd.func3, Tryd.ntmps3
    go_wp2_with fail
    refine HP.out.mono ?_
    rintro e w1 ⟨⟨u1, rfl, _⟩, hb1'⟩
    have HB1 := Lib.hid hb1'
    clear hb1'
    go_wp2_with fail
    refine (HSZ.out _).mono ?_
    rintro e w' ⟨rfl, rfl⟩
    go_wp2_with fail
    refine (HW.out ⟨w1, HB1.out⟩).mono ?_
    rintro e w3 ⟨rfl, hb3⟩
    have HB3 : Hid (Below w.heap.size w w3) := Lib.hid (bl_step HB1.out hb3 (Nat.le_refl _))
    clear hb3
    go_wp2_with fail
    go_ret
    exact ⟨rfl, HB3.out⟩
set_option maxHeartbeats 2000000 in
set_option maxRecDepth 20000 in
theorem walk_FnTreeNone (v0 : Value) (ls : List (List Int)) (t : Int) (v2 : Value) (th : List Int) (n : Int) (v4 : Value) (h : List Int) (w : World)
    (h0 : (RowsIn w v0 ls ∧ OctR ls) ∧ (ls.length ≤ 5864062014634 ∧ ∀ l ∈ ls, l.length ≤ 140737488351232)) (_ : (Lit.int .i64 t).wf = true) (h2 : (BIn w v2 th ∧ Oct th) ∧ th.length ≤ 140737488351232) (_ : (Lit.int .i64 n).wf = true)
    (h4 : (BIn w v4 h ∧ Oct h) ∧ h.length ≤ 140737488351232) (hL : laidMetH Tryd.prog Rows.fnTreeNoneRow.laid w) (hsh : w.ShapedOpen Tryd.prog) :
    Calls Tryd.prog 4 #[v0, .int .i64 t, v2, .int .i64 n, v4] w fun e w' => e = .returned (.bool true) ∧ Below w.heap.size w w' := by
  have h00 := h0
  rw [MakeChecks.laidMetH_plain _ _ _ (by kernel_rfl)] at hL
  obtain ⟨P0t, P0a, hP, hP0⟩ := proofFailed_of rfl hL
  obtain ⟨E0t, E0a, hE, hE0⟩ := missing_of rfl hL.tail
  obtain ⟨ks, hK⟩ := table_of hsh
  have hk0 : 4 < w.heap.size := (Array.getElem?_eq_some_iff.1 hK.2.2).1
  have HW := Lib.hid (fun (p : BW w) => trWorks_any ks p.val (hK.below p.bel hk0))
  have HTE := rem_eq t 1099511627776 (by omega)
  have HSZ := Lib.hid (fun w => spec_Size t w)
  rw [HTE] at HSZ
  have HP := Lib.hid (implProveTree_any ks ls t n (rem t 1099511627776) v0 E0t E0a w HTE h0.1.1 hK hE hE0)
  have HC := Lib.hid (fun w' (hb : Below w.heap.size w w') (hbad : n < 1 ∨ ((rem t 1099511627776 : Nat) : Int) < n) => implCheckTree_bad t n v0 v2 v4 ls th h w' (h0.1.1.below hb) (by omega) (h2.1.1.below hb) (h4.1.1.below hb) (by omega))
  have hpf : n < 1 ∨ ((rem t 1099511627776 : Nat) : Int) < n → pfTree ks ls (rem t 1099511627776) n = none := fun h => pfTree_bad h
  clear h0 h00 h2 h4 hL hsh hK hE hP HTE
  generalize rem t 1099511627776 = T at *
  generalize hr : pfTree ks ls T n = r at *
  clear hr
  by_cases hbad : n < 1 ∨ (T : Int) < n
  · obtain rfl := hpf hbad
    have HC := Lib.hid (fun w' hb => HC.out w' hb hbad)
    clear hpf
    by_cases hn0 : n < 1
    · have hb1 : decide (n < 1) = true := by simpa using hn0
      clear hbad
      go_enter Tryd.func4, Tryd.ntmps4
      go_wp2_with fail
      refine HP.out.mono ?_
      rintro e w1 ⟨⟨u1, rfl, A1, rfl⟩, hb1'⟩
      have HB1 := Lib.hid hb1'
      clear hb1'
      go_wp2_with fail
      refine (HC.out w1 HB1.out).mono ?_
      rintro e w2 ⟨rfl, hb2⟩
      have HB2 : Hid (Below w.heap.size w w2) := Lib.hid (bl_step HB1.out hb2 (Nat.le_refl _))
      clear hb2
      go_wp2_with fail
      refine (HW.out ⟨w2, HB2.out⟩).mono ?_
      rintro e w3 ⟨rfl, hb3⟩
      have HB3 : Hid (Below w.heap.size w w3) := Lib.hid (bl_step HB2.out hb3 (Nat.le_refl _))
      clear hb3
      go_wp2_with fail
      go_ret
      exact ⟨rfl, HB3.out⟩
    · have hb1 : decide (n < 1) = false := by simpa using hn0
      have hb2 : decide ((T : Int) < n) = true := by simp; omega
      clear hbad
      go_enter Tryd.func4, Tryd.ntmps4
      go_wp2_with fail
      refine HP.out.mono ?_
      rintro e w1 ⟨⟨u1, rfl, A1, rfl⟩, hb1'⟩
      have HB1 := Lib.hid hb1'
      clear hb1'
      go_wp2_with fail
      refine (HSZ.out _).mono ?_
      rintro e w' ⟨rfl, rfl⟩
      go_wp2_with fail
      refine (HC.out w1 HB1.out).mono ?_
      rintro e w2 ⟨rfl, hb2⟩
      have HB2 : Hid (Below w.heap.size w w2) := Lib.hid (bl_step HB1.out hb2 (Nat.le_refl _))
      clear hb2
      go_wp2_with fail
      refine (HW.out ⟨w2, HB2.out⟩).mono ?_
      rintro e w3 ⟨rfl, hb3⟩
      have HB3 : Hid (Below w.heap.size w w3) := Lib.hid (bl_step HB2.out hb3 (Nat.le_refl _))
      clear hb3
      go_wp2_with fail
      go_ret
      exact ⟨rfl, HB3.out⟩
  · have hb1 : decide (n < 1) = false := by simp; omega
    have hb2 : decide ((T : Int) < n) = false := by simp; omega
    clear hbad hpf
    go_enter Tryd.func4, Tryd.ntmps4
    go_wp2_with fail
    refine HP.out.mono ?_
    rintro e w1 ⟨⟨u1, rfl, _⟩, hb1'⟩
    have HB1 := Lib.hid hb1'
    clear hb1'
    go_wp2_with fail
    refine (HSZ.out _).mono ?_
    rintro e w' ⟨rfl, rfl⟩
    go_wp2_with fail
    refine (HW.out ⟨w1, HB1.out⟩).mono ?_
    rintro e w3 ⟨rfl, hb3⟩
    have HB3 : Hid (Below w.heap.size w w3) := Lib.hid (bl_step HB1.out hb3 (Nat.le_refl _))
    clear hb3
    go_wp2_with fail
    go_ret
    exact ⟨rfl, HB3.out⟩

end Go.Proofs.YtokopcbmpnnkcaaDoor
