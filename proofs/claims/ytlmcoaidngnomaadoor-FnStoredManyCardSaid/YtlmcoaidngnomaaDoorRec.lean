/- The walks of FnRecordRoot and FnRecordLong: they return true at every input, whatever words the table of SHA-256 holds. Condition: tlog.errProofFailed holds an error. -/
import Derived.Test.YtlmcoaidngnomaaDoorT6
import Derived.Test.YtlmcoaidngnomaaDoorRows2
import Derived.Test.YtlmcoaidngnomaaDoorOpenB
import Derived.Test.YtlmcoaidngnomaaDoorBwt
import Derived.Stop.LaidErr
import Derived.MakeChecks
namespace Go.Proofs.YtlmcoaidngnomaaDoor
open Go.RowKit
set_option linter.unusedVariables false

theorem proofFailed_of {W : World} {nm : String} {text : List UInt8} {rest : List (String × DataW Unit)} (hn : nm = "*errors.errorString") (h : laidMet Tryd.prog (("loop.example/pub-g01440/pub/tlog.errProofFailed", .iface nm (.ptr (.agg [.lit (.string text)]))) :: rest) W) :
    ∃ T a, W.cell? ⟨0, 0, none⟩ = some (.iface T (.pointer (some a))) ∧ 0 < W.heap.size := by
  subst hn
  obtain ⟨a, s, hv, _⟩ := laid_sentinel (g := 0) (ti := 45) (tp := 102) (te := 104) (ts := 9) h (by kernel_rfl) (by kernel_rfl) Tryd.underlying45 (fun u h => typeName_ptr_named (nm := "errors.errorString") (by rw [show "*" ++ "errors.errorString" = "*errors.errorString" by decide]; kernel_rfl) (by kernel_rfl) (by decide) u (by rw [show "*" ++ "errors.errorString" = "*errors.errorString" by decide]; exact h)) Tryd.underlying102 Tryd.underlying104 rfl rfl Tryd.underlying9 (by kernel_rfl) (by kernel_rfl)
  have hc := World.var?_cell (g := 0) (by kernel_rfl) hv 0
  exact ⟨_, _, hc, World.block_lt_of_cell? W ⟨_, 0, none⟩ hc⟩
theorem oct_h32 {p : List Int} (h : Oct p) : Oct (h32 p) := by
  intro x hx
  rcases List.mem_append.1 hx with hx | hx
  · exact h x (List.mem_of_mem_take hx)
  · obtain rfl := (List.mem_replicate.1 hx).2
    exact ⟨by omega, by omega⟩
theorem bat_in {w : World} {g : Nat} {t : TypeId} {ys : List Int} (h : BAt w g t ys) (hl : ys.length = 32) : BIn w (.slice (some ⟨g, 0, none⟩) 32 32) ys :=
  ⟨_, 32, by rw [hl], by omega, by omega, .inr ⟨g, 0, rfl, (Array.getElem?_eq_some_iff.1 h).1, fun j hj => by rw [Nat.zero_add]; exact h.cell hj⟩⟩
theorem recOK_other {ks : List Int} {ls : List (List Int)} {t n : Int} {th o h : List Int} (hr : recOK ks ls t n th h = true) : recOK ks ls t n o h = decide (h32 th = h32 o) := by
  unfold recOK at hr ⊢
  obtain ⟨h1, h2, h3⟩ := of_decide_eq_true hr
  apply decide_eq_decide.2
  rw [h3]
  constructor
  · rintro ⟨_, _, h⟩; exact Option.some.inj h
  · intro h; exact ⟨h1, h2, by rw [h]⟩
set_option maxHeartbeats 4000000 in
theorem walk_FnRecordRoot (v0 : Value) (ls : List (List Int)) (t : Int) (v2 : Value) (th : List Int) (n : Int) (v4 : Value) (h : List Int) (v5 : Value) (o : List Int) (w : World)
    (h0 : (RowsIn w v0 ls ∧ OctR ls) ∧ (ls.length ≤ 5864062014634 ∧ ∀ l ∈ ls, l.length ≤ 140737488351232)) (_ : (Lit.int .i64 t).wf = true) (h2 : (BIn w v2 th ∧ Oct th) ∧ th.length ≤ 140737488351232) (_ : (Lit.int .i64 n).wf = true)
    (h4 : (BIn w v4 h ∧ Oct h) ∧ h.length ≤ 140737488351232) (h5 : (BIn w v5 o ∧ Oct o) ∧ o.length ≤ 140737488351232) (hL : laidMetH Tryd.prog Rows.fnRecordRootRow.laid w) (hsh : w.ShapedOpen Tryd.prog) :
    Calls Tryd.prog 4 #[v0, .int .i64 t, v2, .int .i64 n, v4, v5] w fun e w' => e = .returned (.bool true) ∧ Below w.heap.size w w' := by
  rw [MakeChecks.laidMetH_plain _ _ _ (by kernel_rfl)] at hL
  obtain ⟨E0t, E0a, hE, hE0⟩ := proofFailed_of rfl hL
  obtain ⟨ks, hK⟩ := table_of hsh
  have hk0 : 4 < w.heap.size := (Array.getElem?_eq_some_iff.1 hK.2.2).1
  have HW := Lib.hid (fun (p : BW w) => trWorks_any ks p.val (hK.below p.bel hk0))
  have HC := Lib.hid (implCheckRecord_any ks E0t E0a t n v0 v2 v4 ls th h w h0.1.1 (by omega) h2.1.1 h4.1.1 hK hE hE0)
  have HC2 := Lib.hid (fun w' (hb : Below w.heap.size w w') => implCheckRecord_any ks E0t E0a t n v0 v5 v4 ls o h w' (h0.1.1.below hb) (by omega) (h5.1.1.below hb) (h4.1.1.below hb) (hK.below hb hk0) ((hb.cell (p := ⟨0, 0, none⟩) hE0).trans hE) (Nat.lt_of_lt_of_le hE0 hb.size))
  have HO := Lib.hid (fun (hr : recOK ks ls t n th h = true) => recOK_other (o := o) hr)
  have HH1 := Lib.hid (fun w' (hb : Below w.heap.size w w') => spec_Hash32 th v2 w' (h2.1.1.below hb))
  have HH2 := Lib.hid (fun w' (hb : Below w.heap.size w w') => spec_Hash32 o v5 w' (h5.1.1.below hb))
  have HQ := Lib.hid (fun v u w' (hv : BIn w' v (h32 th)) (hu : BIn w' u (h32 o)) => bytesEqual_any (h32 th) (h32 o) v u w' hv hu (oct_h32 h2.1.2) (oct_h32 h5.1.2))
  clear h0 h2 h4 h5 hL hsh hK hE
  generalize recOK ks ls t n th h = r at *
  generalize recOK ks ls t n o h = r2 at *
  obtain ⟨B, hB⟩ : ∃ B, B = decide (h32 th = h32 o) := ⟨_, rfl⟩
  rw [← hB] at HO HQ
  have H1 := Lib.hid (h32_len th)
  have H2 := Lib.hid (h32_len o)
  clear hB
  generalize h32 th = P at *
  generalize h32 o = Q at *
  go_enter Tryd.func4, Tryd.ntmps4
  go_wp2_with fail
  refine HC.out.mono ?_
  rintro e w1 ⟨rfl, hb1⟩
  have HB1 := Lib.hid hb1
  clear hb1
  cases r with
  | false =>
    go_wp2_with fail
    refine (HW.out ⟨w1, HB1.out⟩).mono ?_
    rintro e w2 ⟨rfl, hb2⟩
    have HB2 : Hid (Below w.heap.size w w2) := Lib.hid (bl_step HB1.out hb2 (Nat.le_refl _))
    clear hb2
    go_wp2_with fail
    go_ret
    exact ⟨rfl, HB2.out⟩
  | true =>
    have hr2 := HO.out rfl
    subst hr2
    have hBB : (r2 == r2) = true := by cases r2 <;> rfl
    go_wp2_with fail
    refine (HC2.out w1 HB1.out).mono ?_
    rintro e w2 ⟨rfl, hb2⟩
    have HB2 : Hid (Below w.heap.size w w2) := Lib.hid (bl_step HB1.out hb2 (Nat.le_refl _))
    clear hb2
    go_wp2_with fail
    refine (HH1.out w2 HB2.out).mono ?_
    rintro e w3 ⟨⟨rfl, hp3⟩, hb3⟩
    have HP3 : Hid (BIn w3 (.slice (some ⟨w2.heap.size, 0, none⟩) 32 32) P) := Lib.hid (bat_in hp3 H1.out)
    have HB3 : Hid (Below w.heap.size w w3) := Lib.hid (bl_step HB2.out hb3 (Nat.le_refl _))
    clear hb3 hp3
    go_wp2_with fail
    refine (HH2.out w3 HB3.out).mono ?_
    rintro e w4 ⟨⟨rfl, hp4⟩, hb4⟩
    have HP4 : Hid (BIn w4 (.slice (some ⟨w2.heap.size, 0, none⟩) 32 32) P) := Lib.hid (HP3.out.below hb4)
    have HQ4 : Hid (BIn w4 (.slice (some ⟨w3.heap.size, 0, none⟩) 32 32) Q) := Lib.hid (bat_in hp4 H2.out)
    have HB4 : Hid (Below w.heap.size w w4) := Lib.hid (bl_step HB3.out hb4 (Nat.le_refl _))
    clear hb4 hp4
    go_wp2_with fail
    refine (HQ.out _ _ w4 HP4.out HQ4.out).mono ?_
    rintro e w5 ⟨rfl, rfl⟩
    go_wp2_with fail
    refine (HW.out ⟨w4, HB4.out⟩).mono ?_
    rintro e w6 ⟨rfl, hb6⟩
    have HB6 : Hid (Below w.heap.size w w6) := Lib.hid (bl_step HB4.out hb6 (Nat.le_refl _))
    clear hb6
    go_wp2_with fail
    go_ret
    exact ⟨rfl, HB6.out⟩
end Go.Proofs.YtlmcoaidngnomaaDoor
