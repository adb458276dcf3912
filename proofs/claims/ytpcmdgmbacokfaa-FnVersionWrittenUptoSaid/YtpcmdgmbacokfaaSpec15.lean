/- The walks of FnCompareTails, FnCompareLonger, FnCompareAhead and FnCompareKinds: each returns true. Condition: the lists and the text have together at most 2 to the power of 20 values and letters. -/
import Derived.Test.YtpcmdgmbacokfaaSpec14
import Derived.Test.YtpcmdgmbacokfaaSpecLaw3
namespace Go.Proofs.Ytpcmdgmbacokfaa
open Go.RowKit
attribute [local go_sem] app_str

theorem verWith_123 (xs : List (List UInt8)) : verWith xs = Sem.ver123 xs := by
  unfold verWith Sem.ver123 Sem.withPre Sem.preText
  split
  · rfl
  · rfl
theorem bulk_sum {xs : List (List UInt8)} (h : bulkS xs ≤ 1048576) : (xs.map fun x => x.length + 1).sum ≤ 1048575 := by unfold bulkS at h; omega
theorem bulk_each {xs : List (List UInt8)} (h : bulkS xs ≤ 1048576) : ∀ x ∈ xs, x.length ≤ 1048576 := by
  intro x hx
  obtain ⟨k, hk, rfl⟩ := List.getElem_of_mem hx
  have h1 := @strs_at_le xs k hk 1
  have h2 := bulk_sum h
  exact Nat.le_trans (Nat.le_trans (Nat.le_succ _) h1) (Nat.le_trans h2 (by omega))
theorem bulk_len {xs : List (List UInt8)} (h : bulkS xs ≤ 1048576) : xs.length ≤ 1048576 := by
  have : ∀ xs : List (List UInt8), xs.length ≤ (xs.map fun x : List UInt8 => x.length + 1).sum := fun xs => by
    induction xs with
    | nil => simp
    | cons x r ih => simp only [List.length_cons, List.map_cons, List.sum_cons]; omega
  exact Nat.le_trans (this xs) (Nat.le_trans (bulk_sum h) (by omega))
theorem ver_len {xs : List (List UInt8)} (h : (xs.map fun x => x.length + 1).sum ≤ 4194304) : (verWith xs).length ≤ 4194320 := by
  have h1 := Sem.joinBy_len [46] xs (n := 1) (by simp)
  have h2 := Nat.le_trans h1 h
  unfold verWith
  split
  · simp
  · simp; omega
theorem one_strs (w : World) (x : List UInt8) : StrsAt (w.alloc (Obj.cells #[str x] 9)) (.slice (some ⟨w.heap.size, 0, none⟩) 1 1) [x] := by
  refine ⟨_, _, rfl, by simp, by omega, .inr ⟨w.heap.size, 0, rfl, by simp, fun k u hu => ?_⟩⟩
  have h0 : k = 0 := by have := (List.getElem?_eq_some_iff.1 hu).1; simp at this; exact this
  subst h0
  simp at hu
  subst hu
  exact cell_of_row (w.alloc _) _ _ _ 9 (0, 0) (heap_alloc_new w _)
theorem good_ne {xs : List (List UInt8)} (h : Sem.idsGood xs = true) (hl : ∀ x ∈ xs, x.length ≤ 1048576) : ∀ x ∈ xs, x ≠ [] ∧ x.length ≤ 1152921504606846976 := fun x hx =>
  ⟨Sem.veId_ne (Sem.goodId_veId (List.all_eq_true.1 h x hx)), by have := hl x hx; omega⟩

theorem own_one (w : World) (x : List UInt8) : (w.alloc (Obj.cells #[str x] 9)).ownsRow w.heap.size 9 1 (.slice (some ⟨w.heap.size, 0, none⟩) 1 1) [x].length ([x].map str) :=
  ⟨rfl, .inr ⟨w.heap.size, 1, #[str x], rfl, Nat.le_refl _, heap_alloc_new w _, Nat.le_refl _, by simp [maxLen], rfl, rfl⟩⟩
theorem own_one' (w : World) (o : Obj) (x : List UInt8) : ((w.alloc o).alloc (Obj.cells #[str x] 9)).ownsRow (w.heap.size + 1) 9 1 (.slice (some ⟨w.heap.size + 1, 0, none⟩) 1 1) [x].length ([x].map str) := by
  have := own_one (w.alloc o) x
  simpa using this
theorem run_app_none {P : Program} {w : World} (base : Nat) (t ty e : TypeId) (i : TypeInfo) (size : Nat) (ht : P.underlying t = some (.slice e)) (hi : P.info? e = some i)
    (v : Value) (n : Nat) (xs : List Value) (hown : w.ownsRow base e size v n xs) (c : Nat) : (Builtin.append_ #[t, t] ty #[v, .slice none 0 c]).run P w = .ok v w := by
  rcases hown.2 with ⟨rfl, rfl⟩ | ⟨g, cap, cur, rfl, _, _, hnc, _⟩
  · simp [Builtin.append_, run_underlying ht, sizeOf, typeInfo, hi, Builtin.lenOf, Builtin.firstCells]
  · simp [Builtin.append_, run_underlying ht, sizeOf, typeInfo, hi, Builtin.lenOf, Builtin.firstCells, hnc, storeCells]
/-- texts behind texts, whatever slice they come from -/
theorem app_strs {w : World} {ops : Array Oper} {rest : List Oper} {o : Oper} {a : Act} {Q : Exit → Act → World → Prop} (hgd : o.guard = none) (s x : Operand)
    (ho : o.op = .call { callee := .builtin .append, args := #[s, x], argTypes := #[27, 27] })
    (base : Nat) (v : Value) (xs : List (List UInt8)) (hs : a.eval s = v) (hown : w.ownsRow base 9 1 v xs.length (xs.map str))
    (y : Value) (ys : List (List UInt8)) (hx : a.eval x = y) (hy : StrsAt w y ys) (hlen : xs.length + ys.length ≤ 4194304) (hbase : base ≤ w.heap.size)
    (h : ∀ v' w', w'.ownsRow base 9 1 v' (xs ++ ys).length ((xs ++ ys).map str) → w.grownBy w' v.ownBlock → wpList Try.prog ops Q rest (a.put o.dst v') w') :
    wpList Try.prog ops Q (o :: rest) a w := by
  obtain ⟨i0, hi, hz0, hz1, hz2⟩ := info_parts info_string
  obtain ⟨A, c, rfl, hc, hm, hy⟩ := hy
  cases A with
  | none =>
    rcases hy with rfl | ⟨_, _, e, _⟩
    · refine wpList_plain hgd fun K hK => ?_
      have hrun := run_app_none (P := Try.prog) (w := w) base 27 o.type 9 i0 1 Try.underlying27 hi v _ _ hown c
      unfold Oper.wp
      simp [execOp, ho, resolve, invoke, builtin, hs, hx, hrun, Result.andThen]
      exact hK _ _ (h v w (by simpa using hown) (World.grownBy.refl _ _))
    · cases e
  | some ad =>
    refine wpList_append_own_at _ hgd s x 27 ho base 9 i0 (str []) 1 16 Try.underlying27 hi hz0 hz1 hz2 rfl (by decide) v _ _ hs hown ad ys.length c (ys.map str) hx (by simp) ?_ (strs_one ys) (by unfold maxLen; omega) (by omega) hbase ?_
    · intro j u hu
      rcases hy with rfl | ⟨b, off, e, hb, hcell⟩
      · simp at hu
      · cases e
        have e : (⟨b, off, none⟩ : Addr).add j = ⟨b, off + j, none⟩ := by unfold Addr.add; split <;> simp_all
        rw [e]
        rw [List.getElem?_map] at hu
        cases hj : ys[j]? with
        | none => rw [hj] at hu; cases hu
        | some z => rw [hj] at hu; cases hu; exact hcell j z hj
    · intro v' w' h1 h2 _ _
      refine h v' w' ?_ h2
      rw [List.length_append, List.map_append]
      exact h1

set_option maxHeartbeats 4000000 in
set_option maxRecDepth 100000 in
theorem walk_FnCompareTails (v0 : Value) (xs : List (List UInt8)) (v1 : Value) (ys : List (List UInt8)) (s2 : ByteArray) (w : World)
    (h0 : StrsAt w v0 xs) (b0 : bulkS xs ≤ 1048576) (h1 : StrsAt w v1 ys) (b1 : bulkS ys ≤ 1048576) (b2 : s2.size ≤ 1048576) :
    Calls Try.prog 7 #[v0, v1, .string s2] w fun e w' => e = .returned (.bool true) ∧ Below w.heap.size w w' := by
  rw [← len_of] at b2
  rw [str_of]
  generalize s2.data.toList = x at *
  have H0 := Lib.hid h0
  have H1 := Lib.hid h1
  have HG0 := Lib.hid (fun w' (h : StrsAt w' v0 xs) => identifiersGood_any v0 xs w' h (fun x hx => by have := bulk_each b0 x hx; omega))
  have HG1 := Lib.hid (fun w' (h : StrsAt w' v1 ys) => identifiersGood_any v1 ys w' h (fun x hx => by have := bulk_each b1 x hx; omega))
  have HG2 := Lib.hid (fun w' v (h : StrsAt w' v [x]) => identifiersGood_any v [x] w' h (fun y hy => by simp at hy; subst hy; omega))
  have HB0 := Lib.hid b0
  have HB1 := Lib.hid b1
  clear h0 h1 b0 b1
  cases g0 : Sem.idsGood xs with
  | false =>
    go_enter Try.func7, Try.ntmps7
    go_wp2_with fail
    refine (HG0.out _ H0.out).mono ?_
    rintro e w' ⟨rfl, rfl⟩
    go_wp2_with (first | (go_at_call 19; refine (impl_CompareVersions _ _ _ (by first | omega | (simp; done) | (simp; omega)) (by first | omega | (simp; done) | (simp; omega))).mono ?_; rintro e w' ⟨rfl, hb⟩) | (go_at_call 31; refine (impl_VersionOk _ _ (by first | omega | (simp; done) | (simp; omega))).mono ?_; rintro e w' ⟨rfl, hb⟩) | (go_at_call 17; refine (impl_CanonicalVersion _ _ (by first | omega | (simp; done) | (simp; omega))).mono ?_; rintro e w' ⟨rfl, hb⟩) | (go_at_call 37; refine (impl_MajorOf _ _ (by first | omega | (simp; done) | (simp; omega))).mono ?_; rintro e w' ⟨rfl, hb⟩) | (go_at_call 38; refine (impl_PrereleaseOf _ _ (by first | omega | (simp; done) | (simp; omega))).mono ?_; rintro e w' ⟨rfl, hb⟩) | (go_at_call 39; refine (impl_BuildOf _ _ (by first | omega | (simp; done) | (simp; omega))).mono ?_; rintro e w' ⟨rfl, hb⟩) | (go_at_call 21; refine (impl_MaxVersion _ _ _ (by first | omega | (simp; done) | (simp; omega)) (by first | omega | (simp; done) | (simp; omega))).mono ?_; rintro e w' ⟨rfl, hb⟩) | (go_at_call 28; refine (veWorks_any _).mono ?_; rintro e w' ⟨rfl, hb⟩))
    go_ret
    exact ⟨rfl, (by repeat (first | (with_reducible assumption) | (with_reducible exact Below.refl _ _) | (with_reducible refine bl_next' ?_ (by with_reducible assumption))))⟩
  | true =>
  cases g1 : Sem.idsGood ys with
  | false =>
    go_enter Try.func7, Try.ntmps7
    go_wp2_with fail
    refine (HG0.out _ H0.out).mono ?_
    rintro e w' ⟨rfl, rfl⟩
    go_wp2_with fail
    refine (HG1.out _ H1.out).mono ?_
    rintro e w' ⟨rfl, rfl⟩
    go_wp2_with (first | (go_at_call 19; refine (impl_CompareVersions _ _ _ (by first | omega | (simp; done) | (simp; omega)) (by first | omega | (simp; done) | (simp; omega))).mono ?_; rintro e w' ⟨rfl, hb⟩) | (go_at_call 31; refine (impl_VersionOk _ _ (by first | omega | (simp; done) | (simp; omega))).mono ?_; rintro e w' ⟨rfl, hb⟩) | (go_at_call 17; refine (impl_CanonicalVersion _ _ (by first | omega | (simp; done) | (simp; omega))).mono ?_; rintro e w' ⟨rfl, hb⟩) | (go_at_call 37; refine (impl_MajorOf _ _ (by first | omega | (simp; done) | (simp; omega))).mono ?_; rintro e w' ⟨rfl, hb⟩) | (go_at_call 38; refine (impl_PrereleaseOf _ _ (by first | omega | (simp; done) | (simp; omega))).mono ?_; rintro e w' ⟨rfl, hb⟩) | (go_at_call 39; refine (impl_BuildOf _ _ (by first | omega | (simp; done) | (simp; omega))).mono ?_; rintro e w' ⟨rfl, hb⟩) | (go_at_call 21; refine (impl_MaxVersion _ _ _ (by first | omega | (simp; done) | (simp; omega)) (by first | omega | (simp; done) | (simp; omega))).mono ?_; rintro e w' ⟨rfl, hb⟩) | (go_at_call 28; refine (veWorks_any _).mono ?_; rintro e w' ⟨rfl, hb⟩))
    go_ret
    exact ⟨rfl, (by repeat (first | (with_reducible assumption) | (with_reducible exact Below.refl _ _) | (with_reducible refine bl_next' ?_ (by with_reducible assumption))))⟩
  | true =>
  cases g2 : Sem.idsGood [x] with
  | false =>
    go_enter Try.func7, Try.ntmps7
    go_wp2_with fail
    refine (HG0.out _ H0.out).mono ?_
    rintro e w' ⟨rfl, rfl⟩
    go_wp2_with fail
    refine (HG1.out _ H1.out).mono ?_
    rintro e w' ⟨rfl, rfl⟩
    go_wp2_with fail
    refine (HG2.out _ _ (one_strs _ _)).mono ?_
    rintro e w' ⟨rfl, rfl⟩
    go_wp2_with (first | (go_at_call 19; refine (impl_CompareVersions _ _ _ (by first | omega | (simp; done) | (simp; omega)) (by first | omega | (simp; done) | (simp; omega))).mono ?_; rintro e w' ⟨rfl, hb⟩) | (go_at_call 31; refine (impl_VersionOk _ _ (by first | omega | (simp; done) | (simp; omega))).mono ?_; rintro e w' ⟨rfl, hb⟩) | (go_at_call 17; refine (impl_CanonicalVersion _ _ (by first | omega | (simp; done) | (simp; omega))).mono ?_; rintro e w' ⟨rfl, hb⟩) | (go_at_call 37; refine (impl_MajorOf _ _ (by first | omega | (simp; done) | (simp; omega))).mono ?_; rintro e w' ⟨rfl, hb⟩) | (go_at_call 38; refine (impl_PrereleaseOf _ _ (by first | omega | (simp; done) | (simp; omega))).mono ?_; rintro e w' ⟨rfl, hb⟩) | (go_at_call 39; refine (impl_BuildOf _ _ (by first | omega | (simp; done) | (simp; omega))).mono ?_; rintro e w' ⟨rfl, hb⟩) | (go_at_call 21; refine (impl_MaxVersion _ _ _ (by first | omega | (simp; done) | (simp; omega)) (by first | omega | (simp; done) | (simp; omega))).mono ?_; rintro e w' ⟨rfl, hb⟩) | (go_at_call 28; refine (veWorks_any _).mono ?_; rintro e w' ⟨rfl, hb⟩))
    go_ret
    exact ⟨rfl, by repeat (first | (with_reducible assumption) | (with_reducible exact bl_new _ _) | (with_reducible refine bl_next' ?_ (by with_reducible assumption)))⟩
  | true =>
    have HW0 := Lib.hid (fun w' (h : StrsAt w' v0 xs) => versionWith_any v0 xs w' h (Nat.le_trans (bulk_sum HB0.out) (by omega)))
    have HW1 := Lib.hid (fun w' (h : StrsAt w' v1 ys) => versionWith_any v1 ys w' h (Nat.le_trans (bulk_sum HB1.out) (by omega)))
    have hl0 : (verWith xs).length ≤ 4194320 := ver_len (Nat.le_trans (bulk_sum HB0.out) (by omega))
    have hl1 : (verWith ys).length ≤ 4194320 := ver_len (Nat.le_trans (bulk_sum HB1.out) (by omega))
    have W1 : Hid (Below w.heap.size w (w.alloc (Obj.cells #[str x] 9))) := Lib.hid (bl_new _ _)
    have K0 : Hid (StrsAt (w.alloc (Obj.cells #[str x] 9)) v0 xs) := Lib.hid (H0.out.alloc _)
    have K1 : Hid (StrsAt (w.alloc (Obj.cells #[str x] 9)) v1 ys) := Lib.hid (H1.out.alloc _)
    have hcmp : Sem.compare (verWith xs) (verWith ys) = Sem.preIds xs ys := by rw [verWith_123, verWith_123]; exact Sem.compare_123 g0 g1
    have hv0 : Sem.isValid (verWith xs) = true := by rw [verWith_123]; exact Sem.valid_123 g0
    have hv1 : Sem.isValid (verWith ys) = true := by rw [verWith_123]; exact Sem.valid_123 g1
    have HP := Lib.hid (fun w' (h : StrsAt w' v0 xs) (h' : StrsAt w' v1 ys) => specPre_any v0 v1 xs ys w' h h' (good_ne g0 (bulk_each HB0.out)) (good_ne g1 (bulk_each HB1.out)) (by have := bulk_len HB0.out; omega) (by have := bulk_len HB1.out; omega))
    go_enter Try.func7, Try.ntmps7
    go_wp2_with fail
    refine (HG0.out _ H0.out).mono ?_
    rintro e w' ⟨rfl, rfl⟩
    go_wp2_with fail
    refine (HG1.out _ H1.out).mono ?_
    rintro e w' ⟨rfl, rfl⟩
    go_wp2_with fail
    refine (HG2.out _ _ (one_strs _ _)).mono ?_
    rintro e w' ⟨rfl, rfl⟩
    generalize w.alloc (Obj.cells #[str x] 9) = wa at *
    clear HG0 HG1 HG2 H0 H1
    go_wp2_with fail
    refine (HW0.out _ K0.out).mono ?_
    rintro e w' ⟨rfl, rfl⟩
    go_wp2_with fail
    refine (HW1.out _ K1.out).mono ?_
    rintro e w' ⟨rfl, rfl⟩
    generalize verWith xs = V0 at *
    generalize verWith ys = V1 at *
    go_wp2_with fail
    refine (impl_CompareVersions V0 V1 _ (by omega) (by omega)).mono ?_
    rintro e wb ⟨rfl, hb⟩
    have K0b : Hid (StrsAt wb v0 xs) := Lib.hid (K0.out.below hb)
    have K1b : Hid (StrsAt wb v1 ys) := Lib.hid (K1.out.below hb)
    go_wp2_with fail
    refine (HP.out _ K0b.out K1b.out).mono ?_
    rintro e w' ⟨rfl, n, rfl⟩
    generalize Sem.preIds xs ys = P at *
    go_wp2_with (first | (go_at_call 19; refine (impl_CompareVersions _ _ _ (by first | omega | (simp; done) | (simp; omega)) (by first | omega | (simp; done) | (simp; omega))).mono ?_; rintro e w' ⟨rfl, hb⟩) | (go_at_call 31; refine (impl_VersionOk _ _ (by first | omega | (simp; done) | (simp; omega))).mono ?_; rintro e w' ⟨rfl, hb⟩) | (go_at_call 17; refine (impl_CanonicalVersion _ _ (by first | omega | (simp; done) | (simp; omega))).mono ?_; rintro e w' ⟨rfl, hb⟩) | (go_at_call 37; refine (impl_MajorOf _ _ (by first | omega | (simp; done) | (simp; omega))).mono ?_; rintro e w' ⟨rfl, hb⟩) | (go_at_call 38; refine (impl_PrereleaseOf _ _ (by first | omega | (simp; done) | (simp; omega))).mono ?_; rintro e w' ⟨rfl, hb⟩) | (go_at_call 39; refine (impl_BuildOf _ _ (by first | omega | (simp; done) | (simp; omega))).mono ?_; rintro e w' ⟨rfl, hb⟩) | (go_at_call 21; refine (impl_MaxVersion _ _ _ (by first | omega | (simp; done) | (simp; omega)) (by first | omega | (simp; done) | (simp; omega))).mono ?_; rintro e w' ⟨rfl, hb⟩) | (go_at_call 28; refine (veWorks_any _).mono ?_; rintro e w' ⟨rfl, hb⟩))
    go_ret
    exact ⟨rfl, by repeat (first | exact W1.out | (with_reducible assumption) | (with_reducible refine bl_next' ?_ (by with_reducible assumption)) | (with_reducible refine bl_drewN ?_ _))⟩

set_option maxHeartbeats 4000000 in
set_option maxRecDepth 100000 in
theorem walk_FnCompareLonger (v0 : Value) (xs : List (List UInt8)) (v1 : Value) (ys : List (List UInt8)) (s2 : ByteArray) (w : World)
    (h0 : StrsAt w v0 xs) (b0 : bulkS xs ≤ 1048576) (h1 : StrsAt w v1 ys) (b1 : bulkS ys ≤ 1048576) (b2 : s2.size ≤ 1048576) :
    Calls Try.prog 8 #[v0, v1, .string s2] w fun e w' => e = .returned (.bool true) ∧ Below w.heap.size w w' := by
  rw [← len_of] at b2
  rw [str_of]
  generalize s2.data.toList = x at *
  have H0 := Lib.hid h0
  have H1 := Lib.hid h1
  have HG0 := Lib.hid (fun w' (h : StrsAt w' v0 xs) => identifiersGood_any v0 xs w' h (fun x hx => by have := bulk_each b0 x hx; omega))
  have HG1 := Lib.hid (fun w' (h : StrsAt w' v1 ys) => identifiersGood_any v1 ys w' h (fun x hx => by have := bulk_each b1 x hx; omega))
  have HG2 := Lib.hid (fun w' v (h : StrsAt w' v [x]) => identifiersGood_any v [x] w' h (fun y hy => by simp at hy; subst hy; omega))
  have HB0 := Lib.hid b0
  have HB1 := Lib.hid b1
  clear h0 h1 b0 b1
  cases g0 : Sem.idsGood xs with
  | false =>
    go_enter Try.func8, Try.ntmps8
    go_wp2_with fail
    refine (HG0.out _ H0.out).mono ?_
    rintro e w' ⟨rfl, rfl⟩
    go_wp2_with (first | (go_at_call 19; refine (impl_CompareVersions _ _ _ (by first | omega | (simp; done) | (simp; omega)) (by first | omega | (simp; done) | (simp; omega))).mono ?_; rintro e w' ⟨rfl, hb⟩) | (go_at_call 31; refine (impl_VersionOk _ _ (by first | omega | (simp; done) | (simp; omega))).mono ?_; rintro e w' ⟨rfl, hb⟩) | (go_at_call 17; refine (impl_CanonicalVersion _ _ (by first | omega | (simp; done) | (simp; omega))).mono ?_; rintro e w' ⟨rfl, hb⟩) | (go_at_call 37; refine (impl_MajorOf _ _ (by first | omega | (simp; done) | (simp; omega))).mono ?_; rintro e w' ⟨rfl, hb⟩) | (go_at_call 38; refine (impl_PrereleaseOf _ _ (by first | omega | (simp; done) | (simp; omega))).mono ?_; rintro e w' ⟨rfl, hb⟩) | (go_at_call 39; refine (impl_BuildOf _ _ (by first | omega | (simp; done) | (simp; omega))).mono ?_; rintro e w' ⟨rfl, hb⟩) | (go_at_call 21; refine (impl_MaxVersion _ _ _ (by first | omega | (simp; done) | (simp; omega)) (by first | omega | (simp; done) | (simp; omega))).mono ?_; rintro e w' ⟨rfl, hb⟩) | (go_at_call 28; refine (veWorks_any _).mono ?_; rintro e w' ⟨rfl, hb⟩))
    go_ret
    exact ⟨rfl, (by repeat (first | (with_reducible assumption) | (with_reducible exact Below.refl _ _) | (with_reducible refine bl_next' ?_ (by with_reducible assumption))))⟩
  | true =>
  cases g1 : Sem.idsGood ys with
  | false =>
    go_enter Try.func8, Try.ntmps8
    go_wp2_with fail
    refine (HG0.out _ H0.out).mono ?_
    rintro e w' ⟨rfl, rfl⟩
    go_wp2_with fail
    refine (HG1.out _ H1.out).mono ?_
    rintro e w' ⟨rfl, rfl⟩
    go_wp2_with (first | (go_at_call 19; refine (impl_CompareVersions _ _ _ (by first | omega | (simp; done) | (simp; omega)) (by first | omega | (simp; done) | (simp; omega))).mono ?_; rintro e w' ⟨rfl, hb⟩) | (go_at_call 31; refine (impl_VersionOk _ _ (by first | omega | (simp; done) | (simp; omega))).mono ?_; rintro e w' ⟨rfl, hb⟩) | (go_at_call 17; refine (impl_CanonicalVersion _ _ (by first | omega | (simp; done) | (simp; omega))).mono ?_; rintro e w' ⟨rfl, hb⟩) | (go_at_call 37; refine (impl_MajorOf _ _ (by first | omega | (simp; done) | (simp; omega))).mono ?_; rintro e w' ⟨rfl, hb⟩) | (go_at_call 38; refine (impl_PrereleaseOf _ _ (by first | omega | (simp; done) | (simp; omega))).mono ?_; rintro e w' ⟨rfl, hb⟩) | (go_at_call 39; refine (impl_BuildOf _ _ (by first | omega | (simp; done) | (simp; omega))).mono ?_; rintro e w' ⟨rfl, hb⟩) | (go_at_call 21; refine (impl_MaxVersion _ _ _ (by first | omega | (simp; done) | (simp; omega)) (by first | omega | (simp; done) | (simp; omega))).mono ?_; rintro e w' ⟨rfl, hb⟩) | (go_at_call 28; refine (veWorks_any _).mono ?_; rintro e w' ⟨rfl, hb⟩))
    go_ret
    exact ⟨rfl, (by repeat (first | (with_reducible assumption) | (with_reducible exact Below.refl _ _) | (with_reducible refine bl_next' ?_ (by with_reducible assumption))))⟩
  | true =>
  cases g2 : Sem.idsGood [x] with
  | false =>
    go_enter Try.func8, Try.ntmps8
    go_wp2_with fail
    refine (HG0.out _ H0.out).mono ?_
    rintro e w' ⟨rfl, rfl⟩
    go_wp2_with fail
    refine (HG1.out _ H1.out).mono ?_
    rintro e w' ⟨rfl, rfl⟩
    go_wp2_with fail
    refine (HG2.out _ _ (one_strs _ _)).mono ?_
    rintro e w' ⟨rfl, rfl⟩
    go_wp2_with (first | (go_at_call 19; refine (impl_CompareVersions _ _ _ (by first | omega | (simp; done) | (simp; omega)) (by first | omega | (simp; done) | (simp; omega))).mono ?_; rintro e w' ⟨rfl, hb⟩) | (go_at_call 31; refine (impl_VersionOk _ _ (by first | omega | (simp; done) | (simp; omega))).mono ?_; rintro e w' ⟨rfl, hb⟩) | (go_at_call 17; refine (impl_CanonicalVersion _ _ (by first | omega | (simp; done) | (simp; omega))).mono ?_; rintro e w' ⟨rfl, hb⟩) | (go_at_call 37; refine (impl_MajorOf _ _ (by first | omega | (simp; done) | (simp; omega))).mono ?_; rintro e w' ⟨rfl, hb⟩) | (go_at_call 38; refine (impl_PrereleaseOf _ _ (by first | omega | (simp; done) | (simp; omega))).mono ?_; rintro e w' ⟨rfl, hb⟩) | (go_at_call 39; refine (impl_BuildOf _ _ (by first | omega | (simp; done) | (simp; omega))).mono ?_; rintro e w' ⟨rfl, hb⟩) | (go_at_call 21; refine (impl_MaxVersion _ _ _ (by first | omega | (simp; done) | (simp; omega)) (by first | omega | (simp; done) | (simp; omega))).mono ?_; rintro e w' ⟨rfl, hb⟩) | (go_at_call 28; refine (veWorks_any _).mono ?_; rintro e w' ⟨rfl, hb⟩))
    go_ret
    exact ⟨rfl, by repeat (first | (with_reducible assumption) | (with_reducible exact bl_new _ _) | (with_reducible refine bl_next' ?_ (by with_reducible assumption)))⟩
  | true =>
    have HW0 := Lib.hid (fun w' (h : StrsAt w' v0 xs) => versionWith_any v0 xs w' h (Nat.le_trans (bulk_sum HB0.out) (by omega)))
    have HW1 := Lib.hid (fun w' (h : StrsAt w' v1 ys) => versionWith_any v1 ys w' h (Nat.le_trans (bulk_sum HB1.out) (by omega)))
    have hl0 : (verWith xs).length ≤ 4194320 := ver_len (Nat.le_trans (bulk_sum HB0.out) (by omega))
    have hl1 : (verWith ys).length ≤ 4194320 := ver_len (Nat.le_trans (bulk_sum HB1.out) (by omega))
    have W1 : Hid (Below w.heap.size w (w.alloc (Obj.cells #[str x] 9))) := Lib.hid (bl_new _ _)
    have K0 : Hid (StrsAt (w.alloc (Obj.cells #[str x] 9)) v0 xs) := Lib.hid (H0.out.alloc _)
    have K1 : Hid (StrsAt (w.alloc (Obj.cells #[str x] 9)) v1 ys) := Lib.hid (H1.out.alloc _)
    have hsn := Sem.good_snoc g0 g2
    have hsum : ((xs ++ [x]).map fun x : List UInt8 => x.length + 1).sum ≤ 4194304 := by
      rw [List.map_append, List.sum_append]
      have h1 : (xs.map fun x : List UInt8 => x.length + 1).sum ≤ 1048575 := bulk_sum HB0.out
      simp
      omega
    have hl2 : (verWith (xs ++ [x])).length ≤ 4194320 := ver_len hsum
    have hln : (verWith []).length ≤ 4194320 := ver_len (by simp)
    have hxs : xs.length ≤ 1048576 := bulk_len HB0.out
    have HWM := Lib.hid (fun v w' (h : StrsAt w' v (xs ++ [x])) => versionWith_any v (xs ++ [x]) w' h (Nat.le_trans hsum (by omega)))
    have HWN := Lib.hid (fun w' => versionWith_any (.slice none 0 0) [] w' (strs_nil w') (by simp))
    have q1 : Sem.compare (verWith (xs ++ [x])) (verWith xs) = if xs = [] then -1 else 1 := by rw [verWith_123, verWith_123, Sem.compare_123 hsn g0, Sem.longer]
    have q2 : Sem.compare (verWith (xs ++ [x])) (verWith []) = -1 := by rw [verWith_123, verWith_123, Sem.compare_123 hsn rfl, Sem.longer_none]
    have q3 : Sem.compare (verWith (xs ++ [x])) [118, 49, 46, 50, 46, 50] = 1 := by rw [verWith_123]; exact Sem.above_122 hsn
    clear hsn hsum HW1 HB1 HB0 K1
    obtain ⟨A0, c0, hA0, -⟩ := id K0.out
    subst hA0
    by_cases hE : xs = []
    · rw [if_pos hE] at q1
      have hz : ((xs.length : Int) == 0) = true := by simp [hE]
      have HXS := Lib.hid hxs
      clear hE
      go_enter Try.func8, Try.ntmps8
      go_wp2_with fail
      refine (HG0.out _ H0.out).mono ?_
      rintro e w' ⟨rfl, rfl⟩
      go_wp2_with fail
      refine (HG1.out _ H1.out).mono ?_
      rintro e w' ⟨rfl, rfl⟩
      go_wp2_with fail
      refine (HG2.out _ _ (one_strs _ _)).mono ?_
      rintro e w' ⟨rfl, rfl⟩
      generalize w.alloc (Obj.cells #[str x] 9) = wa at *
      clear HG0 HG1 HG2 H0 H1
      go_wp2_with fail
      refine (HW0.out _ K0.out).mono ?_
      rintro e w' ⟨rfl, rfl⟩
      have HWA := Lib.hid W1.out.size
      go_wp2_with (first
        | (at_builtin; refine app_strs rfl (.tmp 27) (.tmp 28) rfl wa.heap.size (.slice (some ⟨wa.heap.size, 0, none⟩) 0 0) [] rfl (own_empty wa) _ xs rfl (K0.out.alloc _) (by have := HXS.out; simp; omega) (by simp) ?_; intro v' wb hown hgrow)
        | (at_builtin; refine app_strs rfl (.tmp 29) (.tmp 31) rfl wa.heap.size v' ([] ++ xs) rfl (hown.alloc _) _ [x] rfl (one_strs wb x) (by have := HXS.out; simp; omega) (by have := hgrow.size; simp at this ⊢; omega) ?_; intro v2 wc hown2 hgrow2))
      have HBE1 : Hid (Below w.heap.size w wb) := Lib.hid ((bl_alloc W1.out HWA.out _).grown hgrow (by have := HWA.out; simp; omega) (fun g hg => by have := own_base (own_empty wa) g hg; have := HWA.out; omega))
      have HBE : Hid (Below w.heap.size w wc) := Lib.hid ((bl_alloc HBE1.out HBE1.out.size _).grown hgrow2 (by have := HBE1.out.size; simp; omega) (fun g hg => by have := own_base hown g hg; have := HWA.out; omega))
      have HM : Hid (StrsAt wc v2 (xs ++ [x])) := Lib.hid (strs_of_own hown2)
      clear hgrow hgrow2 hown hown2 HBE1
      go_wp2_with fail
      refine (HWM.out _ _ HM.out).mono ?_
      rintro e w' ⟨rfl, rfl⟩
      generalize verWith (xs ++ [x]) = V2 at *
      generalize verWith [] = VN at *
      generalize verWith xs = V0 at *
      go_wp2_with (first | (go_at_call 29; refine (HWN.out _).mono ?_; rintro e w' ⟨rfl, rfl⟩) | (first | (go_at_call 19; refine (impl_CompareVersions _ _ _ (by first | omega | (simp; done) | (simp; omega)) (by first | omega | (simp; done) | (simp; omega))).mono ?_; rintro e w' ⟨rfl, hb⟩) | (go_at_call 31; refine (impl_VersionOk _ _ (by first | omega | (simp; done) | (simp; omega))).mono ?_; rintro e w' ⟨rfl, hb⟩) | (go_at_call 17; refine (impl_CanonicalVersion _ _ (by first | omega | (simp; done) | (simp; omega))).mono ?_; rintro e w' ⟨rfl, hb⟩) | (go_at_call 37; refine (impl_MajorOf _ _ (by first | omega | (simp; done) | (simp; omega))).mono ?_; rintro e w' ⟨rfl, hb⟩) | (go_at_call 38; refine (impl_PrereleaseOf _ _ (by first | omega | (simp; done) | (simp; omega))).mono ?_; rintro e w' ⟨rfl, hb⟩) | (go_at_call 39; refine (impl_BuildOf _ _ (by first | omega | (simp; done) | (simp; omega))).mono ?_; rintro e w' ⟨rfl, hb⟩) | (go_at_call 21; refine (impl_MaxVersion _ _ _ (by first | omega | (simp; done) | (simp; omega)) (by first | omega | (simp; done) | (simp; omega))).mono ?_; rintro e w' ⟨rfl, hb⟩) | (go_at_call 28; refine (veWorks_any _).mono ?_; rintro e w' ⟨rfl, hb⟩)))
      go_ret
      exact ⟨rfl, by repeat (first | exact W1.out | exact HBE.out | (with_reducible assumption) | (with_reducible refine bl_next' ?_ (by with_reducible assumption)) | (with_reducible refine bl_drewN ?_ _))⟩
    · rw [if_neg hE] at q1
      have hz : ((xs.length : Int) == 0) = false := by rw [beq_eq_false_iff_ne]; intro e; exact hE (List.eq_nil_of_length_eq_zero (by omega))
      have HXS := Lib.hid hxs
      clear hE
      go_enter Try.func8, Try.ntmps8
      go_wp2_with fail
      refine (HG0.out _ H0.out).mono ?_
      rintro e w' ⟨rfl, rfl⟩
      go_wp2_with fail
      refine (HG1.out _ H1.out).mono ?_
      rintro e w' ⟨rfl, rfl⟩
      go_wp2_with fail
      refine (HG2.out _ _ (one_strs _ _)).mono ?_
      rintro e w' ⟨rfl, rfl⟩
      generalize w.alloc (Obj.cells #[str x] 9) = wa at *
      clear HG0 HG1 HG2 H0 H1
      go_wp2_with fail
      refine (HW0.out _ K0.out).mono ?_
      rintro e w' ⟨rfl, rfl⟩
      have HWA := Lib.hid W1.out.size
      go_wp2_with (first
        | (at_builtin; refine app_strs rfl (.tmp 27) (.tmp 28) rfl wa.heap.size (.slice (some ⟨wa.heap.size, 0, none⟩) 0 0) [] rfl (own_empty wa) _ xs rfl (K0.out.alloc _) (by have := HXS.out; simp; omega) (by simp) ?_; intro v' wb hown hgrow)
        | (at_builtin; refine app_strs rfl (.tmp 29) (.tmp 31) rfl wa.heap.size v' ([] ++ xs) rfl (hown.alloc _) _ [x] rfl (one_strs wb x) (by have := HXS.out; simp; omega) (by have := hgrow.size; simp at this ⊢; omega) ?_; intro v2 wc hown2 hgrow2))
      have HBE1 : Hid (Below w.heap.size w wb) := Lib.hid ((bl_alloc W1.out HWA.out _).grown hgrow (by have := HWA.out; simp; omega) (fun g hg => by have := own_base (own_empty wa) g hg; have := HWA.out; omega))
      have HBE : Hid (Below w.heap.size w wc) := Lib.hid ((bl_alloc HBE1.out HBE1.out.size _).grown hgrow2 (by have := HBE1.out.size; simp; omega) (fun g hg => by have := own_base hown g hg; have := HWA.out; omega))
      have HM : Hid (StrsAt wc v2 (xs ++ [x])) := Lib.hid (strs_of_own hown2)
      clear hgrow hgrow2 hown hown2 HBE1
      go_wp2_with fail
      refine (HWM.out _ _ HM.out).mono ?_
      rintro e w' ⟨rfl, rfl⟩
      generalize verWith (xs ++ [x]) = V2 at *
      generalize verWith [] = VN at *
      generalize verWith xs = V0 at *
      go_wp2_with (first | (go_at_call 29; refine (HWN.out _).mono ?_; rintro e w' ⟨rfl, rfl⟩) | (first | (go_at_call 19; refine (impl_CompareVersions _ _ _ (by first | omega | (simp; done) | (simp; omega)) (by first | omega | (simp; done) | (simp; omega))).mono ?_; rintro e w' ⟨rfl, hb⟩) | (go_at_call 31; refine (impl_VersionOk _ _ (by first | omega | (simp; done) | (simp; omega))).mono ?_; rintro e w' ⟨rfl, hb⟩) | (go_at_call 17; refine (impl_CanonicalVersion _ _ (by first | omega | (simp; done) | (simp; omega))).mono ?_; rintro e w' ⟨rfl, hb⟩) | (go_at_call 37; refine (impl_MajorOf _ _ (by first | omega | (simp; done) | (simp; omega))).mono ?_; rintro e w' ⟨rfl, hb⟩) | (go_at_call 38; refine (impl_PrereleaseOf _ _ (by first | omega | (simp; done) | (simp; omega))).mono ?_; rintro e w' ⟨rfl, hb⟩) | (go_at_call 39; refine (impl_BuildOf _ _ (by first | omega | (simp; done) | (simp; omega))).mono ?_; rintro e w' ⟨rfl, hb⟩) | (go_at_call 21; refine (impl_MaxVersion _ _ _ (by first | omega | (simp; done) | (simp; omega)) (by first | omega | (simp; done) | (simp; omega))).mono ?_; rintro e w' ⟨rfl, hb⟩) | (go_at_call 28; refine (veWorks_any _).mono ?_; rintro e w' ⟨rfl, hb⟩)))
      go_ret
      exact ⟨rfl, by repeat (first | exact W1.out | exact HBE.out | (with_reducible assumption) | (with_reducible refine bl_next' ?_ (by with_reducible assumption)) | (with_reducible refine bl_drewN ?_ _))⟩

set_option maxHeartbeats 4000000 in
set_option maxRecDepth 100000 in
theorem walk_FnCompareAhead (v0 : Value) (xs : List (List UInt8)) (v1 : Value) (ys : List (List UInt8)) (s2 : ByteArray) (w : World)
    (h0 : StrsAt w v0 xs) (b0 : bulkS xs ≤ 1048576) (h1 : StrsAt w v1 ys) (b1 : bulkS ys ≤ 1048576) (b2 : s2.size ≤ 1048576) :
    Calls Try.prog 9 #[v0, v1, .string s2] w fun e w' => e = .returned (.bool true) ∧ Below w.heap.size w w' := by
  rw [← len_of] at b2
  rw [str_of]
  generalize s2.data.toList = x at *
  have H0 := Lib.hid h0
  have H1 := Lib.hid h1
  have HG0 := Lib.hid (fun w' (h : StrsAt w' v0 xs) => identifiersGood_any v0 xs w' h (fun x hx => by have := bulk_each b0 x hx; omega))
  have HG1 := Lib.hid (fun w' (h : StrsAt w' v1 ys) => identifiersGood_any v1 ys w' h (fun x hx => by have := bulk_each b1 x hx; omega))
  have HG2 := Lib.hid (fun w' v (h : StrsAt w' v [x]) => identifiersGood_any v [x] w' h (fun y hy => by simp at hy; subst hy; omega))
  have HB0 := Lib.hid b0
  have HB1 := Lib.hid b1
  clear h0 h1 b0 b1
  cases g0 : Sem.idsGood xs with
  | false =>
    go_enter Try.func9, Try.ntmps9
    go_wp2_with fail
    refine (HG0.out _ H0.out).mono ?_
    rintro e w' ⟨rfl, rfl⟩
    go_wp2_with (first | (go_at_call 19; refine (impl_CompareVersions _ _ _ (by first | omega | (simp; done) | (simp; omega)) (by first | omega | (simp; done) | (simp; omega))).mono ?_; rintro e w' ⟨rfl, hb⟩) | (go_at_call 31; refine (impl_VersionOk _ _ (by first | omega | (simp; done) | (simp; omega))).mono ?_; rintro e w' ⟨rfl, hb⟩) | (go_at_call 17; refine (impl_CanonicalVersion _ _ (by first | omega | (simp; done) | (simp; omega))).mono ?_; rintro e w' ⟨rfl, hb⟩) | (go_at_call 37; refine (impl_MajorOf _ _ (by first | omega | (simp; done) | (simp; omega))).mono ?_; rintro e w' ⟨rfl, hb⟩) | (go_at_call 38; refine (impl_PrereleaseOf _ _ (by first | omega | (simp; done) | (simp; omega))).mono ?_; rintro e w' ⟨rfl, hb⟩) | (go_at_call 39; refine (impl_BuildOf _ _ (by first | omega | (simp; done) | (simp; omega))).mono ?_; rintro e w' ⟨rfl, hb⟩) | (go_at_call 21; refine (impl_MaxVersion _ _ _ (by first | omega | (simp; done) | (simp; omega)) (by first | omega | (simp; done) | (simp; omega))).mono ?_; rintro e w' ⟨rfl, hb⟩) | (go_at_call 28; refine (veWorks_any _).mono ?_; rintro e w' ⟨rfl, hb⟩))
    go_ret
    exact ⟨rfl, (by repeat (first | (with_reducible assumption) | (with_reducible exact Below.refl _ _) | (with_reducible refine bl_next' ?_ (by with_reducible assumption))))⟩
  | true =>
  cases g1 : Sem.idsGood ys with
  | false =>
    go_enter Try.func9, Try.ntmps9
    go_wp2_with fail
    refine (HG0.out _ H0.out).mono ?_
    rintro e w' ⟨rfl, rfl⟩
    go_wp2_with fail
    refine (HG1.out _ H1.out).mono ?_
    rintro e w' ⟨rfl, rfl⟩
    go_wp2_with (first | (go_at_call 19; refine (impl_CompareVersions _ _ _ (by first | omega | (simp; done) | (simp; omega)) (by first | omega | (simp; done) | (simp; omega))).mono ?_; rintro e w' ⟨rfl, hb⟩) | (go_at_call 31; refine (impl_VersionOk _ _ (by first | omega | (simp; done) | (simp; omega))).mono ?_; rintro e w' ⟨rfl, hb⟩) | (go_at_call 17; refine (impl_CanonicalVersion _ _ (by first | omega | (simp; done) | (simp; omega))).mono ?_; rintro e w' ⟨rfl, hb⟩) | (go_at_call 37; refine (impl_MajorOf _ _ (by first | omega | (simp; done) | (simp; omega))).mono ?_; rintro e w' ⟨rfl, hb⟩) | (go_at_call 38; refine (impl_PrereleaseOf _ _ (by first | omega | (simp; done) | (simp; omega))).mono ?_; rintro e w' ⟨rfl, hb⟩) | (go_at_call 39; refine (impl_BuildOf _ _ (by first | omega | (simp; done) | (simp; omega))).mono ?_; rintro e w' ⟨rfl, hb⟩) | (go_at_call 21; refine (impl_MaxVersion _ _ _ (by first | omega | (simp; done) | (simp; omega)) (by first | omega | (simp; done) | (simp; omega))).mono ?_; rintro e w' ⟨rfl, hb⟩) | (go_at_call 28; refine (veWorks_any _).mono ?_; rintro e w' ⟨rfl, hb⟩))
    go_ret
    exact ⟨rfl, (by repeat (first | (with_reducible assumption) | (with_reducible exact Below.refl _ _) | (with_reducible refine bl_next' ?_ (by with_reducible assumption))))⟩
  | true =>
  cases g2 : Sem.idsGood [x] with
  | false =>
    go_enter Try.func9, Try.ntmps9
    go_wp2_with fail
    refine (HG0.out _ H0.out).mono ?_
    rintro e w' ⟨rfl, rfl⟩
    go_wp2_with fail
    refine (HG1.out _ H1.out).mono ?_
    rintro e w' ⟨rfl, rfl⟩
    go_wp2_with fail
    refine (HG2.out _ _ (one_strs _ _)).mono ?_
    rintro e w' ⟨rfl, rfl⟩
    go_wp2_with (first | (go_at_call 19; refine (impl_CompareVersions _ _ _ (by first | omega | (simp; done) | (simp; omega)) (by first | omega | (simp; done) | (simp; omega))).mono ?_; rintro e w' ⟨rfl, hb⟩) | (go_at_call 31; refine (impl_VersionOk _ _ (by first | omega | (simp; done) | (simp; omega))).mono ?_; rintro e w' ⟨rfl, hb⟩) | (go_at_call 17; refine (impl_CanonicalVersion _ _ (by first | omega | (simp; done) | (simp; omega))).mono ?_; rintro e w' ⟨rfl, hb⟩) | (go_at_call 37; refine (impl_MajorOf _ _ (by first | omega | (simp; done) | (simp; omega))).mono ?_; rintro e w' ⟨rfl, hb⟩) | (go_at_call 38; refine (impl_PrereleaseOf _ _ (by first | omega | (simp; done) | (simp; omega))).mono ?_; rintro e w' ⟨rfl, hb⟩) | (go_at_call 39; refine (impl_BuildOf _ _ (by first | omega | (simp; done) | (simp; omega))).mono ?_; rintro e w' ⟨rfl, hb⟩) | (go_at_call 21; refine (impl_MaxVersion _ _ _ (by first | omega | (simp; done) | (simp; omega)) (by first | omega | (simp; done) | (simp; omega))).mono ?_; rintro e w' ⟨rfl, hb⟩) | (go_at_call 28; refine (veWorks_any _).mono ?_; rintro e w' ⟨rfl, hb⟩))
    go_ret
    exact ⟨rfl, by repeat (first | (with_reducible assumption) | (with_reducible exact bl_new _ _) | (with_reducible refine bl_next' ?_ (by with_reducible assumption)))⟩
  | true =>
    have HW0 := Lib.hid (fun w' (h : StrsAt w' v0 xs) => versionWith_any v0 xs w' h (Nat.le_trans (bulk_sum HB0.out) (by omega)))
    have HW1 := Lib.hid (fun w' (h : StrsAt w' v1 ys) => versionWith_any v1 ys w' h (Nat.le_trans (bulk_sum HB1.out) (by omega)))
    have hl0 : (verWith xs).length ≤ 4194320 := ver_len (Nat.le_trans (bulk_sum HB0.out) (by omega))
    have hl1 : (verWith ys).length ≤ 4194320 := ver_len (Nat.le_trans (bulk_sum HB1.out) (by omega))
    have W1 : Hid (Below w.heap.size w (w.alloc (Obj.cells #[str x] 9))) := Lib.hid (bl_new _ _)
    have K0 : Hid (StrsAt (w.alloc (Obj.cells #[str x] 9)) v0 xs) := Lib.hid (H0.out.alloc _)
    have K1 : Hid (StrsAt (w.alloc (Obj.cells #[str x] 9)) v1 ys) := Lib.hid (H1.out.alloc _)
    have hxx : ∀ {zs : List (List UInt8)}, bulkS zs ≤ 1048576 → ((x :: zs).map fun x : List UInt8 => x.length + 1).sum ≤ 4194304 := fun {zs} hz => by
      have h1 : (zs.map fun x : List UInt8 => x.length + 1).sum ≤ 1048575 := bulk_sum hz
      rw [List.map_cons, List.sum_cons]
      omega
    have hsx := hxx HB0.out
    have hsy := hxx HB1.out
    have lx : (verWith (x :: xs)).length ≤ 4194320 := ver_len hsx
    have ly : (verWith (x :: ys)).length ≤ 4194320 := ver_len hsy
    have ln : (verWith []).length ≤ 4194320 := ver_len (by simp)
    have l1 : (verWith [x]).length ≤ 4194320 := ver_len (by simp; omega)
    have HXS : Hid (xs.length ≤ 1048576) := Lib.hid (bulk_len HB0.out)
    have HYS : Hid (ys.length ≤ 1048576) := Lib.hid (bulk_len HB1.out)
    have HWX := Lib.hid (fun v w' (h : StrsAt w' v (x :: xs)) => versionWith_any v (x :: xs) w' h (Nat.le_trans hsx (by omega)))
    have HWY := Lib.hid (fun v w' (h : StrsAt w' v (x :: ys)) => versionWith_any v (x :: ys) w' h (Nat.le_trans hsy (by omega)))
    have HW2 := Lib.hid (fun v w' (h : StrsAt w' v [x]) => versionWith_any v [x] w' h (by simp; omega))
    have HWN := Lib.hid (fun w' => versionWith_any (.slice none 0 0) [] w' (strs_nil w') (by simp))
    have q1 : Sem.compare (verWith [x]) (verWith []) = -1 := by rw [verWith_123, verWith_123, Sem.compare_123 g2 rfl, Sem.ahead_none]
    have q2 : xs ≠ [] → ys ≠ [] → Sem.compare (verWith (x :: xs)) (verWith (x :: ys)) = Sem.compare (verWith xs) (verWith ys) := fun hx hy => by
      rw [verWith_123, verWith_123, verWith_123, verWith_123, Sem.compare_123 (Sem.good_cons g0 g2) (Sem.good_cons g1 g2), Sem.compare_123 g0 g1, Sem.ahead x hx hy]
    have Q2 := Lib.hid q2
    clear hxx hsx hsy HB0 HB1 q2
    obtain ⟨A0, c0, hA0, -⟩ := id K0.out
    obtain ⟨A1, c1, hA1, -⟩ := id K1.out
    subst hA0 hA1
    have hzx : ((xs.length : Int) == 0) = decide (xs = []) := by
      cases xs with
      | nil => rfl
      | cons y r => simp; omega
    have hzy : ((ys.length : Int) == 0) = decide (ys = []) := by
      cases ys with
      | nil => rfl
      | cons y r => simp; omega
    by_cases hE : xs = [] ∨ ys = []
    · have e1 : ((xs.length : Int) == 0 || (ys.length : Int) == 0) = true := by
        rw [hzx, hzy]; rcases hE with h | h <;> simp [h]
      clear Q2 hE HW0 HW1 HWX HWY
      by_cases hz : xs = []
      · have e2 : ((xs.length : Int) == 0) = true := by rw [hzx]; simp [hz]
        clear hzx hzy e1 hz
        go_enter Try.func9, Try.ntmps9
        go_wp2_with fail
        refine (HG0.out _ H0.out).mono ?_
        rintro e w' ⟨rfl, rfl⟩
        go_wp2_with fail
        refine (HG1.out _ H1.out).mono ?_
        rintro e w' ⟨rfl, rfl⟩
        go_wp2_with fail
        refine (HG2.out _ _ (one_strs _ _)).mono ?_
        rintro e w' ⟨rfl, rfl⟩
        generalize w.alloc (Obj.cells #[str x] 9) = wa at *
        clear HG0 HG1 HG2 H0 H1
        go_wp2_with fail
        refine (HW2.out _ _ (one_strs _ _)).mono ?_
        rintro e w' ⟨rfl, rfl⟩
        have HBE : Hid (Below w.heap.size w (wa.alloc (Obj.cells #[str x] 9))) := Lib.hid (bl_alloc W1.out W1.out.size _)
        generalize wa.alloc (Obj.cells #[str x] 9) = wb at *
        generalize verWith [x] = V2 at *
        generalize verWith [] = VN at *
        go_wp2_with (first | (go_at_call 29; refine (HWN.out _).mono ?_; rintro e w' ⟨rfl, rfl⟩) | (first | (go_at_call 19; refine (impl_CompareVersions _ _ _ (by first | omega | (simp; done) | (simp; omega)) (by first | omega | (simp; done) | (simp; omega))).mono ?_; rintro e w' ⟨rfl, hb⟩) | (go_at_call 31; refine (impl_VersionOk _ _ (by first | omega | (simp; done) | (simp; omega))).mono ?_; rintro e w' ⟨rfl, hb⟩) | (go_at_call 17; refine (impl_CanonicalVersion _ _ (by first | omega | (simp; done) | (simp; omega))).mono ?_; rintro e w' ⟨rfl, hb⟩) | (go_at_call 37; refine (impl_MajorOf _ _ (by first | omega | (simp; done) | (simp; omega))).mono ?_; rintro e w' ⟨rfl, hb⟩) | (go_at_call 38; refine (impl_PrereleaseOf _ _ (by first | omega | (simp; done) | (simp; omega))).mono ?_; rintro e w' ⟨rfl, hb⟩) | (go_at_call 39; refine (impl_BuildOf _ _ (by first | omega | (simp; done) | (simp; omega))).mono ?_; rintro e w' ⟨rfl, hb⟩) | (go_at_call 21; refine (impl_MaxVersion _ _ _ (by first | omega | (simp; done) | (simp; omega)) (by first | omega | (simp; done) | (simp; omega))).mono ?_; rintro e w' ⟨rfl, hb⟩) | (go_at_call 28; refine (veWorks_any _).mono ?_; rintro e w' ⟨rfl, hb⟩)))
        go_ret
        exact ⟨rfl, by repeat (first | exact W1.out | exact HBE.out | (with_reducible assumption) | (with_reducible refine bl_next' ?_ (by with_reducible assumption)) | (with_reducible refine bl_drewN ?_ _))⟩
      · have e2 : ((xs.length : Int) == 0) = false := by rw [hzx]; simp [hz]
        have e3 : ((ys.length : Int) == 0) = true := by rw [e2] at e1; simpa using e1
        clear hzx hzy e1 hz
        go_enter Try.func9, Try.ntmps9
        go_wp2_with fail
        refine (HG0.out _ H0.out).mono ?_
        rintro e w' ⟨rfl, rfl⟩
        go_wp2_with fail
        refine (HG1.out _ H1.out).mono ?_
        rintro e w' ⟨rfl, rfl⟩
        go_wp2_with fail
        refine (HG2.out _ _ (one_strs _ _)).mono ?_
        rintro e w' ⟨rfl, rfl⟩
        generalize w.alloc (Obj.cells #[str x] 9) = wa at *
        clear HG0 HG1 HG2 H0 H1
        go_wp2_with fail
        refine (HW2.out _ _ (one_strs _ _)).mono ?_
        rintro e w' ⟨rfl, rfl⟩
        have HBE : Hid (Below w.heap.size w (wa.alloc (Obj.cells #[str x] 9))) := Lib.hid (bl_alloc W1.out W1.out.size _)
        generalize wa.alloc (Obj.cells #[str x] 9) = wb at *
        generalize verWith [x] = V2 at *
        generalize verWith [] = VN at *
        go_wp2_with (first | (go_at_call 29; refine (HWN.out _).mono ?_; rintro e w' ⟨rfl, rfl⟩) | (first | (go_at_call 19; refine (impl_CompareVersions _ _ _ (by first | omega | (simp; done) | (simp; omega)) (by first | omega | (simp; done) | (simp; omega))).mono ?_; rintro e w' ⟨rfl, hb⟩) | (go_at_call 31; refine (impl_VersionOk _ _ (by first | omega | (simp; done) | (simp; omega))).mono ?_; rintro e w' ⟨rfl, hb⟩) | (go_at_call 17; refine (impl_CanonicalVersion _ _ (by first | omega | (simp; done) | (simp; omega))).mono ?_; rintro e w' ⟨rfl, hb⟩) | (go_at_call 37; refine (impl_MajorOf _ _ (by first | omega | (simp; done) | (simp; omega))).mono ?_; rintro e w' ⟨rfl, hb⟩) | (go_at_call 38; refine (impl_PrereleaseOf _ _ (by first | omega | (simp; done) | (simp; omega))).mono ?_; rintro e w' ⟨rfl, hb⟩) | (go_at_call 39; refine (impl_BuildOf _ _ (by first | omega | (simp; done) | (simp; omega))).mono ?_; rintro e w' ⟨rfl, hb⟩) | (go_at_call 21; refine (impl_MaxVersion _ _ _ (by first | omega | (simp; done) | (simp; omega)) (by first | omega | (simp; done) | (simp; omega))).mono ?_; rintro e w' ⟨rfl, hb⟩) | (go_at_call 28; refine (veWorks_any _).mono ?_; rintro e w' ⟨rfl, hb⟩)))
        go_ret
        exact ⟨rfl, by repeat (first | exact W1.out | exact HBE.out | (with_reducible assumption) | (with_reducible refine bl_next' ?_ (by with_reducible assumption)) | (with_reducible refine bl_drewN ?_ _))⟩
    · obtain ⟨hx, hy⟩ := not_or.1 hE
      have q2 := Q2.out hx hy
      have e2 : ((xs.length : Int) == 0) = false := by rw [hzx]; simp [hx]
      have e3 : ((ys.length : Int) == 0) = false := by rw [hzy]; simp [hy]
      clear hzx hzy hx hy hE Q2 q1 HWN HW2
      go_enter Try.func9, Try.ntmps9
      go_wp2_with fail
      refine (HG0.out _ H0.out).mono ?_
      rintro e w' ⟨rfl, rfl⟩
      go_wp2_with fail
      refine (HG1.out _ H1.out).mono ?_
      rintro e w' ⟨rfl, rfl⟩
      go_wp2_with fail
      refine (HG2.out _ _ (one_strs _ _)).mono ?_
      rintro e w' ⟨rfl, rfl⟩
      generalize w.alloc (Obj.cells #[str x] 9) = wa at *
      clear HG0 HG1 HG2 H0 H1
      have HWA := Lib.hid W1.out.size
      go_wp2_with (at_builtin; refine app_strs rfl (.tmp 37) (.tmp 38) rfl wa.heap.size _ [x] rfl (own_one wa x) _ xs rfl (K0.out.alloc _) (by have := HXS.out; simp; omega) (by simp) ?_; intro v' wb hown hgrow)
      have HBB : Hid (Below wa.heap.size wa wb) := Lib.hid ((bl_new wa _).grown hgrow (by simp) (fun g hg => own_base (own_one wa x) g hg))
      have HBW : Hid (Below w.heap.size w wb) := Lib.hid (bl_next' W1.out HBB.out)
      have HM : Hid (StrsAt wb v' (x :: xs)) := Lib.hid (strs_of_own hown)
      have J0 : Hid (StrsAt wb (.slice A0 xs.length c0) xs) := Lib.hid (K0.out.below HBB.out)
      have J1 : Hid (StrsAt wb (.slice A1 ys.length c1) ys) := Lib.hid (K1.out.below HBB.out)
      clear hgrow hown HBB K0 K1
      refine (HWX.out _ _ HM.out).mono ?_
      rintro e w' ⟨rfl, rfl⟩
      go_wp2_with (at_builtin; refine app_strs rfl (.tmp 42) (.tmp 43) rfl wb.heap.size _ [x] rfl (own_one wb x) _ ys rfl (J1.out.alloc _) (by have := HYS.out; simp; omega) (by simp) ?_; intro v2 wc hown hgrow)
      have HBB : Hid (Below wb.heap.size wb wc) := Lib.hid ((bl_new wb _).grown hgrow (by simp) (fun g hg => own_base (own_one wb x) g hg))
      have HBE : Hid (Below w.heap.size w wc) := Lib.hid (bl_next' HBW.out HBB.out)
      have HN : Hid (StrsAt wc v2 (x :: ys)) := Lib.hid (strs_of_own hown)
      have L0 : Hid (StrsAt wc (.slice A0 xs.length c0) xs) := Lib.hid (J0.out.below HBB.out)
      have L1 : Hid (StrsAt wc (.slice A1 ys.length c1) ys) := Lib.hid (J1.out.below HBB.out)
      clear hgrow hown HBB J0 J1 HM
      refine (HWY.out _ _ HN.out).mono ?_
      rintro e w' ⟨rfl, rfl⟩
      generalize verWith (x :: xs) = VX at *
      generalize verWith (x :: ys) = VY at *
      go_wp2_with fail
      refine (impl_CompareVersions VX VY _ (by omega) (by omega)).mono ?_
      rintro e wd ⟨rfl, hb⟩
      have M0 : Hid (StrsAt wd (.slice A0 xs.length c0) xs) := Lib.hid (L0.out.below hb)
      have M1 : Hid (StrsAt wd (.slice A1 ys.length c1) ys) := Lib.hid (L1.out.below hb)
      go_wp2_with fail
      refine (HW0.out _ M0.out).mono ?_
      rintro e w' ⟨rfl, rfl⟩
      go_wp2_with fail
      refine (HW1.out _ M1.out).mono ?_
      rintro e w' ⟨rfl, rfl⟩
      generalize verWith xs = V0 at *
      generalize verWith ys = V1 at *
      generalize hC : Sem.compare V0 V1 = C at *
      go_wp2_with (first | (go_at_call 19; refine (impl_CompareVersions _ _ _ (by first | omega | (simp; done) | (simp; omega)) (by first | omega | (simp; done) | (simp; omega))).mono ?_; rintro e w' ⟨rfl, hb⟩) | (go_at_call 31; refine (impl_VersionOk _ _ (by first | omega | (simp; done) | (simp; omega))).mono ?_; rintro e w' ⟨rfl, hb⟩) | (go_at_call 17; refine (impl_CanonicalVersion _ _ (by first | omega | (simp; done) | (simp; omega))).mono ?_; rintro e w' ⟨rfl, hb⟩) | (go_at_call 37; refine (impl_MajorOf _ _ (by first | omega | (simp; done) | (simp; omega))).mono ?_; rintro e w' ⟨rfl, hb⟩) | (go_at_call 38; refine (impl_PrereleaseOf _ _ (by first | omega | (simp; done) | (simp; omega))).mono ?_; rintro e w' ⟨rfl, hb⟩) | (go_at_call 39; refine (impl_BuildOf _ _ (by first | omega | (simp; done) | (simp; omega))).mono ?_; rintro e w' ⟨rfl, hb⟩) | (go_at_call 21; refine (impl_MaxVersion _ _ _ (by first | omega | (simp; done) | (simp; omega)) (by first | omega | (simp; done) | (simp; omega))).mono ?_; rintro e w' ⟨rfl, hb⟩) | (go_at_call 28; refine (veWorks_any _).mono ?_; rintro e w' ⟨rfl, hb⟩))
      go_ret
      exact ⟨rfl, by repeat (first | exact W1.out | exact HBE.out | (with_reducible assumption) | (with_reducible refine bl_next' ?_ (by with_reducible assumption)) | (with_reducible refine bl_drewN ?_ _))⟩

set_option maxHeartbeats 4000000 in
set_option maxRecDepth 100000 in
theorem walk_FnCompareKinds (v0 : Value) (xs : List (List UInt8)) (v1 : Value) (ys : List (List UInt8)) (s2 : ByteArray) (w : World)
    (h0 : StrsAt w v0 xs) (b0 : bulkS xs ≤ 1048576) (h1 : StrsAt w v1 ys) (b1 : bulkS ys ≤ 1048576) (b2 : s2.size ≤ 1048576) :
    Calls Try.prog 10 #[v0, v1, .string s2] w fun e w' => e = .returned (.bool true) ∧ Below w.heap.size w w' := by
  rw [← len_of] at b2
  rw [str_of]
  generalize s2.data.toList = x at *
  have H0 := Lib.hid h0
  have H1 := Lib.hid h1
  have HG0 := Lib.hid (fun w' (h : StrsAt w' v0 xs) => identifiersGood_any v0 xs w' h (fun x hx => by have := bulk_each b0 x hx; omega))
  have HG1 := Lib.hid (fun w' (h : StrsAt w' v1 ys) => identifiersGood_any v1 ys w' h (fun x hx => by have := bulk_each b1 x hx; omega))
  have HG2 := Lib.hid (fun w' v (h : StrsAt w' v [x]) => identifiersGood_any v [x] w' h (fun y hy => by simp at hy; subst hy; omega))
  have HB0 := Lib.hid b0
  have HB1 := Lib.hid b1
  clear h0 h1 b0 b1
  cases g0 : Sem.idsGood xs with
  | false =>
    go_enter Try.func10, Try.ntmps10
    go_wp2_with fail
    refine (HG0.out _ H0.out).mono ?_
    rintro e w' ⟨rfl, rfl⟩
    go_wp2_with (first | (go_at_call 19; refine (impl_CompareVersions _ _ _ (by first | omega | (simp; done) | (simp; omega)) (by first | omega | (simp; done) | (simp; omega))).mono ?_; rintro e w' ⟨rfl, hb⟩) | (go_at_call 31; refine (impl_VersionOk _ _ (by first | omega | (simp; done) | (simp; omega))).mono ?_; rintro e w' ⟨rfl, hb⟩) | (go_at_call 17; refine (impl_CanonicalVersion _ _ (by first | omega | (simp; done) | (simp; omega))).mono ?_; rintro e w' ⟨rfl, hb⟩) | (go_at_call 37; refine (impl_MajorOf _ _ (by first | omega | (simp; done) | (simp; omega))).mono ?_; rintro e w' ⟨rfl, hb⟩) | (go_at_call 38; refine (impl_PrereleaseOf _ _ (by first | omega | (simp; done) | (simp; omega))).mono ?_; rintro e w' ⟨rfl, hb⟩) | (go_at_call 39; refine (impl_BuildOf _ _ (by first | omega | (simp; done) | (simp; omega))).mono ?_; rintro e w' ⟨rfl, hb⟩) | (go_at_call 21; refine (impl_MaxVersion _ _ _ (by first | omega | (simp; done) | (simp; omega)) (by first | omega | (simp; done) | (simp; omega))).mono ?_; rintro e w' ⟨rfl, hb⟩) | (go_at_call 28; refine (veWorks_any _).mono ?_; rintro e w' ⟨rfl, hb⟩))
    go_ret
    exact ⟨rfl, (by repeat (first | (with_reducible assumption) | (with_reducible exact Below.refl _ _) | (with_reducible refine bl_next' ?_ (by with_reducible assumption))))⟩
  | true =>
  cases g1 : Sem.idsGood ys with
  | false =>
    go_enter Try.func10, Try.ntmps10
    go_wp2_with fail
    refine (HG0.out _ H0.out).mono ?_
    rintro e w' ⟨rfl, rfl⟩
    go_wp2_with fail
    refine (HG1.out _ H1.out).mono ?_
    rintro e w' ⟨rfl, rfl⟩
    go_wp2_with (first | (go_at_call 19; refine (impl_CompareVersions _ _ _ (by first | omega | (simp; done) | (simp; omega)) (by first | omega | (simp; done) | (simp; omega))).mono ?_; rintro e w' ⟨rfl, hb⟩) | (go_at_call 31; refine (impl_VersionOk _ _ (by first | omega | (simp; done) | (simp; omega))).mono ?_; rintro e w' ⟨rfl, hb⟩) | (go_at_call 17; refine (impl_CanonicalVersion _ _ (by first | omega | (simp; done) | (simp; omega))).mono ?_; rintro e w' ⟨rfl, hb⟩) | (go_at_call 37; refine (impl_MajorOf _ _ (by first | omega | (simp; done) | (simp; omega))).mono ?_; rintro e w' ⟨rfl, hb⟩) | (go_at_call 38; refine (impl_PrereleaseOf _ _ (by first | omega | (simp; done) | (simp; omega))).mono ?_; rintro e w' ⟨rfl, hb⟩) | (go_at_call 39; refine (impl_BuildOf _ _ (by first | omega | (simp; done) | (simp; omega))).mono ?_; rintro e w' ⟨rfl, hb⟩) | (go_at_call 21; refine (impl_MaxVersion _ _ _ (by first | omega | (simp; done) | (simp; omega)) (by first | omega | (simp; done) | (simp; omega))).mono ?_; rintro e w' ⟨rfl, hb⟩) | (go_at_call 28; refine (veWorks_any _).mono ?_; rintro e w' ⟨rfl, hb⟩))
    go_ret
    exact ⟨rfl, (by repeat (first | (with_reducible assumption) | (with_reducible exact Below.refl _ _) | (with_reducible refine bl_next' ?_ (by with_reducible assumption))))⟩
  | true =>
  cases g2 : Sem.idsGood [x] with
  | false =>
    go_enter Try.func10, Try.ntmps10
    go_wp2_with fail
    refine (HG0.out _ H0.out).mono ?_
    rintro e w' ⟨rfl, rfl⟩
    go_wp2_with fail
    refine (HG1.out _ H1.out).mono ?_
    rintro e w' ⟨rfl, rfl⟩
    go_wp2_with fail
    refine (HG2.out _ _ (one_strs _ _)).mono ?_
    rintro e w' ⟨rfl, rfl⟩
    go_wp2_with (first | (go_at_call 19; refine (impl_CompareVersions _ _ _ (by first | omega | (simp; done) | (simp; omega)) (by first | omega | (simp; done) | (simp; omega))).mono ?_; rintro e w' ⟨rfl, hb⟩) | (go_at_call 31; refine (impl_VersionOk _ _ (by first | omega | (simp; done) | (simp; omega))).mono ?_; rintro e w' ⟨rfl, hb⟩) | (go_at_call 17; refine (impl_CanonicalVersion _ _ (by first | omega | (simp; done) | (simp; omega))).mono ?_; rintro e w' ⟨rfl, hb⟩) | (go_at_call 37; refine (impl_MajorOf _ _ (by first | omega | (simp; done) | (simp; omega))).mono ?_; rintro e w' ⟨rfl, hb⟩) | (go_at_call 38; refine (impl_PrereleaseOf _ _ (by first | omega | (simp; done) | (simp; omega))).mono ?_; rintro e w' ⟨rfl, hb⟩) | (go_at_call 39; refine (impl_BuildOf _ _ (by first | omega | (simp; done) | (simp; omega))).mono ?_; rintro e w' ⟨rfl, hb⟩) | (go_at_call 21; refine (impl_MaxVersion _ _ _ (by first | omega | (simp; done) | (simp; omega)) (by first | omega | (simp; done) | (simp; omega))).mono ?_; rintro e w' ⟨rfl, hb⟩) | (go_at_call 28; refine (veWorks_any _).mono ?_; rintro e w' ⟨rfl, hb⟩))
    go_ret
    exact ⟨rfl, by repeat (first | (with_reducible assumption) | (with_reducible exact bl_new _ _) | (with_reducible refine bl_next' ?_ (by with_reducible assumption)))⟩
  | true =>
    have HW0 := Lib.hid (fun w' (h : StrsAt w' v0 xs) => versionWith_any v0 xs w' h (Nat.le_trans (bulk_sum HB0.out) (by omega)))
    have HW1 := Lib.hid (fun w' (h : StrsAt w' v1 ys) => versionWith_any v1 ys w' h (Nat.le_trans (bulk_sum HB1.out) (by omega)))
    have hl0 : (verWith xs).length ≤ 4194320 := ver_len (Nat.le_trans (bulk_sum HB0.out) (by omega))
    have hl1 : (verWith ys).length ≤ 4194320 := ver_len (Nat.le_trans (bulk_sum HB1.out) (by omega))
    have W1 : Hid (Below w.heap.size w (w.alloc (Obj.cells #[str x] 9))) := Lib.hid (bl_new _ _)
    have K0 : Hid (StrsAt (w.alloc (Obj.cells #[str x] 9)) v0 xs) := Lib.hid (H0.out.alloc _)
    have K1 : Hid (StrsAt (w.alloc (Obj.cells #[str x] 9)) v1 ys) := Lib.hid (H1.out.alloc _)
    have HXS : Hid (xs.length ≤ 1048576) := Lib.hid (bulk_len HB0.out)
    have HYS : Hid (ys.length ≤ 1048576) := Lib.hid (bulk_len HB1.out)
    have hq : Sem.idsGood [45 :: x] = true := Sem.hyphen_good g2
    have hsy : (((45 :: x) :: ys).map fun x : List UInt8 => x.length + 1).sum ≤ 4194304 := by
      have h1 : (ys.map fun x : List UInt8 => x.length + 1).sum ≤ 1048575 := bulk_sum HB1.out
      rw [List.map_cons, List.sum_cons]
      simp; omega
    have ly : (verWith ((45 :: x) :: ys)).length ≤ 4194320 := ver_len hsy
    have HWY := Lib.hid (fun v w' (h : StrsAt w' v ((45 :: x) :: ys)) => versionWith_any v ((45 :: x) :: ys) w' h (Nat.le_trans hsy (by omega)))
    have HWX := Lib.hid (fun (n : List UInt8) (_ : n.length ≤ 100) v w' (h : StrsAt w' v (n :: xs)) => versionWith_any v (n :: xs) w' h (by
      have h1 : (xs.map fun x : List UInt8 => x.length + 1).sum ≤ 1048575 := bulk_sum HB0.out
      rw [List.map_cons, List.sum_cons]
      omega))
    have HLX := Lib.hid (fun (n : List UInt8) (_ : n.length ≤ 100) => ver_len (xs := n :: xs) (by
      have h1 : (xs.map fun x : List UInt8 => x.length + 1).sum ≤ 1048575 := bulk_sum HB0.out
      rw [List.map_cons, List.sum_cons]
      omega))
    have HQ1 := Lib.hid (fun (n : List UInt8) (hn : Sem.isNum n = true) (hg : Sem.idsGood [n] = true) => show Sem.compare (verWith (n :: xs)) (verWith ((45 :: x) :: ys)) = -1 by
      rw [verWith_123, verWith_123, Sem.compare_123 (Sem.good_cons g0 hg) (Sem.good_cons g1 hq), Sem.kinds hn])
    have HQ2 := Lib.hid (fun (n : List UInt8) (hn : Sem.isNum n = true) (hg : Sem.idsGood [n] = true) => show Sem.compare (verWith ((45 :: x) :: ys)) (verWith (n :: xs)) = 1 by
      rw [verWith_123, verWith_123, Sem.compare_123 (Sem.good_cons g1 hq) (Sem.good_cons g0 hg), Sem.kinds' hn])
    clear hsy hq HB0 HB1
    obtain ⟨A0, c0, hA0, -⟩ := id K0.out
    obtain ⟨A1, c1, hA1, -⟩ := id K1.out
    subst hA0 hA1
    have hm : xs.length % 3 = 0 ∨ xs.length % 3 = 1 ∨ xs.length % 3 = 2 := by omega
    rcases hm with hm | hm | hm
    · have r1 : (xs.length : Int) % 3 = 0 := by omega
      have r2 : (xs.length : Int).tmod 3 = 0 := by rw [Int.tmod_eq_emod_of_nonneg (by omega)]; omega
      have q1 := HQ1.out [48] (by decide) (by decide)
      have q2 := HQ2.out [48] (by decide) (by decide)
      have lx := HLX.out [48] (by decide)
      clear hm HQ1 HQ2 HLX
      go_enter Try.func10, Try.ntmps10
      go_wp2_with fail
      refine (HG0.out _ H0.out).mono ?_
      rintro e w' ⟨rfl, rfl⟩
      go_wp2_with fail
      refine (HG1.out _ H1.out).mono ?_
      rintro e w' ⟨rfl, rfl⟩
      go_wp2_with fail
      refine (HG2.out _ _ (one_strs _ _)).mono ?_
      rintro e w' ⟨rfl, rfl⟩
      generalize w.alloc (Obj.cells #[str x] 9) = wa at *
      clear HG0 HG1 HG2 H0 H1
      have HWA := Lib.hid W1.out.size
      go_wp2_with (first
        | (at_builtin; refine app_strs rfl (.tmp 32) (.tmp 33) rfl (wa.heap.size + 1) _ [[48]] rfl (own_one' wa _ [48]) _ xs rfl ((K0.out.alloc _).alloc _) (by have := HXS.out; simp; omega) (by simp) ?_; intro v' wb hown hgrow)
        | (at_builtin; refine app_strs rfl (.tmp 37) (.tmp 38) rfl wb.heap.size _ [45 :: x] rfl (own_one wb (45 :: x)) _ ys rfl ((K1.out.below (((bl_new wa _).alloc (by simp) _).grown hgrow (by simp; omega) (fun g hg => by have : wa.heap.size + 1 = g := Option.some.inj hg; omega))).alloc _) (by have := HYS.out; simp; omega) (by simp) ?_; intro v2 wc hown2 hgrow2))
      have HB1 : Hid (Below wa.heap.size wa wb) := Lib.hid (((bl_new wa _).alloc (by simp) _).grown hgrow (by simp; omega) (fun g hg => by have : wa.heap.size + 1 = g := Option.some.inj hg; omega))
      have HB2 : Hid (Below wb.heap.size wb wc) := Lib.hid ((bl_new wb _).grown hgrow2 (by simp) (fun g hg => own_base (own_one wb (45 :: x)) g hg))
      have HBE : Hid (Below w.heap.size w wc) := Lib.hid (bl_next' (bl_next' W1.out HB1.out) HB2.out)
      have HM : Hid (StrsAt wc v' ([48] :: xs)) := Lib.hid ((strs_of_own hown).below HB2.out)
      have HN : Hid (StrsAt wc v2 ((45 :: x) :: ys)) := Lib.hid (strs_of_own hown2)
      clear hgrow hgrow2 hown hown2 HB1 HB2 K0 K1
      refine (HWX.out [48] (by decide) _ _ HM.out).mono ?_
      rintro e w' ⟨rfl, rfl⟩
      go_wp2_with fail
      refine (HWY.out _ _ HN.out).mono ?_
      rintro e w' ⟨rfl, rfl⟩
      generalize hVX : verWith ([48] :: xs) = VX at *
      generalize hVY : verWith ((45 :: x) :: ys) = VY at *
      go_wp2_with fail
      refine (impl_CompareVersions VX VY _ (by omega) (by omega)).mono ?_
      rintro e wd ⟨rfl, hb⟩
      have M0 : Hid (StrsAt wd v' ([48] :: xs)) := Lib.hid (HM.out.below hb)
      have M1 : Hid (StrsAt wd v2 ((45 :: x) :: ys)) := Lib.hid (HN.out.below hb)
      go_wp2_with fail
      refine (HWY.out _ _ M1.out).mono ?_
      rintro e w' ⟨rfl, rfl⟩
      go_wp2_with fail
      refine (HWX.out [48] (by decide) _ _ M0.out).mono ?_
      rintro e w' ⟨rfl, rfl⟩
      go_wp2_with (first | (go_at_call 19; refine (impl_CompareVersions _ _ _ (by first | omega | (simp; done) | (simp; omega)) (by first | omega | (simp; done) | (simp; omega))).mono ?_; rintro e w' ⟨rfl, hb⟩) | (go_at_call 31; refine (impl_VersionOk _ _ (by first | omega | (simp; done) | (simp; omega))).mono ?_; rintro e w' ⟨rfl, hb⟩) | (go_at_call 17; refine (impl_CanonicalVersion _ _ (by first | omega | (simp; done) | (simp; omega))).mono ?_; rintro e w' ⟨rfl, hb⟩) | (go_at_call 37; refine (impl_MajorOf _ _ (by first | omega | (simp; done) | (simp; omega))).mono ?_; rintro e w' ⟨rfl, hb⟩) | (go_at_call 38; refine (impl_PrereleaseOf _ _ (by first | omega | (simp; done) | (simp; omega))).mono ?_; rintro e w' ⟨rfl, hb⟩) | (go_at_call 39; refine (impl_BuildOf _ _ (by first | omega | (simp; done) | (simp; omega))).mono ?_; rintro e w' ⟨rfl, hb⟩) | (go_at_call 21; refine (impl_MaxVersion _ _ _ (by first | omega | (simp; done) | (simp; omega)) (by first | omega | (simp; done) | (simp; omega))).mono ?_; rintro e w' ⟨rfl, hb⟩) | (go_at_call 28; refine (veWorks_any _).mono ?_; rintro e w' ⟨rfl, hb⟩))
      go_ret
      exact ⟨rfl, by repeat (first | exact W1.out | exact HBE.out | (with_reducible assumption) | (with_reducible refine bl_next' ?_ (by with_reducible assumption)) | (with_reducible refine bl_drewN ?_ _))⟩
    · have r1 : (xs.length : Int) % 3 = 1 := by omega
      have r2 : (xs.length : Int).tmod 3 = 1 := by rw [Int.tmod_eq_emod_of_nonneg (by omega)]; omega
      have q1 := HQ1.out [55] (by decide) (by decide)
      have q2 := HQ2.out [55] (by decide) (by decide)
      have lx := HLX.out [55] (by decide)
      clear hm HQ1 HQ2 HLX
      go_enter Try.func10, Try.ntmps10
      go_wp2_with fail
      refine (HG0.out _ H0.out).mono ?_
      rintro e w' ⟨rfl, rfl⟩
      go_wp2_with fail
      refine (HG1.out _ H1.out).mono ?_
      rintro e w' ⟨rfl, rfl⟩
      go_wp2_with fail
      refine (HG2.out _ _ (one_strs _ _)).mono ?_
      rintro e w' ⟨rfl, rfl⟩
      generalize w.alloc (Obj.cells #[str x] 9) = wa at *
      clear HG0 HG1 HG2 H0 H1
      have HWA := Lib.hid W1.out.size
      go_wp2_with (first
        | (at_builtin; refine app_strs rfl (.tmp 32) (.tmp 33) rfl (wa.heap.size + 1) _ [[55]] rfl (own_one' wa _ [55]) _ xs rfl ((K0.out.alloc _).alloc _) (by have := HXS.out; simp; omega) (by simp) ?_; intro v' wb hown hgrow)
        | (at_builtin; refine app_strs rfl (.tmp 37) (.tmp 38) rfl wb.heap.size _ [45 :: x] rfl (own_one wb (45 :: x)) _ ys rfl ((K1.out.below (((bl_new wa _).alloc (by simp) _).grown hgrow (by simp; omega) (fun g hg => by have : wa.heap.size + 1 = g := Option.some.inj hg; omega))).alloc _) (by have := HYS.out; simp; omega) (by simp) ?_; intro v2 wc hown2 hgrow2))
      have HB1 : Hid (Below wa.heap.size wa wb) := Lib.hid (((bl_new wa _).alloc (by simp) _).grown hgrow (by simp; omega) (fun g hg => by have : wa.heap.size + 1 = g := Option.some.inj hg; omega))
      have HB2 : Hid (Below wb.heap.size wb wc) := Lib.hid ((bl_new wb _).grown hgrow2 (by simp) (fun g hg => own_base (own_one wb (45 :: x)) g hg))
      have HBE : Hid (Below w.heap.size w wc) := Lib.hid (bl_next' (bl_next' W1.out HB1.out) HB2.out)
      have HM : Hid (StrsAt wc v' ([55] :: xs)) := Lib.hid ((strs_of_own hown).below HB2.out)
      have HN : Hid (StrsAt wc v2 ((45 :: x) :: ys)) := Lib.hid (strs_of_own hown2)
      clear hgrow hgrow2 hown hown2 HB1 HB2 K0 K1
      refine (HWX.out [55] (by decide) _ _ HM.out).mono ?_
      rintro e w' ⟨rfl, rfl⟩
      go_wp2_with fail
      refine (HWY.out _ _ HN.out).mono ?_
      rintro e w' ⟨rfl, rfl⟩
      generalize hVX : verWith ([55] :: xs) = VX at *
      generalize hVY : verWith ((45 :: x) :: ys) = VY at *
      go_wp2_with fail
      refine (impl_CompareVersions VX VY _ (by omega) (by omega)).mono ?_
      rintro e wd ⟨rfl, hb⟩
      have M0 : Hid (StrsAt wd v' ([55] :: xs)) := Lib.hid (HM.out.below hb)
      have M1 : Hid (StrsAt wd v2 ((45 :: x) :: ys)) := Lib.hid (HN.out.below hb)
      go_wp2_with fail
      refine (HWY.out _ _ M1.out).mono ?_
      rintro e w' ⟨rfl, rfl⟩
      go_wp2_with fail
      refine (HWX.out [55] (by decide) _ _ M0.out).mono ?_
      rintro e w' ⟨rfl, rfl⟩
      go_wp2_with (first | (go_at_call 19; refine (impl_CompareVersions _ _ _ (by first | omega | (simp; done) | (simp; omega)) (by first | omega | (simp; done) | (simp; omega))).mono ?_; rintro e w' ⟨rfl, hb⟩) | (go_at_call 31; refine (impl_VersionOk _ _ (by first | omega | (simp; done) | (simp; omega))).mono ?_; rintro e w' ⟨rfl, hb⟩) | (go_at_call 17; refine (impl_CanonicalVersion _ _ (by first | omega | (simp; done) | (simp; omega))).mono ?_; rintro e w' ⟨rfl, hb⟩) | (go_at_call 37; refine (impl_MajorOf _ _ (by first | omega | (simp; done) | (simp; omega))).mono ?_; rintro e w' ⟨rfl, hb⟩) | (go_at_call 38; refine (impl_PrereleaseOf _ _ (by first | omega | (simp; done) | (simp; omega))).mono ?_; rintro e w' ⟨rfl, hb⟩) | (go_at_call 39; refine (impl_BuildOf _ _ (by first | omega | (simp; done) | (simp; omega))).mono ?_; rintro e w' ⟨rfl, hb⟩) | (go_at_call 21; refine (impl_MaxVersion _ _ _ (by first | omega | (simp; done) | (simp; omega)) (by first | omega | (simp; done) | (simp; omega))).mono ?_; rintro e w' ⟨rfl, hb⟩) | (go_at_call 28; refine (veWorks_any _).mono ?_; rintro e w' ⟨rfl, hb⟩))
      go_ret
      exact ⟨rfl, by repeat (first | exact W1.out | exact HBE.out | (with_reducible assumption) | (with_reducible refine bl_next' ?_ (by with_reducible assumption)) | (with_reducible refine bl_drewN ?_ _))⟩
    · have r1 : (xs.length : Int) % 3 = 2 := by omega
      have r2 : (xs.length : Int).tmod 3 = 2 := by rw [Int.tmod_eq_emod_of_nonneg (by omega)]; omega
      have q1 := HQ1.out [49, 56, 52, 52, 54, 55, 52, 52, 48, 55, 51, 55, 48, 57, 53, 53, 49, 54, 49, 54] (by decide) (by decide)
      have q2 := HQ2.out [49, 56, 52, 52, 54, 55, 52, 52, 48, 55, 51, 55, 48, 57, 53, 53, 49, 54, 49, 54] (by decide) (by decide)
      have lx := HLX.out [49, 56, 52, 52, 54, 55, 52, 52, 48, 55, 51, 55, 48, 57, 53, 53, 49, 54, 49, 54] (by decide)
      clear hm HQ1 HQ2 HLX
      go_enter Try.func10, Try.ntmps10
      go_wp2_with fail
      refine (HG0.out _ H0.out).mono ?_
      rintro e w' ⟨rfl, rfl⟩
      go_wp2_with fail
      refine (HG1.out _ H1.out).mono ?_
      rintro e w' ⟨rfl, rfl⟩
      go_wp2_with fail
      refine (HG2.out _ _ (one_strs _ _)).mono ?_
      rintro e w' ⟨rfl, rfl⟩
      generalize w.alloc (Obj.cells #[str x] 9) = wa at *
      clear HG0 HG1 HG2 H0 H1
      have HWA := Lib.hid W1.out.size
      go_wp2_with (first
        | (at_builtin; refine app_strs rfl (.tmp 32) (.tmp 33) rfl (wa.heap.size + 1) _ [[49, 56, 52, 52, 54, 55, 52, 52, 48, 55, 51, 55, 48, 57, 53, 53, 49, 54, 49, 54]] rfl (own_one' wa _ [49, 56, 52, 52, 54, 55, 52, 52, 48, 55, 51, 55, 48, 57, 53, 53, 49, 54, 49, 54]) _ xs rfl ((K0.out.alloc _).alloc _) (by have := HXS.out; simp; omega) (by simp) ?_; intro v' wb hown hgrow)
        | (at_builtin; refine app_strs rfl (.tmp 37) (.tmp 38) rfl wb.heap.size _ [45 :: x] rfl (own_one wb (45 :: x)) _ ys rfl ((K1.out.below (((bl_new wa _).alloc (by simp) _).grown hgrow (by simp; omega) (fun g hg => by have : wa.heap.size + 1 = g := Option.some.inj hg; omega))).alloc _) (by have := HYS.out; simp; omega) (by simp) ?_; intro v2 wc hown2 hgrow2))
      have HB1 : Hid (Below wa.heap.size wa wb) := Lib.hid (((bl_new wa _).alloc (by simp) _).grown hgrow (by simp; omega) (fun g hg => by have : wa.heap.size + 1 = g := Option.some.inj hg; omega))
      have HB2 : Hid (Below wb.heap.size wb wc) := Lib.hid ((bl_new wb _).grown hgrow2 (by simp) (fun g hg => own_base (own_one wb (45 :: x)) g hg))
      have HBE : Hid (Below w.heap.size w wc) := Lib.hid (bl_next' (bl_next' W1.out HB1.out) HB2.out)
      have HM : Hid (StrsAt wc v' ([49, 56, 52, 52, 54, 55, 52, 52, 48, 55, 51, 55, 48, 57, 53, 53, 49, 54, 49, 54] :: xs)) := Lib.hid ((strs_of_own hown).below HB2.out)
      have HN : Hid (StrsAt wc v2 ((45 :: x) :: ys)) := Lib.hid (strs_of_own hown2)
      clear hgrow hgrow2 hown hown2 HB1 HB2 K0 K1
      refine (HWX.out [49, 56, 52, 52, 54, 55, 52, 52, 48, 55, 51, 55, 48, 57, 53, 53, 49, 54, 49, 54] (by decide) _ _ HM.out).mono ?_
      rintro e w' ⟨rfl, rfl⟩
      go_wp2_with fail
      refine (HWY.out _ _ HN.out).mono ?_
      rintro e w' ⟨rfl, rfl⟩
      generalize hVX : verWith ([49, 56, 52, 52, 54, 55, 52, 52, 48, 55, 51, 55, 48, 57, 53, 53, 49, 54, 49, 54] :: xs) = VX at *
      generalize hVY : verWith ((45 :: x) :: ys) = VY at *
      go_wp2_with fail
      refine (impl_CompareVersions VX VY _ (by omega) (by omega)).mono ?_
      rintro e wd ⟨rfl, hb⟩
      have M0 : Hid (StrsAt wd v' ([49, 56, 52, 52, 54, 55, 52, 52, 48, 55, 51, 55, 48, 57, 53, 53, 49, 54, 49, 54] :: xs)) := Lib.hid (HM.out.below hb)
      have M1 : Hid (StrsAt wd v2 ((45 :: x) :: ys)) := Lib.hid (HN.out.below hb)
      go_wp2_with fail
      refine (HWY.out _ _ M1.out).mono ?_
      rintro e w' ⟨rfl, rfl⟩
      go_wp2_with fail
      refine (HWX.out [49, 56, 52, 52, 54, 55, 52, 52, 48, 55, 51, 55, 48, 57, 53, 53, 49, 54, 49, 54] (by decide) _ _ M0.out).mono ?_
      rintro e w' ⟨rfl, rfl⟩
      go_wp2_with (first | (go_at_call 19; refine (impl_CompareVersions _ _ _ (by first | omega | (simp; done) | (simp; omega)) (by first | omega | (simp; done) | (simp; omega))).mono ?_; rintro e w' ⟨rfl, hb⟩) | (go_at_call 31; refine (impl_VersionOk _ _ (by first | omega | (simp; done) | (simp; omega))).mono ?_; rintro e w' ⟨rfl, hb⟩) | (go_at_call 17; refine (impl_CanonicalVersion _ _ (by first | omega | (simp; done) | (simp; omega))).mono ?_; rintro e w' ⟨rfl, hb⟩) | (go_at_call 37; refine (impl_MajorOf _ _ (by first | omega | (simp; done) | (simp; omega))).mono ?_; rintro e w' ⟨rfl, hb⟩) | (go_at_call 38; refine (impl_PrereleaseOf _ _ (by first | omega | (simp; done) | (simp; omega))).mono ?_; rintro e w' ⟨rfl, hb⟩) | (go_at_call 39; refine (impl_BuildOf _ _ (by first | omega | (simp; done) | (simp; omega))).mono ?_; rintro e w' ⟨rfl, hb⟩) | (go_at_call 21; refine (impl_MaxVersion _ _ _ (by first | omega | (simp; done) | (simp; omega)) (by first | omega | (simp; done) | (simp; omega))).mono ?_; rintro e w' ⟨rfl, hb⟩) | (go_at_call 28; refine (veWorks_any _).mono ?_; rintro e w' ⟨rfl, hb⟩))
      go_ret
      exact ⟨rfl, by repeat (first | exact W1.out | exact HBE.out | (with_reducible assumption) | (with_reducible refine bl_next' ?_ (by with_reducible assumption)) | (with_reducible refine bl_drewN ?_ _))⟩

end Go.Proofs.Ytpcmdgmbacokfaa
