/- Contracts of LessVersion (the reference's and the thin package's), and the walks of FnExactLessVersion and FnLessOrder. -/
import Derived.Test.YtpcmdgmbacokfaaSpec13
namespace Go.Proofs.Ytpcmdgmbacokfaa
open Go.RowKit Go.ChangeShapes Go.WideShapes
attribute [local go_sem] app_str

set_option maxHeartbeats 2000000 in
theorem spec_LessVersion (v : Value) (xs : List (List UInt8)) (i k : Int) (w : World) (h : StrsAt w v xs) (hl : ∀ x ∈ xs, x.length ≤ 1048576) (hn : xs.length ≤ 1048576) :
    Calls Try.prog 23 #[v, .int .i64 i, .int .i64 k] w fun e w' => e = .returned (.bool (lessAt xs i k)) ∧ Below w.heap.size w w' := by
  obtain ⟨A, c, rfl, hc, hm, h⟩ := h
  rcases h with h | ⟨b, off, rfl, hlt, hcell⟩
  · subst h
    go_enter Try.func23, Try.ntmps23
    go_wp2
    go_ret
    exact ⟨rfl, Below.refl _ _⟩
  · by_cases hne : xs = []
    · subst hne
      go_enter Try.func23, Try.ntmps23
      go_wp2
      go_ret
      exact ⟨rfl, Below.refl _ _⟩
    · obtain ⟨p, hp, ei⟩ := mod_at xs hne i
      obtain ⟨q, hq, ek⟩ := mod_at xs hne k
      have h0 : 0 < (xs.length : Int) := by omega
      have hq0 : ((xs.length : Int) == 0) = false := by rw [beq_eq_false_iff_ne]; omega
      have HF := Lib.hid (lessAt_eq hp hq ei ek)
      have hx := hcell p xs[p] (List.getElem?_eq_getElem hp)
      have hy := hcell q xs[q] (List.getElem?_eq_getElem hq)
      have hxl := hl xs[p] (List.getElem_mem hp)
      have hyl := hl xs[q] (List.getElem_mem hq)
      have hlo := Int.lt_tmod_of_pos i h0
      have hhi := Int.tmod_lt_of_pos i h0
      have hlo' := Int.lt_tmod_of_pos k h0
      have hhi' := Int.tmod_lt_of_pos k h0
      have m1 : (i.tmod xs.length + xs.length) % (xs.length : Int) = p := by rw [at_plain i _ h0, ei]
      have m2 : (k.tmod xs.length + xs.length) % (xs.length : Int) = q := by rw [at_plain k _ h0, ek]
      have m3 : (i.tmod xs.length + xs.length).tmod (xs.length : Int) = p := by rw [at_plain' i _ h0, ei]
      have m4 : (k.tmod xs.length + xs.length).tmod (xs.length : Int) = q := by rw [at_plain' k _ h0, ek]
      have m5 : (i.tmod xs.length) % (xs.length : Int) = p := by rw [← m1, Int.add_emod_right]
      have m6 : (k.tmod xs.length) % (xs.length : Int) = q := by rw [← m2, Int.add_emod_right]
      clear hcell hl hne
      generalize xs[p] = x at *
      generalize xs[q] = y at *
      have hsw := lin_version.swap x y
      have HS : Hid ((!decide (Sem.cmpVersion y x ≤ 0)) = decide (Sem.cmpVersion x y < 0)) := Lib.hid (by
        rw [hsw]
        by_cases hz : Sem.cmpVersion x y < 0
        · rw [decide_eq_true hz, decide_eq_false (by omega)]; rfl
        · rw [decide_eq_false hz, decide_eq_true (by omega)]; rfl)
      clear hsw
      generalize hN : xs.length = n at *
      clear hN
      have hn0 : ¬ n = 0 := by omega
      have wi : IntKind.i64.wrap (i.tmod n + n) = i.tmod n + n := by simp [IntKind.wrap, IntKind.signed, IntKind.bits]; omega
      have wk : IntKind.i64.wrap (k.tmod n + n) = k.tmod n + n := by simp [IntKind.wrap, IntKind.signed, IntKind.bits]; omega
      go_enter Try.func23, Try.ntmps23
      go_wp2_with fail
      go_region_with (go_at_call 48; refine (spec_InOrder y x _ hyl hxl).mono ?_; rintro e w1 ⟨rfl, hb⟩)
      all_goals
        go_wp2
        go_ret
        exact ⟨ret_bool (by rw [HF.out, ← HS.out]), bl_next' (bl_drew (Below.refl _ _)) hb⟩

set_option maxHeartbeats 2000000 in
theorem impl_LessVersion (v : Value) (xs : List (List UInt8)) (i k : Int) (w : World) (h : StrsAt w v xs) (hl : ∀ x ∈ xs, x.length ≤ 1125899906842624) (hn : xs.length ≤ 1125899906842624) :
    Calls Try.prog 25 #[v, .int .i64 i, .int .i64 k] w fun e w' => e = .returned (.bool (lessAt xs i k)) ∧ Below w.heap.size w w' := by
  have h' := h
  obtain ⟨A, c, rfl, hc, hm, h⟩ := h
  by_cases hne : xs = []
  · subst hne
    go_enter Try.func25, Try.ntmps25
    go_wp2
    go_ret
    exact ⟨rfl, Below.refl _ _⟩
  · obtain ⟨p, hp, ei⟩ := mod_at xs hne i
    obtain ⟨q, hq, ek⟩ := mod_at xs hne k
    have h0 : 0 < (xs.length : Int) := by omega
    have hq0 : ((xs.length : Int) == 0) = false := by rw [beq_eq_false_iff_ne]; omega
    have HF := Lib.hid (lessAt_eq hp hq ei ek)
    have HL := Lib.hid (fun w' (hw : StrsAt w' (.slice A xs.length c) xs) => less_any _ xs p q w' hw hl hp hq)
    have H' := Lib.hid h'
    have hlo := Int.lt_tmod_of_pos i h0
    have hhi := Int.tmod_lt_of_pos i h0
    have hlo' := Int.lt_tmod_of_pos k h0
    have hhi' := Int.tmod_lt_of_pos k h0
    have m1 : (i.tmod xs.length + xs.length) % (xs.length : Int) = p := by rw [at_plain i _ h0, ei]
    have m2 : (k.tmod xs.length + xs.length) % (xs.length : Int) = q := by rw [at_plain k _ h0, ek]
    have m3 : (i.tmod xs.length + xs.length).tmod (xs.length : Int) = p := by rw [at_plain' i _ h0, ei]
    have m4 : (k.tmod xs.length + xs.length).tmod (xs.length : Int) = q := by rw [at_plain' k _ h0, ek]
    have m5 : (i.tmod xs.length) % (xs.length : Int) = p := by rw [← m1, Int.add_emod_right]
    have m6 : (k.tmod xs.length) % (xs.length : Int) = q := by rw [← m2, Int.add_emod_right]
    clear hl hne h h'
    generalize xs[p] = x at *
    generalize xs[q] = y at *
    generalize hN : xs.length = n at *
    clear hN
    have hn0 : ¬ n = 0 := by omega
    have wi : IntKind.i64.wrap (i.tmod n + n) = i.tmod n + n := by simp [IntKind.wrap, IntKind.signed, IntKind.bits]; omega
    have wk : IntKind.i64.wrap (k.tmod n + n) = k.tmod n + n := by simp [IntKind.wrap, IntKind.signed, IntKind.bits]; omega
    go_enter Try.func25, Try.ntmps25
    go_wp2_with fail
    go_region_with (go_at_call 49; refine (HL.out _ H'.out.drew).mono ?_; rintro e w1 ⟨rfl, hb⟩)
    all_goals
      go_wp2
      go_ret
      exact ⟨ret_bool HF.out.symm, bl_next' (bl_drew (Below.refl _ _)) hb⟩

theorem at_any (i n : Int) (w : World) (h0 : 0 < n) (h1 : n ≤ 1152921504606846976) :
    Calls Try.prog 34 #[.int .i64 i, .int .i64 n] w fun e w' => e = .returned (.int .i64 (i % n)) ∧ w = w' := by
  have hlo := Int.lt_tmod_of_pos i h0
  have hhi := Int.tmod_lt_of_pos i h0
  have HP := Lib.hid (at_plain i n h0)
  go_enter Try.func34, Try.ntmps34
  go_wp2
  go_ret
  exact ⟨ret_i64 HP.out, rfl⟩

theorem opened_strings2 {H : Type} {enc : TypeId × Value → H} {W : World} {base : Nat} {v : Value} {d : DataW H} {ps : List MemPlace}
    (hok : Value.okWide Try.prog W .any base 27 v) (h : DataW.Trod enc Try.prog W 0 (fun _ => true) true 27 v d ps) :
    ∃ xs : List (List UInt8), StrsAt W v xs ∧ bulkS xs ≤ Rows.uptoBulk d ∧ ((∀ n ∈ d.weights Try.prog 27, n ≤ reachBytes) → (∀ x ∈ xs, x.length ≤ 140737488351232) ∧ xs.length ≤ 140737488351232) := by
  obtain ⟨xs, h1, h2, h3⟩ := opened_strings hok h
  refine ⟨xs, h1, h2, fun hz => ⟨h3 hz, ?_⟩⟩
  obtain ⟨a0, len, cap, rfl⟩ := okWide_slice Try.underlying27 hok
  obtain ⟨A, c, e, -⟩ := h1
  cases e
  obtain ⟨fuel, hf⟩ := h
  rcases open_strings Try.underlying27 Try.underlying9 cells_string hf with ⟨hcs, hx⟩ | ⟨a, len', cap', ss, hcs, _, hl, hm, hs, hx, hcell, hws⟩
  · simp [Value.cells] at hcs
    simp [hcs.2.1]
  · simp [Value.cells] at hcs
    obtain ⟨rfl, e2, rfl⟩ := hcs
    simp only [Prod.mk.injEq] at hx
    rw [hx.1] at hz
    simp only [DataW.weights, Try.underlying27] at hz
    have hb : Try.prog.bytesOf 9 = 16 := by kernel_rfl
    have := hz _ (List.mem_cons_self ..)
    rw [hb] at this
    simp [strs, reachBytes] at this
    simp at hs
    omega

set_option maxHeartbeats 1000000 in
theorem walk_FnExactLessVersion (v0 : Value) (xs : List (List UInt8)) (i k : Int) (w : World)
    (h0 : StrsAt w v0 xs ∧ ∀ x ∈ xs, x.length ≤ 140737488351232) (_ : (Lit.int .i64 i).wf = true) (_ : (Lit.int .i64 k).wf = true) :
    Calls Try.prog 6 #[v0, .int .i64 i, .int .i64 k] w fun e w' => e = .returned (.bool true) ∧ Below w.heap.size w w' := by
  obtain ⟨h0, hl⟩ := h0
  have H0 := Lib.hid h0
  have HSZ := Lib.hid (szStringS_any v0 xs w h0 (fun x hx => by have := hl x hx; omega))
  clear h0 hl
  go_enter Try.func6, Try.ntmps6
  go_wp2_with fail
  refine HSZ.out.mono ?_
  rintro e w' ⟨h | ⟨q, hq, rfl, hn, hx⟩, rfl⟩
  · subst h
    go_wp2
    go_ret
    exact ⟨rfl, Below.refl _ _⟩
  · have HX := Lib.hid hx
    clear hx
    go_wp2_with fail
    refine (toStringS_any v0 xs w H0.out hn).mono ?_
    rintro e w1 ⟨⟨a, rfl, ha⟩, hb1⟩
    have HA := Lib.hid ha
    have HB1 := Lib.hid hb1
    clear ha hb1
    go_wp2_with fail
    refine (spec_LessVersion a xs i k w1 HA.out HX.out hn).mono ?_
    rintro e w2 ⟨rfl, hb2⟩
    have HB2 : Hid (Below w.heap.size w w2) := Lib.hid (bl_next' HB1.out hb2)
    clear hb2
    go_wp2_with fail
    refine (toStringS_any v0 xs w2 (H0.out.below HB2.out) hn).mono ?_
    rintro e w3 ⟨⟨b, rfl, hb⟩, hb3⟩
    have HB3 : Hid (Below w.heap.size w w3) := Lib.hid (bl_next' HB2.out hb3)
    have HBV := Lib.hid hb
    clear hb3 hb
    go_wp2_with fail
    refine (impl_LessVersion b xs i k w3 HBV.out (fun x hx => by have := HX.out x hx; omega) (by omega)).mono ?_
    rintro e w4 ⟨rfl, hb4⟩
    have HB4 : Hid (Below w.heap.size w w4) := Lib.hid (bl_next' HB3.out hb4)
    have HBV4 : Hid (StrsAt w4 b xs) := Lib.hid (HBV.out.below hb4)
    clear hb4
    go_wp2_with fail
    refine (toStringS_any v0 xs w4 (H0.out.below HB4.out) hn).mono ?_
    rintro e w5 ⟨⟨d, rfl, hd⟩, hb5⟩
    have HB5 : Hid (Below w.heap.size w w5) := Lib.hid (bl_next' HB4.out hb5)
    have HBV5 : Hid (StrsAt w5 b xs) := Lib.hid (HBV4.out.below hb5)
    have HD := Lib.hid hd
    clear hb5 hd
    go_wp2_with fail
    refine (eqStringS_any b d xs w5 HBV5.out HD.out).mono ?_
    rintro e w6 ⟨rfl, n6, rfl⟩
    go_wp2
    go_ret
    exact ⟨rfl, bl_drewN HB5.out _⟩

theorem text_lt {a b : List UInt8} (h : a ≠ b) : Sem.cmpText a b = if Sem.less a b then -1 else 1 := by unfold Sem.cmpText; rw [if_neg h]
set_option maxHeartbeats 4000000 in
theorem walk_FnLessOrder (v0 : Value) (xs : List (List UInt8)) (i k : Int) (w : World)
    (h0 : StrsAt w v0 xs ∧ (∀ x ∈ xs, x.length ≤ 140737488351232) ∧ xs.length ≤ 140737488351232) (_ : (Lit.int .i64 i).wf = true) (_ : (Lit.int .i64 k).wf = true) :
    Calls Try.prog 14 #[v0, .int .i64 i, .int .i64 k] w fun e w' => e = .returned (.bool true) ∧ Below w.heap.size w w' := by
  obtain ⟨h0, hl, hn⟩ := h0
  have H0 := Lib.hid h0
  obtain ⟨A, c, rfl, hc, hm, h⟩ := h0
  by_cases hne : xs = []
  · subst hne
    go_enter Try.func14, Try.ntmps14
    go_wp2_with (first | (go_at_call 19; refine (impl_CompareVersions _ _ _ (by first | omega | (simp; done) | (simp; omega)) (by first | omega | (simp; done) | (simp; omega))).mono ?_; rintro e w' ⟨rfl, hb⟩) | (go_at_call 31; refine (impl_VersionOk _ _ (by first | omega | (simp; done) | (simp; omega))).mono ?_; rintro e w' ⟨rfl, hb⟩) | (go_at_call 17; refine (impl_CanonicalVersion _ _ (by first | omega | (simp; done) | (simp; omega))).mono ?_; rintro e w' ⟨rfl, hb⟩) | (go_at_call 37; refine (impl_MajorOf _ _ (by first | omega | (simp; done) | (simp; omega))).mono ?_; rintro e w' ⟨rfl, hb⟩) | (go_at_call 38; refine (impl_PrereleaseOf _ _ (by first | omega | (simp; done) | (simp; omega))).mono ?_; rintro e w' ⟨rfl, hb⟩) | (go_at_call 39; refine (impl_BuildOf _ _ (by first | omega | (simp; done) | (simp; omega))).mono ?_; rintro e w' ⟨rfl, hb⟩) | (go_at_call 21; refine (impl_MaxVersion _ _ _ (by first | omega | (simp; done) | (simp; omega)) (by first | omega | (simp; done) | (simp; omega))).mono ?_; rintro e w' ⟨rfl, hb⟩) | (go_at_call 28; refine (veWorks_any _).mono ?_; rintro e w' ⟨rfl, hb⟩))
    go_ret
    exact ⟨rfl, (by repeat (first | (with_reducible assumption) | (with_reducible exact Below.refl _ _) | (with_reducible refine bl_next' ?_ (by with_reducible assumption))))⟩
  · obtain ⟨p, hp, ei⟩ := mod_at xs hne i
    obtain ⟨q, hq, ek⟩ := mod_at xs hne k
    obtain ⟨b, off, rfl, hlt, hcell⟩ := h.resolve_left hne
    have hx := hcell p xs[p] (List.getElem?_eq_getElem hp)
    have hy := hcell q xs[q] (List.getElem?_eq_getElem hq)
    have hxl := hl xs[p] (List.getElem_mem hp)
    have hyl := hl xs[q] (List.getElem_mem hq)
    have HL1 := Lib.hid (fun w' (hw : StrsAt w' (.slice (some ⟨b, off, none⟩) xs.length c) xs) => impl_LessVersion _ xs i k w' hw (fun x hx => by have := hl x hx; omega) (by omega))
    have HL2 := Lib.hid (fun w' (hw : StrsAt w' (.slice (some ⟨b, off, none⟩) xs.length c) xs) => impl_LessVersion _ xs k i w' hw (fun x hx => by have := hl x hx; omega) (by omega))
    rw [lessAt_eq hp hq ei ek] at HL1
    rw [lessAt_eq hq hp ek ei] at HL2
    have hati : ∀ w', Calls Try.prog 34 #[.int .i64 i, .int .i64 xs.length] w' fun e w'' => e = .returned (.int .i64 p) ∧ w' = w'' := fun w' => by have := at_any i xs.length w' (by omega) (by omega); rw [ei] at this; exact this
    have hatk : ∀ w', Calls Try.prog 34 #[.int .i64 k, .int .i64 xs.length] w' fun e w'' => e = .returned (.int .i64 q) ∧ w' = w'' := fun w' => by have := at_any k xs.length w' (by omega) (by omega); rw [ek] at this; exact this
    have HATI := Lib.hid hati
    have HATK := Lib.hid hatk
    have hq0 : ((xs.length : Int) == 0) = false := by rw [beq_eq_false_iff_ne]; omega
    clear hcell hl ei ek hati hatk hne h
    generalize xs[p] = x at *
    generalize xs[q] = y at *
    generalize hN : xs.length = n at *
    clear hN
    have hsw := lin_version.swap x y
    have hv : Sem.cmpVersion x y = if Sem.compare x y ≠ 0 then Sem.compare x y else Sem.cmpText x y := rfl
    by_cases hxy : x = y
    · subst hxy
      have hz : Sem.cmpVersion x x = 0 := lin_version.self x
      have d1 : decide (Sem.cmpVersion x x < 0) = false := by rw [hz]; rfl
      rw [d1] at HL1 HL2
      have hbq : (x == x) = true := by simp
      clear hv hsw hz d1
      go_enter Try.func14, Try.ntmps14
      go_wp2_with fail
      go_quiet (first
        | (go_at_call_of 34 i; exact Calls.quiet_of_same ((HATI.out _).mono (fun _ _ h => ⟨h.1, h.2.symm⟩)))
        | (go_at_call_of 34 k; exact Calls.quiet_of_same ((HATK.out _).mono (fun _ _ h => ⟨h.1, h.2.symm⟩))))
      go_wp2_with fail
      refine (HL1.out _ (H0.out.drewN _)).mono ?_
      rintro e w1 ⟨rfl, hb1⟩
      have H1 : Hid (StrsAt w1 (.slice (some ⟨b, off, none⟩) n c) xs) := Lib.hid ((H0.out.drewN _).below hb1)
      go_wp2_with fail
      refine (HL2.out _ H1.out).mono ?_
      rintro e w2 ⟨rfl, hb2⟩
      go_wp2_with (first | (go_at_call 19; refine (impl_CompareVersions _ _ _ (by first | omega | (simp; done) | (simp; omega)) (by first | omega | (simp; done) | (simp; omega))).mono ?_; rintro e w' ⟨rfl, hb⟩) | (go_at_call 31; refine (impl_VersionOk _ _ (by first | omega | (simp; done) | (simp; omega))).mono ?_; rintro e w' ⟨rfl, hb⟩) | (go_at_call 17; refine (impl_CanonicalVersion _ _ (by first | omega | (simp; done) | (simp; omega))).mono ?_; rintro e w' ⟨rfl, hb⟩) | (go_at_call 37; refine (impl_MajorOf _ _ (by first | omega | (simp; done) | (simp; omega))).mono ?_; rintro e w' ⟨rfl, hb⟩) | (go_at_call 38; refine (impl_PrereleaseOf _ _ (by first | omega | (simp; done) | (simp; omega))).mono ?_; rintro e w' ⟨rfl, hb⟩) | (go_at_call 39; refine (impl_BuildOf _ _ (by first | omega | (simp; done) | (simp; omega))).mono ?_; rintro e w' ⟨rfl, hb⟩) | (go_at_call 21; refine (impl_MaxVersion _ _ _ (by first | omega | (simp; done) | (simp; omega)) (by first | omega | (simp; done) | (simp; omega))).mono ?_; rintro e w' ⟨rfl, hb⟩) | (go_at_call 28; refine (veWorks_any _).mono ?_; rintro e w' ⟨rfl, hb⟩))
      go_ret
      exact ⟨rfl, by repeat (first | (with_reducible assumption) | (with_reducible exact Below.refl _ _) | (with_reducible refine bl_next' ?_ (by with_reducible assumption)) | (with_reducible refine bl_drewN ?_ _))⟩
    · have hbq : (x == y) = false := by simp [hxy]
      rcases Int.lt_trichotomy (Sem.compare x y) 0 with hc' | hc' | hc'
      · have e1 : Sem.cmpVersion x y < 0 := by rw [hv, if_pos (by omega)]; exact hc'
        rw [decide_eq_true e1] at HL1
        rw [decide_eq_false (by omega)] at HL2
        have c1 : decide (Sem.compare x y < 0) = true := decide_eq_true hc'
        clear hv hsw e1
        go_enter Try.func14, Try.ntmps14
        go_wp2_with fail
        go_quiet (first
          | (go_at_call_of 34 i; exact Calls.quiet_of_same ((HATI.out _).mono (fun _ _ h => ⟨h.1, h.2.symm⟩)))
          | (go_at_call_of 34 k; exact Calls.quiet_of_same ((HATK.out _).mono (fun _ _ h => ⟨h.1, h.2.symm⟩))))
        go_wp2_with fail
        refine (HL1.out _ (H0.out.drewN _)).mono ?_
        rintro e w1 ⟨rfl, hb1⟩
        have H1 : Hid (StrsAt w1 (.slice (some ⟨b, off, none⟩) n c) xs) := Lib.hid ((H0.out.drewN _).below hb1)
        go_wp2_with fail
        refine (HL2.out _ H1.out).mono ?_
        rintro e w2 ⟨rfl, hb2⟩
        go_wp2_with (first | (go_at_call 19; refine (impl_CompareVersions _ _ _ (by first | omega | (simp; done) | (simp; omega)) (by first | omega | (simp; done) | (simp; omega))).mono ?_; rintro e w' ⟨rfl, hb⟩) | (go_at_call 31; refine (impl_VersionOk _ _ (by first | omega | (simp; done) | (simp; omega))).mono ?_; rintro e w' ⟨rfl, hb⟩) | (go_at_call 17; refine (impl_CanonicalVersion _ _ (by first | omega | (simp; done) | (simp; omega))).mono ?_; rintro e w' ⟨rfl, hb⟩) | (go_at_call 37; refine (impl_MajorOf _ _ (by first | omega | (simp; done) | (simp; omega))).mono ?_; rintro e w' ⟨rfl, hb⟩) | (go_at_call 38; refine (impl_PrereleaseOf _ _ (by first | omega | (simp; done) | (simp; omega))).mono ?_; rintro e w' ⟨rfl, hb⟩) | (go_at_call 39; refine (impl_BuildOf _ _ (by first | omega | (simp; done) | (simp; omega))).mono ?_; rintro e w' ⟨rfl, hb⟩) | (go_at_call 21; refine (impl_MaxVersion _ _ _ (by first | omega | (simp; done) | (simp; omega)) (by first | omega | (simp; done) | (simp; omega))).mono ?_; rintro e w' ⟨rfl, hb⟩) | (go_at_call 28; refine (veWorks_any _).mono ?_; rintro e w' ⟨rfl, hb⟩))
        go_ret
        exact ⟨rfl, by repeat (first | (with_reducible assumption) | (with_reducible exact Below.refl _ _) | (with_reducible refine bl_next' ?_ (by with_reducible assumption)) | (with_reducible refine bl_drewN ?_ _))⟩
      · rw [if_neg (by omega), text_lt hxy] at hv
        have c1 : decide (Sem.compare x y < 0) = false := decide_eq_false (by omega)
        have c2 : (Sem.compare x y == 0) = true := by simp [hc']
        cases hls : Sem.less x y with
        | true =>
          rw [if_pos hls] at hv
          have hbl : Op.bytesLess x y = true := by rw [bytesLess_less, hls]
          rw [decide_eq_true (by omega)] at HL1
          rw [decide_eq_false (by omega)] at HL2
          clear hv hsw
          go_enter Try.func14, Try.ntmps14
          go_wp2_with fail
          go_quiet (first
            | (go_at_call_of 34 i; exact Calls.quiet_of_same ((HATI.out _).mono (fun _ _ h => ⟨h.1, h.2.symm⟩)))
            | (go_at_call_of 34 k; exact Calls.quiet_of_same ((HATK.out _).mono (fun _ _ h => ⟨h.1, h.2.symm⟩))))
          go_wp2_with fail
          refine (HL1.out _ (H0.out.drewN _)).mono ?_
          rintro e w1 ⟨rfl, hb1⟩
          have H1 : Hid (StrsAt w1 (.slice (some ⟨b, off, none⟩) n c) xs) := Lib.hid ((H0.out.drewN _).below hb1)
          go_wp2_with fail
          refine (HL2.out _ H1.out).mono ?_
          rintro e w2 ⟨rfl, hb2⟩
          go_wp2_with (first | (go_at_call 19; refine (impl_CompareVersions _ _ _ (by first | omega | (simp; done) | (simp; omega)) (by first | omega | (simp; done) | (simp; omega))).mono ?_; rintro e w' ⟨rfl, hb⟩) | (go_at_call 31; refine (impl_VersionOk _ _ (by first | omega | (simp; done) | (simp; omega))).mono ?_; rintro e w' ⟨rfl, hb⟩) | (go_at_call 17; refine (impl_CanonicalVersion _ _ (by first | omega | (simp; done) | (simp; omega))).mono ?_; rintro e w' ⟨rfl, hb⟩) | (go_at_call 37; refine (impl_MajorOf _ _ (by first | omega | (simp; done) | (simp; omega))).mono ?_; rintro e w' ⟨rfl, hb⟩) | (go_at_call 38; refine (impl_PrereleaseOf _ _ (by first | omega | (simp; done) | (simp; omega))).mono ?_; rintro e w' ⟨rfl, hb⟩) | (go_at_call 39; refine (impl_BuildOf _ _ (by first | omega | (simp; done) | (simp; omega))).mono ?_; rintro e w' ⟨rfl, hb⟩) | (go_at_call 21; refine (impl_MaxVersion _ _ _ (by first | omega | (simp; done) | (simp; omega)) (by first | omega | (simp; done) | (simp; omega))).mono ?_; rintro e w' ⟨rfl, hb⟩) | (go_at_call 28; refine (veWorks_any _).mono ?_; rintro e w' ⟨rfl, hb⟩))
          go_ret
          exact ⟨rfl, by repeat (first | (with_reducible assumption) | (with_reducible exact Below.refl _ _) | (with_reducible refine bl_next' ?_ (by with_reducible assumption)) | (with_reducible refine bl_drewN ?_ _))⟩
        | false =>
          rw [if_neg (by rw [hls]; simp)] at hv
          have hbl : Op.bytesLess x y = false := by rw [bytesLess_less, hls]
          rw [decide_eq_false (by omega)] at HL1
          rw [decide_eq_true (by omega)] at HL2
          clear hv hsw
          go_enter Try.func14, Try.ntmps14
          go_wp2_with fail
          go_quiet (first
            | (go_at_call_of 34 i; exact Calls.quiet_of_same ((HATI.out _).mono (fun _ _ h => ⟨h.1, h.2.symm⟩)))
            | (go_at_call_of 34 k; exact Calls.quiet_of_same ((HATK.out _).mono (fun _ _ h => ⟨h.1, h.2.symm⟩))))
          go_wp2_with fail
          refine (HL1.out _ (H0.out.drewN _)).mono ?_
          rintro e w1 ⟨rfl, hb1⟩
          have H1 : Hid (StrsAt w1 (.slice (some ⟨b, off, none⟩) n c) xs) := Lib.hid ((H0.out.drewN _).below hb1)
          go_wp2_with fail
          refine (HL2.out _ H1.out).mono ?_
          rintro e w2 ⟨rfl, hb2⟩
          go_wp2_with (first | (go_at_call 19; refine (impl_CompareVersions _ _ _ (by first | omega | (simp; done) | (simp; omega)) (by first | omega | (simp; done) | (simp; omega))).mono ?_; rintro e w' ⟨rfl, hb⟩) | (go_at_call 31; refine (impl_VersionOk _ _ (by first | omega | (simp; done) | (simp; omega))).mono ?_; rintro e w' ⟨rfl, hb⟩) | (go_at_call 17; refine (impl_CanonicalVersion _ _ (by first | omega | (simp; done) | (simp; omega))).mono ?_; rintro e w' ⟨rfl, hb⟩) | (go_at_call 37; refine (impl_MajorOf _ _ (by first | omega | (simp; done) | (simp; omega))).mono ?_; rintro e w' ⟨rfl, hb⟩) | (go_at_call 38; refine (impl_PrereleaseOf _ _ (by first | omega | (simp; done) | (simp; omega))).mono ?_; rintro e w' ⟨rfl, hb⟩) | (go_at_call 39; refine (impl_BuildOf _ _ (by first | omega | (simp; done) | (simp; omega))).mono ?_; rintro e w' ⟨rfl, hb⟩) | (go_at_call 21; refine (impl_MaxVersion _ _ _ (by first | omega | (simp; done) | (simp; omega)) (by first | omega | (simp; done) | (simp; omega))).mono ?_; rintro e w' ⟨rfl, hb⟩) | (go_at_call 28; refine (veWorks_any _).mono ?_; rintro e w' ⟨rfl, hb⟩))
          go_ret
          exact ⟨rfl, by repeat (first | (with_reducible assumption) | (with_reducible exact Below.refl _ _) | (with_reducible refine bl_next' ?_ (by with_reducible assumption)) | (with_reducible refine bl_drewN ?_ _))⟩
      · have e1 : ¬ Sem.cmpVersion x y < 0 := by rw [hv, if_pos (by omega)]; omega
        have e2 : Sem.cmpVersion x y > 0 := by rw [hv, if_pos (by omega)]; exact hc'
        rw [decide_eq_false e1] at HL1
        rw [decide_eq_true (by omega)] at HL2
        have c1 : decide (Sem.compare x y < 0) = false := decide_eq_false (by omega)
        have c2 : (Sem.compare x y == 0) = false := by rw [beq_eq_false_iff_ne]; omega
        clear hv hsw e1 e2
        go_enter Try.func14, Try.ntmps14
        go_wp2_with fail
        go_quiet (first
          | (go_at_call_of 34 i; exact Calls.quiet_of_same ((HATI.out _).mono (fun _ _ h => ⟨h.1, h.2.symm⟩)))
          | (go_at_call_of 34 k; exact Calls.quiet_of_same ((HATK.out _).mono (fun _ _ h => ⟨h.1, h.2.symm⟩))))
        go_wp2_with fail
        refine (HL1.out _ (H0.out.drewN _)).mono ?_
        rintro e w1 ⟨rfl, hb1⟩
        have H1 : Hid (StrsAt w1 (.slice (some ⟨b, off, none⟩) n c) xs) := Lib.hid ((H0.out.drewN _).below hb1)
        go_wp2_with fail
        refine (HL2.out _ H1.out).mono ?_
        rintro e w2 ⟨rfl, hb2⟩
        go_wp2_with (first | (go_at_call 19; refine (impl_CompareVersions _ _ _ (by first | omega | (simp; done) | (simp; omega)) (by first | omega | (simp; done) | (simp; omega))).mono ?_; rintro e w' ⟨rfl, hb⟩) | (go_at_call 31; refine (impl_VersionOk _ _ (by first | omega | (simp; done) | (simp; omega))).mono ?_; rintro e w' ⟨rfl, hb⟩) | (go_at_call 17; refine (impl_CanonicalVersion _ _ (by first | omega | (simp; done) | (simp; omega))).mono ?_; rintro e w' ⟨rfl, hb⟩) | (go_at_call 37; refine (impl_MajorOf _ _ (by first | omega | (simp; done) | (simp; omega))).mono ?_; rintro e w' ⟨rfl, hb⟩) | (go_at_call 38; refine (impl_PrereleaseOf _ _ (by first | omega | (simp; done) | (simp; omega))).mono ?_; rintro e w' ⟨rfl, hb⟩) | (go_at_call 39; refine (impl_BuildOf _ _ (by first | omega | (simp; done) | (simp; omega))).mono ?_; rintro e w' ⟨rfl, hb⟩) | (go_at_call 21; refine (impl_MaxVersion _ _ _ (by first | omega | (simp; done) | (simp; omega)) (by first | omega | (simp; done) | (simp; omega))).mono ?_; rintro e w' ⟨rfl, hb⟩) | (go_at_call 28; refine (veWorks_any _).mono ?_; rintro e w' ⟨rfl, hb⟩))
        go_ret
        exact ⟨rfl, by repeat (first | (with_reducible assumption) | (with_reducible exact Below.refl _ _) | (with_reducible refine bl_next' ?_ (by with_reducible assumption)) | (with_reducible refine bl_drewN ?_ _))⟩

end Go.Proofs.Ytpcmdgmbacokfaa
