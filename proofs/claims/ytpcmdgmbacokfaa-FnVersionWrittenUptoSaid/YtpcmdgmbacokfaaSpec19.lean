/- The contract of the reference's VersionText, how an argument of type spec.Version is opened, and the walk of FnVersionWritten: it returns true. Condition: the parts have together at most 2 to the power of 20 values and letters. -/
import Derived.Test.YtpcmdgmbacokfaaSpec18
import Derived.Lib.SmallJoins
namespace Go.Proofs.Ytpcmdgmbacokfaa
open Go.RowKit Go.ChangeShapes Go.WideShapes Go.Joins
attribute [local go_sem] app_str bw_cell

/-- a version in memory -/
def VerAt (w : World) (v : Value) (x : List (List UInt8) × List (List UInt8) × List (List UInt8)) : Prop :=
  ∃ v1 v2 v3, v = .agg #[v1, v2, v3] ∧ StrsAt w v1 x.1 ∧ StrsAt w v2 x.2.1 ∧ StrsAt w v3 x.2.2
def bulkV (x : List (List UInt8) × List (List UInt8) × List (List UInt8)) : Nat := bulkS x.1 + bulkS x.2.1 + bulkS x.2.2

theorem opened_field {H : Type} {enc : TypeId × Value → H} {W : World} {v : Value} {y : DataW H × List MemPlace} {fuel : Nat}
    (hf : DataW.trod enc Try.prog W 0 (fun _ => true) true fuel 27 [v] = some y) : ∃ xs : List (List UInt8), StrsAt W v xs ∧ bulkS xs ≤ Rows.uptoBulk y.1 := by
  have hlt : ∀ x ∈ y.2, x.block < W.heap.size := DataW.trod_lt fuel _ _ _ hf
  rcases open_strings Try.underlying27 Try.underlying9 cells_string hf with ⟨hcs, hx⟩ | ⟨a, len, cap, ss, hcs, _, hl, hm, hz, hx, hcell, hws⟩
  · simp at hcs
    subst hcs hx
    exact ⟨[], ⟨none, 0, rfl, Nat.le_refl _, by omega, .inl rfl⟩, by simp [bulkS, Rows.uptoBulk]⟩
  · simp at hcs
    subst hcs hx
    have hlen : ss.length = cap := by simpa using hz
    have hll : ((ss.take len).map fun s => s.data.toList).length = len := by simp; omega
    refine ⟨(ss.take len).map fun s => s.data.toList, ⟨some a, cap, by rw [hll], by rw [hll]; exact hl, hm, ?_⟩, ?_⟩
    · rcases Nat.eq_zero_or_pos len with h0 | h0
      · left; rw [h0]; rfl
      · right
        obtain ⟨b, off, sp⟩ := a
        have hc0 := hcell 0 (by omega)
        have hsp : sp = none := by simpa [Addr.add] using World.cell?_spot hc0
        subst hsp
        refine ⟨b, off, rfl, ?_, ?_⟩
        · have hmem : MemPlace.cell b off ∈ MemPlace.row ⟨b, off, none⟩ ss.length := by
            simp [MemPlace.row]
            omega
          exact hlt _ hmem
        · intro k u hu
          rw [List.getElem?_map] at hu
          cases hs : (ss.take len)[k]? with
          | none => rw [hs] at hu; cases hu
          | some s =>
            rw [hs] at hu
            cases hu
            have hk : k < len := by
              have := (List.getElem?_eq_some_iff.1 hs).1
              simp at this; omega
            rw [List.getElem?_take_of_lt hk] at hs
            have hk2 : k < ss.length := (List.getElem?_eq_some_iff.1 hs).1
            have := hcell k hk2
            have e : (⟨b, off, none⟩ : Addr).add k = ⟨b, off + k, none⟩ := by unfold Addr.add; split <;> simp_all
            rw [e] at this
            rw [this, ← str_of]
            simp [List.getD, hs]
    · simp only [Rows.uptoBulk, bulkS]
      rw [sum_bulk (H := H)]
      omega
theorem opened_version {H : Type} {enc : TypeId × Value → H} {W : World} {base : Nat} {v : Value} {d : DataW H} {ps : List MemPlace}
    (hok : Value.okWide Try.prog W .any base 40 v) (h : DataW.Trod enc Try.prog W 0 (fun _ => true) true 40 v d ps) :
    ∃ x, VerAt W v x ∧ bulkV x ≤ Rows.uptoBulk d ∧ True := by
  obtain ⟨v0, v1, v2, y0, y1, y2, n, rfl, rfl, -, h0, h1, h2⟩ := open_agg3 Try.underlying40 (by kernel_rfl) (by kernel_rfl) hok h
  obtain ⟨x0, k0, b0⟩ := opened_field h0
  obtain ⟨x1, k1, b1⟩ := opened_field h1
  obtain ⟨x2, k2, b2⟩ := opened_field h2
  refine ⟨(x0, x1, x2), ⟨v0, v1, v2, rfl, k0, k1, k2⟩, ?_, trivial⟩
  simp only [bulkV, Rows.uptoBulk, Rows.uptoBulkAll]
  omega

theorem tail_pre (xs : List (List UInt8)) : tailText [45] xs = Sem.preText xs := by unfold tailText Sem.preText; split <;> rfl
theorem tail_build (xs : List (List UInt8)) : tailText [43] xs = Sem.buildText xs := by unfold tailText Sem.buildText; split <;> rfl
theorem join_len' {xs : List (List UInt8)} (h : bulkS xs ≤ 1048576) : (Sem.joinBy [46] xs).length ≤ 1048576 :=
  Nat.le_trans (Sem.joinBy_len [46] xs (n := 1) (by simp)) (Nat.le_trans (bulk_sum h) (by omega))
theorem pre_len' {xs : List (List UInt8)} (h : bulkS xs ≤ 1048576) : (Sem.preText xs).length ≤ 1048577 := by
  have := join_len' h
  unfold Sem.preText
  split
  · simp
  · simp; omega
theorem build_len' {xs : List (List UInt8)} (h : bulkS xs ≤ 1048576) : (Sem.buildText xs).length ≤ 1048577 := by
  have := join_len' h
  unfold Sem.buildText
  split
  · simp
  · simp; omega

set_option maxHeartbeats 1000000 in
theorem versionText_any (A1 A2 A3 : Option Addr) (n1 n2 n3 c1 c2 c3 : Nat) (ns ps bs : List (List UInt8)) (w : World) (h1 : StrsAt w (.slice A1 n1 c1) ns) (h2 : StrsAt w (.slice A2 n2 c2) ps) (h3 : StrsAt w (.slice A3 n3 c3) bs)
    (b1 : bulkS ns ≤ 1048576) (b2 : bulkS ps ≤ 1048576) (b3 : bulkS bs ≤ 1048576) :
    Calls Try.prog 36 #[.agg #[.slice A1 n1 c1, .slice A2 n2 c2, .slice A3 n3 c3]] w fun e w' => e = .returned (str (118 :: (Sem.joinBy [46] ns ++ (Sem.preText ps ++ Sem.buildText bs)))) ∧ Below w.heap.size w w' := by
  have l1 := join_len' b1
  have l2 := pre_len' b2
  have l3 := build_len' b3
  have HJ := Lib.hid (fun W (h : StrsAt W (.slice A1 n1 c1) ns) => veJoin_any _ ns [46] W h (by simp) (Nat.le_trans (bulk_sum b1) (by omega)))
  have HP := Lib.hid (fun W (h : StrsAt W (.slice A2 n2 c2) ps) => veTail_any [45] _ ps W h (by simp) (Nat.le_trans (bulk_sum b2) (by omega)))
  have HB := Lib.hid (fun W (h : StrsAt W (.slice A3 n3 c3) bs) => veTail_any [43] _ bs W h (by simp) (Nat.le_trans (bulk_sum b3) (by omega)))
  rw [tail_pre] at HP
  rw [tail_build] at HB
  have H1 := Lib.hid (h1.alloc (Obj.cells #[.slice A1 n1 c1, .slice A2 n2 c2, .slice A3 n3 c3] 40))
  have H2 := Lib.hid (h2.alloc (Obj.cells #[.slice A1 n1 c1, .slice A2 n2 c2, .slice A3 n3 c3] 40))
  have H3 := Lib.hid (h3.alloc (Obj.cells #[.slice A1 n1 c1, .slice A2 n2 c2, .slice A3 n3 c3] 40))
  clear h1 h2 h3 b1 b2 b3
  generalize Sem.joinBy [46] ns = J at *
  generalize Sem.preText ps = PT at *
  generalize Sem.buildText bs = BT at *
  go_enter Try.func36, Try.ntmps36
  go_wp2_with fail
  go_quiet (first
    | (go_at_call 41; exact Calls.quiet_of_same ((HJ.out _ (H1.out.drewN _)).mono (fun _ _ h => ⟨h.1, h.2.symm⟩)))
    | (go_at_call_of 43 (Value.slice A2 n2 c2); exact Calls.quiet_of_same ((HP.out _ (H2.out.drewN _)).mono (fun _ _ h => ⟨h.1, h.2.symm⟩)))
    | (go_at_call_of 43 (Value.slice A3 n3 c3); exact Calls.quiet_of_same ((HB.out _ (H3.out.drewN _)).mono (fun _ _ h => ⟨h.1, h.2.symm⟩))))
  go_wp2_with fail
  go_ret
  exact ⟨ret_str (by simp), bl_drewN (bl_new _ _) _⟩

set_option maxHeartbeats 4000000 in
set_option maxRecDepth 100000 in
theorem walk_FnVersionWritten (v0 : Value) (x : List (List UInt8) × List (List UInt8) × List (List UInt8)) (w : World) (h0 : VerAt w v0 x) (b0 : bulkV x ≤ 1048576) :
    Calls Try.prog 15 #[v0] w fun e w' => e = .returned (.bool true) ∧ Below w.heap.size w w' := by
  obtain ⟨ns, ps, bs⟩ := x
  obtain ⟨v1, v2, v3, rfl, h1, h2, h3⟩ := h0
  unfold bulkV at b0
  have b1 : bulkS ns ≤ 1048576 := by simp only at b0; omega
  have b2 : bulkS ps ≤ 1048576 := by simp only at b0; omega
  have b3 : bulkS bs ≤ 1048576 := by simp only at b0; omega
  simp only at h1 h2 h3
  obtain ⟨A1, c1, rfl, hc1, hm1, -⟩ := id h1
  obtain ⟨A2, c2, rfl, hc2, hm2, -⟩ := id h2
  obtain ⟨A3, c3, rfl, hc3, hm3, -⟩ := id h3
  have H1 := Lib.hid (h1.alloc (Obj.cells #[.slice A1 ns.length c1, .slice A2 ps.length c2, .slice A3 bs.length c3] 40))
  have H2 := Lib.hid (h2.alloc (Obj.cells #[.slice A1 ns.length c1, .slice A2 ps.length c2, .slice A3 bs.length c3] 40))
  have H3 := Lib.hid (h3.alloc (Obj.cells #[.slice A1 ns.length c1, .slice A2 ps.length c2, .slice A3 bs.length c3] 40))
  have W0 := Lib.hid (bl_new w (Obj.cells #[.slice A1 ns.length c1, .slice A2 ps.length c2, .slice A3 bs.length c3] 40))
  have HG := Lib.hid (versionGood_any _ _ _ ns ps bs _ H1.out H2.out H3.out (fun x hx => by have := bulk_each b1 x hx; omega) (fun x hx => by have := bulk_each b2 x hx; omega) (fun x hx => by have := bulk_each b3 x hx; omega) (by have := bulk_len b1; omega) (by have := bulk_len b2; omega) (by have := bulk_len b3; omega))
  have HSC : Hid (∀ o x, #[Value.slice A1 ns.length c1, .slice A2 ps.length c2, .slice A3 bs.length c3][o]? = some x → ∀ w', Below ((w.alloc (Obj.cells #[.slice A1 ns.length c1, .slice A2 ps.length c2, .slice A3 bs.length c3] 40))).heap.size (w.alloc (Obj.cells #[.slice A1 ns.length c1, .slice A2 ps.length c2, .slice A3 bs.length c3] 40)) w' → w'.cell? ⟨w.heap.size, o, none⟩ = some x) := Lib.hid (fun o x hx w' hb => by
    rw [hb.cell (p := ⟨w.heap.size, o, none⟩) (by simp), ← hx]
    exact cell_of_row (w.alloc _) _ _ _ 40 (0, 0) (heap_alloc_new w _))
  have HZ : Hid (w.heap.size < (w.alloc (Obj.cells #[.slice A1 ns.length c1, .slice A2 ps.length c2, .slice A3 bs.length c3] 40)).heap.size) := Lib.hid (by simp)
  clear h1 h2 h3 b0
  cases hg : Sem.verGood ns ps bs with
  | false =>
    rw [hg] at HG
    clear b1 b2 b3
    go_enter Try.func15, Try.ntmps15
    go_wp2_with fail
    refine HG.out.mono ?_
    rintro e wa ⟨rfl, hba⟩
    have HB : Hid (Below w.heap.size w wa) := Lib.hid (bl_next' W0.out hba)
    clear hba
    go_wp2_with (first | (go_at_call 19; refine (impl_CompareVersions _ _ _ (by first | omega | (simp; done) | (simp; omega)) (by first | omega | (simp; done) | (simp; omega))).mono ?_; rintro e w' ⟨rfl, hb⟩) | (go_at_call 31; refine (impl_VersionOk _ _ (by first | omega | (simp; done) | (simp; omega))).mono ?_; rintro e w' ⟨rfl, hb⟩) | (go_at_call 17; refine (impl_CanonicalVersion _ _ (by first | omega | (simp; done) | (simp; omega))).mono ?_; rintro e w' ⟨rfl, hb⟩) | (go_at_call 37; refine (impl_MajorOf _ _ (by first | omega | (simp; done) | (simp; omega))).mono ?_; rintro e w' ⟨rfl, hb⟩) | (go_at_call 38; refine (impl_PrereleaseOf _ _ (by first | omega | (simp; done) | (simp; omega))).mono ?_; rintro e w' ⟨rfl, hb⟩) | (go_at_call 39; refine (impl_BuildOf _ _ (by first | omega | (simp; done) | (simp; omega))).mono ?_; rintro e w' ⟨rfl, hb⟩) | (go_at_call 21; refine (impl_MaxVersion _ _ _ (by first | omega | (simp; done) | (simp; omega)) (by first | omega | (simp; done) | (simp; omega))).mono ?_; rintro e w' ⟨rfl, hb⟩) | (go_at_call 28; refine (veWorks_any _).mono ?_; rintro e w' ⟨rfl, hb⟩))
    go_ret
    exact ⟨rfl, by repeat (first | exact HB.out | (with_reducible assumption) | (with_reducible refine bl_next' ?_ (by with_reducible assumption)))⟩
  | true =>
    rw [hg] at HG
    obtain ⟨v, n0, nr, hns, hpar, hmaj, hpre, hbld⟩ := Sem.written hg
    have q1 : Sem.isValid (118 :: (Sem.joinBy [46] ns ++ (Sem.preText ps ++ Sem.buildText bs))) = true := by unfold Sem.isValid; rw [hpar]; rfl
    have q2 : Sem.majorOf (118 :: (Sem.joinBy [46] ns ++ (Sem.preText ps ++ Sem.buildText bs))) = 118 :: n0 := by rw [Sem.major_text hpar, hmaj]
    have q3 : Sem.prerelease (118 :: (Sem.joinBy [46] ns ++ (Sem.preText ps ++ Sem.buildText bs))) = Sem.preText ps := by rw [Sem.pre_text hpar, hpre]
    have q4 : Sem.build (118 :: (Sem.joinBy [46] ns ++ (Sem.preText ps ++ Sem.buildText bs))) = Sem.buildText bs := by rw [Sem.build_text hpar, hbld]
    have l1 := join_len' b1
    have l2 := pre_len' b2
    have l3 := build_len' b3
    have hn0 : n0.length ≤ 1048576 := bulk_each b1 n0 (by rw [hns]; simp)
    have hl : (118 :: (Sem.joinBy [46] ns ++ (Sem.preText ps ++ Sem.buildText bs))).length ≤ 1125899906842624 := by simp; omega
    have C1 := Lib.hid (fun W => valid_is q1 W hl)
    have C2 := Lib.hid (fun W => impl_MajorOf _ W hl)
    have C3 := Lib.hid (fun W => impl_PrereleaseOf _ W hl)
    have C4 := Lib.hid (fun W => impl_BuildOf _ W hl)
    rw [q2] at C2
    rw [q3] at C3
    rw [q4] at C4
    have HT := Lib.hid (fun W (h1 : StrsAt W (.slice A1 ns.length c1) ns) (h2 : StrsAt W (.slice A2 ps.length c2) ps) (h3 : StrsAt W (.slice A3 bs.length c3) bs) => versionText_any A1 A2 A3 ns.length ps.length bs.length c1 c2 c3 ns ps bs W h1 h2 h3 b1 b2 b3)
    have HJP := Lib.hid (fun W (h : StrsAt W (.slice A2 ps.length c2) ps) => joinedBy_any _ ps [46] W h (by simp) (Nat.le_trans (bulk_sum b2) (by omega)))
    have HJB := Lib.hid (fun W (h : StrsAt W (.slice A3 bs.length c3) bs) => joinedBy_any _ bs [46] W h (by simp) (Nat.le_trans (bulk_sum b3) (by omega)))
    have j2 := join_len' b2
    have j3 := join_len' b3
    have hnl : 0 < ns.length := by rw [hns]; simp
    have HE : Hid (ns[0]? = some n0) := Lib.hid (by rw [hns]; rfl)
    clear hpar hmaj hpre hbld q1 q2 q3 q4 b1 b2 b3 hl hns hg
    generalize 118 :: (Sem.joinBy [46] ns ++ (Sem.preText ps ++ Sem.buildText bs)) = T at *
    by_cases hp : 0 < ps.length
    · have ep : Sem.preText ps = 45 :: Sem.joinBy [46] ps := by unfold Sem.preText; rw [if_neg (by rintro rfl; simp at hp)]
      rw [ep] at C3
      by_cases hb : 0 < bs.length
      · have eb : Sem.buildText bs = 43 :: Sem.joinBy [46] bs := by unfold Sem.buildText; rw [if_neg (by rintro rfl; simp at hb)]
        rw [eb] at C4
        clear ep eb l2 l3
        generalize Sem.joinBy [46] ps = JP at *
        generalize Sem.joinBy [46] bs = JB at *
        go_enter Try.func15, Try.ntmps15
        go_wp2_with fail
        refine HG.out.mono ?_
        rintro e wa ⟨rfl, hba⟩
        generalize w.alloc (Obj.cells #[.slice A1 ns.length c1, .slice A2 ps.length c2, .slice A3 bs.length c3] 40) = w0 at *
        have a0 := HSC.out 0 _ rfl wa hba
        have a1 := HSC.out 1 _ rfl wa hba
        have a2 := HSC.out 2 _ rfl wa hba
        have HBA := Lib.hid hba
        clear hba
        go_wp2_with fail
        refine (HT.out _ (H1.out.below HBA.out) (H2.out.below HBA.out) (H3.out.below HBA.out)).mono ?_
        rintro e wb ⟨rfl, hbb⟩
        have HBB : Hid (Below w0.heap.size w0 wb) := Lib.hid (bl_next' HBA.out hbb)
        have HBW : Hid (Below w.heap.size w wb) := Lib.hid (bl_next' W0.out HBB.out)
        clear hbb
        have e0 := HSC.out 0 _ rfl wb HBB.out
        have e1 := HSC.out 1 _ rfl wb HBB.out
        have e2 := HSC.out 2 _ rfl wb HBB.out
        have hwb : w.heap.size < wb.heap.size := Nat.lt_of_lt_of_le HZ.out HBB.out.size
        have L1 := H1.out.below HBB.out
        have L2 : Hid (StrsAt wb (.slice A2 ps.length c2) ps) := Lib.hid (H2.out.below HBB.out)
        have L3 : Hid (StrsAt wb (.slice A3 bs.length c3) bs) := Lib.hid (H3.out.below HBB.out)
        obtain ⟨_, _, eA, -, -, hA⟩ := L1
        cases eA
        rcases hA with hA | ⟨b, off, rfl, hblt, hbc⟩
        · exfalso; rw [hA] at hnl; simp at hnl
        have cn0 : wb.cell? ⟨b, off, none⟩ = some (str n0) := by simpa using hbc 0 n0 HE.out
        clear hbc HSC HG HT H1 H2 H3 a0 a1 a2
        go_wp2_with (first
          | (go_at_call_of 33 (Value.slice A2 ps.length c2); refine (HJP.out _ L2.out).mono ?_; rintro e w' ⟨rfl, rfl⟩)
          | (go_at_call_of 33 (Value.slice A3 bs.length c3); refine (HJB.out _ L3.out).mono ?_; rintro e w' ⟨rfl, rfl⟩))
        refine wp_region_bw (by kernel_rfl) (by kernel_rfl) ?_
        repeat (go_big_quiet_step (first | (go_at_call 31; exact bw_call (C1.out _)) | (go_at_call 37; exact bw_call (C2.out _)) | (go_at_call 38; exact bw_call (C3.out _)) | (go_at_call 39; exact bw_call (C4.out _))))
        refine wpQuiet_nil ?_
        intro _ hw'
        obtain ⟨⟨wq, hbq⟩, rfl⟩ := hw'
        go_wp2_with fail
        go_ret
        exact ⟨rfl, bl_next' HBW.out hbq⟩
      · have eb : Sem.buildText bs = [] := by unfold Sem.buildText; rw [if_pos (List.eq_nil_of_length_eq_zero (by omega))]
        rw [eb] at C4
        clear ep eb l2 l3
        generalize Sem.joinBy [46] ps = JP at *
        generalize Sem.joinBy [46] bs = JB at *
        go_enter Try.func15, Try.ntmps15
        go_wp2_with fail
        refine HG.out.mono ?_
        rintro e wa ⟨rfl, hba⟩
        generalize w.alloc (Obj.cells #[.slice A1 ns.length c1, .slice A2 ps.length c2, .slice A3 bs.length c3] 40) = w0 at *
        have a0 := HSC.out 0 _ rfl wa hba
        have a1 := HSC.out 1 _ rfl wa hba
        have a2 := HSC.out 2 _ rfl wa hba
        have HBA := Lib.hid hba
        clear hba
        go_wp2_with fail
        refine (HT.out _ (H1.out.below HBA.out) (H2.out.below HBA.out) (H3.out.below HBA.out)).mono ?_
        rintro e wb ⟨rfl, hbb⟩
        have HBB : Hid (Below w0.heap.size w0 wb) := Lib.hid (bl_next' HBA.out hbb)
        have HBW : Hid (Below w.heap.size w wb) := Lib.hid (bl_next' W0.out HBB.out)
        clear hbb
        have e0 := HSC.out 0 _ rfl wb HBB.out
        have e1 := HSC.out 1 _ rfl wb HBB.out
        have e2 := HSC.out 2 _ rfl wb HBB.out
        have hwb : w.heap.size < wb.heap.size := Nat.lt_of_lt_of_le HZ.out HBB.out.size
        have L1 := H1.out.below HBB.out
        have L2 : Hid (StrsAt wb (.slice A2 ps.length c2) ps) := Lib.hid (H2.out.below HBB.out)
        have L3 : Hid (StrsAt wb (.slice A3 bs.length c3) bs) := Lib.hid (H3.out.below HBB.out)
        obtain ⟨_, _, eA, -, -, hA⟩ := L1
        cases eA
        rcases hA with hA | ⟨b, off, rfl, hblt, hbc⟩
        · exfalso; rw [hA] at hnl; simp at hnl
        have cn0 : wb.cell? ⟨b, off, none⟩ = some (str n0) := by simpa using hbc 0 n0 HE.out
        clear hbc HSC HG HT H1 H2 H3 a0 a1 a2
        go_wp2_with (first
          | (go_at_call_of 33 (Value.slice A2 ps.length c2); refine (HJP.out _ L2.out).mono ?_; rintro e w' ⟨rfl, rfl⟩)
          | (go_at_call_of 33 (Value.slice A3 bs.length c3); refine (HJB.out _ L3.out).mono ?_; rintro e w' ⟨rfl, rfl⟩))
        refine wp_region_bw (by kernel_rfl) (by kernel_rfl) ?_
        repeat (go_big_quiet_step (first | (go_at_call 31; exact bw_call (C1.out _)) | (go_at_call 37; exact bw_call (C2.out _)) | (go_at_call 38; exact bw_call (C3.out _)) | (go_at_call 39; exact bw_call (C4.out _))))
        refine wpQuiet_nil ?_
        intro _ hw'
        obtain ⟨⟨wq, hbq⟩, rfl⟩ := hw'
        go_wp2_with fail
        go_ret
        exact ⟨rfl, bl_next' HBW.out hbq⟩
    · have ep : Sem.preText ps = [] := by unfold Sem.preText; rw [if_pos (List.eq_nil_of_length_eq_zero (by omega))]
      rw [ep] at C3
      by_cases hb : 0 < bs.length
      · have eb : Sem.buildText bs = 43 :: Sem.joinBy [46] bs := by unfold Sem.buildText; rw [if_neg (by rintro rfl; simp at hb)]
        rw [eb] at C4
        clear ep eb l2 l3
        generalize Sem.joinBy [46] ps = JP at *
        generalize Sem.joinBy [46] bs = JB at *
        go_enter Try.func15, Try.ntmps15
        go_wp2_with fail
        refine HG.out.mono ?_
        rintro e wa ⟨rfl, hba⟩
        generalize w.alloc (Obj.cells #[.slice A1 ns.length c1, .slice A2 ps.length c2, .slice A3 bs.length c3] 40) = w0 at *
        have a0 := HSC.out 0 _ rfl wa hba
        have a1 := HSC.out 1 _ rfl wa hba
        have a2 := HSC.out 2 _ rfl wa hba
        have HBA := Lib.hid hba
        clear hba
        go_wp2_with fail
        refine (HT.out _ (H1.out.below HBA.out) (H2.out.below HBA.out) (H3.out.below HBA.out)).mono ?_
        rintro e wb ⟨rfl, hbb⟩
        have HBB : Hid (Below w0.heap.size w0 wb) := Lib.hid (bl_next' HBA.out hbb)
        have HBW : Hid (Below w.heap.size w wb) := Lib.hid (bl_next' W0.out HBB.out)
        clear hbb
        have e0 := HSC.out 0 _ rfl wb HBB.out
        have e1 := HSC.out 1 _ rfl wb HBB.out
        have e2 := HSC.out 2 _ rfl wb HBB.out
        have hwb : w.heap.size < wb.heap.size := Nat.lt_of_lt_of_le HZ.out HBB.out.size
        have L1 := H1.out.below HBB.out
        have L2 : Hid (StrsAt wb (.slice A2 ps.length c2) ps) := Lib.hid (H2.out.below HBB.out)
        have L3 : Hid (StrsAt wb (.slice A3 bs.length c3) bs) := Lib.hid (H3.out.below HBB.out)
        obtain ⟨_, _, eA, -, -, hA⟩ := L1
        cases eA
        rcases hA with hA | ⟨b, off, rfl, hblt, hbc⟩
        · exfalso; rw [hA] at hnl; simp at hnl
        have cn0 : wb.cell? ⟨b, off, none⟩ = some (str n0) := by simpa using hbc 0 n0 HE.out
        clear hbc HSC HG HT H1 H2 H3 a0 a1 a2
        go_wp2_with (first
          | (go_at_call_of 33 (Value.slice A2 ps.length c2); refine (HJP.out _ L2.out).mono ?_; rintro e w' ⟨rfl, rfl⟩)
          | (go_at_call_of 33 (Value.slice A3 bs.length c3); refine (HJB.out _ L3.out).mono ?_; rintro e w' ⟨rfl, rfl⟩))
        refine wp_region_bw (by kernel_rfl) (by kernel_rfl) ?_
        repeat (go_big_quiet_step (first | (go_at_call 31; exact bw_call (C1.out _)) | (go_at_call 37; exact bw_call (C2.out _)) | (go_at_call 38; exact bw_call (C3.out _)) | (go_at_call 39; exact bw_call (C4.out _))))
        refine wpQuiet_nil ?_
        intro _ hw'
        obtain ⟨⟨wq, hbq⟩, rfl⟩ := hw'
        go_wp2_with fail
        go_ret
        exact ⟨rfl, bl_next' HBW.out hbq⟩
      · have eb : Sem.buildText bs = [] := by unfold Sem.buildText; rw [if_pos (List.eq_nil_of_length_eq_zero (by omega))]
        rw [eb] at C4
        clear ep eb l2 l3
        generalize Sem.joinBy [46] ps = JP at *
        generalize Sem.joinBy [46] bs = JB at *
        go_enter Try.func15, Try.ntmps15
        go_wp2_with fail
        refine HG.out.mono ?_
        rintro e wa ⟨rfl, hba⟩
        generalize w.alloc (Obj.cells #[.slice A1 ns.length c1, .slice A2 ps.length c2, .slice A3 bs.length c3] 40) = w0 at *
        have a0 := HSC.out 0 _ rfl wa hba
        have a1 := HSC.out 1 _ rfl wa hba
        have a2 := HSC.out 2 _ rfl wa hba
        have HBA := Lib.hid hba
        clear hba
        go_wp2_with fail
        refine (HT.out _ (H1.out.below HBA.out) (H2.out.below HBA.out) (H3.out.below HBA.out)).mono ?_
        rintro e wb ⟨rfl, hbb⟩
        have HBB : Hid (Below w0.heap.size w0 wb) := Lib.hid (bl_next' HBA.out hbb)
        have HBW : Hid (Below w.heap.size w wb) := Lib.hid (bl_next' W0.out HBB.out)
        clear hbb
        have e0 := HSC.out 0 _ rfl wb HBB.out
        have e1 := HSC.out 1 _ rfl wb HBB.out
        have e2 := HSC.out 2 _ rfl wb HBB.out
        have hwb : w.heap.size < wb.heap.size := Nat.lt_of_lt_of_le HZ.out HBB.out.size
        have L1 := H1.out.below HBB.out
        have L2 : Hid (StrsAt wb (.slice A2 ps.length c2) ps) := Lib.hid (H2.out.below HBB.out)
        have L3 : Hid (StrsAt wb (.slice A3 bs.length c3) bs) := Lib.hid (H3.out.below HBB.out)
        obtain ⟨_, _, eA, -, -, hA⟩ := L1
        cases eA
        rcases hA with hA | ⟨b, off, rfl, hblt, hbc⟩
        · exfalso; rw [hA] at hnl; simp at hnl
        have cn0 : wb.cell? ⟨b, off, none⟩ = some (str n0) := by simpa using hbc 0 n0 HE.out
        clear hbc HSC HG HT H1 H2 H3 a0 a1 a2
        go_wp2_with (first
          | (go_at_call_of 33 (Value.slice A2 ps.length c2); refine (HJP.out _ L2.out).mono ?_; rintro e w' ⟨rfl, rfl⟩)
          | (go_at_call_of 33 (Value.slice A3 bs.length c3); refine (HJB.out _ L3.out).mono ?_; rintro e w' ⟨rfl, rfl⟩))
        refine wp_region_bw (by kernel_rfl) (by kernel_rfl) ?_
        repeat (go_big_quiet_step (first | (go_at_call 31; exact bw_call (C1.out _)) | (go_at_call 37; exact bw_call (C2.out _)) | (go_at_call 38; exact bw_call (C3.out _)) | (go_at_call 39; exact bw_call (C4.out _))))
        refine wpQuiet_nil ?_
        intro _ hw'
        obtain ⟨⟨wq, hbq⟩, rfl⟩ := hw'
        go_wp2_with fail
        go_ret
        exact ⟨rfl, bl_next' HBW.out hbq⟩

end Go.Proofs.Ytpcmdgmbacokfaa
