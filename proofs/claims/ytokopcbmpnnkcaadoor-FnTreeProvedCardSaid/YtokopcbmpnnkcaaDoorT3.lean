/- tlog.runRecordProof, tlog.CheckRecord. Conditions: the numbers of records are below 2 to the power of 41; the hashes lie in memory; the variable errProofFailed holds an error. -/
import Derived.Test.YtokopcbmpnnkcaaDoorT2
namespace Go.Proofs.YtokopcbmpnnkcaaDoor
open Go.RowKit

theorem rangeAt_below {w w' : World} {b o : Nat} {cs : List Value} (h : w.rangeAt b o cs) (hb : Below w.heap.size w w') (hlt : b < w.heap.size) : w'.rangeAt b o cs := rangeAt_block h (hb.block b hlt)
theorem b_there {w : World} {g : Nat} {t : TypeId} {ys : List Int} (h : BAt w g t ys) (n : Nat) (hn : n ≤ ys.length) : w.there g 0 n := fun j hj => by
  rw [Nat.zero_add, h.cell (by omega)]
  exact ⟨rfl, h.frozen j⟩
theorem cell_setCells {w : World} {g b o : Nat} {vs : List Value} {E : Value} (h : w.cell? ⟨g, 0, none⟩ = some E) (hne : g ≠ b) : (w.setCells b o vs).cell? ⟨g, 0, none⟩ = some E := by
  rw [World.cell?_setCells_out b vs o w ⟨g, 0, none⟩ (fun e _ => absurd e hne)]
  exact h
theorem hcs_one (h : List Int) : ∀ v ∈ hcs h, v.oneCell' = true := fun v hv => by
  obtain ⟨z, _, rfl⟩ := List.mem_map.1 hv
  rfl
theorem info_hcs {h : List Int} (hl : h.length = 32) : (Tryd.prog.info? 54).map (·.size) = some (hcs h).length := by rw [hcs_len, hl, size_hh]
def z32 : List Int := List.replicate 32 0
/-- a hash and an error: what a proof gives -/
def recOut (E : Value) : Option (List Int) → Value
  | some h => .tuple #[.agg (hcs h).toArray, .nilIface]
  | none => .tuple #[.agg (hcs z32).toArray, E]
theorem below_set {w w1 : World} {B g : Nat} (h : Below B w w1) (hg : B ≤ g) (hB : B ≤ w.heap.size) (o : Nat) (vs : List Value) : Below B w (w1.setCells g o vs) := below_but h (setCells_but vs o _ (But.refl g w1)) hg hB
theorem HIn.last {w : World} {v : Value} {hs : List (List Int)} {q : List Int} (h : HIn w v (hs ++ [q])) : ∃ b off c, v = .slice (some ⟨b, off, none⟩) (hs.length + 1) c ∧ hs.length + 1 ≤ c ∧ c ≤ 9223372036854775807 ∧ b < w.heap.size ∧ w.rangeAt b (off + hs.length * 32) (hcs q) ∧ q.length = 32 ∧
    HIn w (.slice (some ⟨b, off, none⟩) hs.length c) hs := by
  obtain ⟨h0, A, c, e, h1, h2, h3⟩ := h
  simp only [List.length_append, List.length_singleton] at e h1
  obtain ⟨b, off, rfl, hlt, hr⟩ := h3.resolve_left (by omega)
  refine ⟨b, off, c, e, h1, h2, hlt, hr hs.length q (by simp), h0 q (by simp), fun x hx => h0 x (by simp [hx]), some ⟨b, off, none⟩, c, rfl, by omega, h2, .inr ⟨b, off, rfl, hlt, fun j x hx => hr j x ?_⟩⟩
  rw [List.getElem?_append_left (List.getElem?_eq_some_iff.1 hx).1]
  exact hx

theorem there_below {w w' : World} {g n : Nat} (h : w.there g 0 n) (hb : Below w.heap.size w w') (hg : g < w.heap.size) : w'.there g 0 n := fun j hj => by
  have := h j hj
  rw [← World.cell?_of_block (w := w) (w' := w') (a := ⟨g, 0 + j, none⟩) (hb.block g hg), ← World.frozen?_of_block (w := w) (w' := w') (a := ⟨g, 0 + j, none⟩) (hb.block g hg)] at this
  exact this
theorem there_new (w : World) (zs : List Int) (t : TypeId) (n : Nat) (hn : n ≤ zs.length) : (w.alloc (Obj.cells (hcs zs).toArray t)).there w.heap.size 0 n := b_there (t := t) (ys := zs) (heap_alloc_new w _) n hn
theorem runRec_len {ks : List Int} {ps : List (List Int)} {leaf x : List Int} {lo d n : Nat} (hp : ∀ h ∈ ps, h.length = 32) (hl : leaf.length = 32) (h : Tr.runRec (nhK ks) ps lo d n leaf = some x) : x.length = 32 := by
  by_cases hd : d ≤ 1
  · rw [Tr.runRec_one _ hd] at h
    split at h
    · cases h; exact hl
    · cases h
  · rcases List.eq_nil_or_concat ps with rfl | ⟨p, q, rfl⟩
    · rw [Tr.runRec_nil _ (by omega)] at h; cases h
    · rw [List.concat_eq_append] at h
      by_cases hn : n < lo + Tr.half d
      · rw [Tr.runRec_left _ (by omega) hn, Option.map_eq_some_iff] at h
        obtain ⟨y, _, rfl⟩ := h
        exact nhK_len _ _ _
      · rw [Tr.runRec_right _ (by omega) hn, Option.map_eq_some_iff] at h
        obtain ⟨y, _, rfl⟩ := h
        exact nhK_len _ _ _
set_option maxHeartbeats 600000 in
set_option maxRecDepth 50000 in
/-- the leaf: no hash may be left -/
theorem runRec_leaf (lo hi : Nat) (v : Value) (ps : List (List Int)) (leaf : List Int) (E : Value) (w : World) (hd : hi = lo + 1) (hb : hi < 2199023255552) (hv : HIn w v ps) (hl : leaf.length = 32)
    (hE : w.cell? ⟨1, 0, none⟩ = some E) (hE0 : 1 < w.heap.size) :
    Calls Tryd.prog 44 #[v, .int .i64 lo, .int .i64 hi, .int .i64 lo, .agg (hcs leaf).toArray] w fun e w' => e = .returned (recOut E (if ps = [] then some leaf else none)) ∧ Below w.heap.size w w' := by
  subst hd
  have hz := zh_zero
  rw [show ((List.replicate 32 (0 : Int)).map (Value.int .u8)).toArray = (hcs z32).toArray from rfl] at hz
  obtain ⟨h0, A, c, rfl, h1, h2, h3⟩ := hv
  obtain ⟨zs, hzs⟩ : ∃ zs, zs = z32 := ⟨_, rfl⟩
  have HZS := Lib.hid hzs
  rw [← hzs] at hz
  have HZL : Hid (zs.length = 32) := Lib.hid (by rw [hzs]; rfl)
  obtain ⟨W2, hW2⟩ : ∃ W2, W2 = (w.alloc (Obj.cells (hcs leaf).toArray 54)).alloc (Obj.cells (hcs zs).toArray 54) := ⟨_, rfl⟩
  have HW2 := Lib.hid hW2
  have HB2 : Hid (Below w.heap.size w W2) := Lib.hid (by rw [hW2]; exact ((Below.refl w.heap.size w).alloc (Nat.le_refl _) _).alloc (by simp) _)
  have HL2 : Hid (BAt W2 w.heap.size 54 leaf) := Lib.hid (by rw [hW2]; exact (Below.heap_alloc _ _ _ (by simp)).trans (heap_alloc_new w _))
  have HR2 : Hid (BAt W2 (w.heap.size + 1) 54 zs) := Lib.hid (by
    have := heap_alloc_new (w.alloc (Obj.cells (hcs leaf).toArray 54)) (Obj.cells (hcs zs).toArray 54)
    rw [show (w.alloc (Obj.cells (hcs leaf).toArray 54)).heap.size = w.heap.size + 1 by simp] at this
    rw [hW2]; exact this)
  have hcE : W2.cell? ⟨1, 0, none⟩ = some E := (HB2.out.cell (p := ⟨1, 0, none⟩) hE0).trans hE
  have HLL := Lib.hid hl
  have hb1 : decide ((lo : Int) < (lo : Int) + 1) = true := by simp; omega
  clear hW2 hE hl h3 h0 hzs
  by_cases hp : ps = []
  · subst hp
    go_enter Tryd.func44, Tryd.ntmps44
    go_upto_region 1 with fail
    rw [← HW2.out]
    clear hcE
    go_wp2_with (first
      | (refine wpList_loadH rfl (.tmp 9) rfl w.heap.size rfl 54 leaf HL2.out HLL.out ?_)
      | (refine wpList_storeH rfl (.tmp 10) (.tmp 37) rfl (w.heap.size + 1) leaf rfl rfl 54 zs HR2.out HZL.out HLL.out ?_; intro w3 HR3 HX3))
    try simp only [Exit.inBlock, Exit.then]
    refine bodyPost_ret (results_cell_tmp_mid rfl _ _ (w.heap.size + 1) 0 (hcs leaf) _ rfl (b_range HR3.out) Tryd.underlying54 rfl (info_hcs HLL.out)) rfl ?_
    exact ⟨rfl, below_but HB2.out HX3.out (by omega)⟩
  · rw [if_neg hp]
    have hpl : 0 < ps.length := List.length_pos_iff.2 hp
    have hpl0 : ((ps.length : Int) != 0) = true := by simp; omega
    have HP := Lib.hid hp
    have hth : W2.there (w.heap.size + 1) 0 (hcs zs).length := b_there HR2.out _ (by rw [hcs_len]; exact Nat.le_refl _)
    have hu := Tryd.underlying54
    have hinf : (Tryd.prog.info? 54).map (·.size) = some (hcs zs).length := info_hcs HZL.out
    have hone := hcs_one zs
    clear hp
    go_enter Tryd.func44, Tryd.ntmps44
    go_upto_region 1 with fail
    rw [← HW2.out]
    go_upto_region 5 with fail
    go_region_held3 (fun w' => w'.cell? ⟨1, 0, none⟩ = some E ∧ w'.there (w.heap.size + 1) 0 (hcs zs).length) ((first | (exact ⟨by simpa using hcE, by simpa using hth⟩) | (go_split_ands; exact ⟨cell_setCells (by assumption) (by omega), by apply World.there_setCells; assumption⟩))) (fail)
    clear hu hinf hone
    go_wp2_with fail
    try simp only [Exit.inBlock, Exit.then]
    refine bodyPost_ret (results_cell_tmp_mid rfl _ _ (w.heap.size + 1) 0 (hcs zs) _ rfl (World.rangeAt_setCells_same _ _ _ _ (by simpa using hth)) Tryd.underlying54 rfl (info_hcs HZL.out)) rfl ?_
    exact ⟨by rw [HZS.out]; rfl, below_but HB2.out (setCells_but (hcs zs) 0 _ (But.refl (w.heap.size + 1) W2)) (by omega)⟩

set_option maxHeartbeats 8000000 in
set_option maxRecDepth 50000 in
theorem runRec_any (ks : List Int) (E0t : TypeId) (E0a : Addr) (d : Nat) : ∀ (lo hi n : Nat) (v : Value) (ps : List (List Int)) (leaf : List Int) (w : World), hi - lo = d → lo ≤ n → n < hi → hi < 2199023255552 → HIn w v ps → leaf.length = 32 → WAt w 4 ks →
    w.cell? ⟨1, 0, none⟩ = some (.iface E0t (.pointer (some E0a))) → 1 < w.heap.size →
    Calls Tryd.prog 44 #[v, .int .i64 lo, .int .i64 hi, .int .i64 n, .agg (hcs leaf).toArray] w fun e w' => e = .returned (recOut (.iface E0t (.pointer (some E0a))) (Tr.runRec (nhK ks) ps lo (hi - lo) n leaf)) ∧ Below w.heap.size w w' := by
  induction d using Nat.strongRecOn with
  | ind d ih =>
    intro lo hi n v ps leaf w hd h1 h2 hb hv hl hK hE hE0
    by_cases h : hi - lo ≤ 1
    · obtain rfl : n = lo := by omega
      rw [Tr.runRec_one _ h]
      exact runRec_leaf n hi v ps leaf _ w (by omega) hb hv hl hE hE0
    · have hz := zh_zero
      rw [show ((List.replicate 32 (0 : Int)).map (Value.int .u8)).toArray = (hcs z32).toArray from rfl] at hz
      obtain ⟨zs, hzs⟩ : ∃ zs, zs = z32 := ⟨_, rfl⟩
      have HZS := Lib.hid hzs
      rw [← hzs] at hz
      have HZL : Hid (zs.length = 32) := Lib.hid (by rw [hzs]; rfl)
      have hk0 : 4 < w.heap.size := (Array.getElem?_eq_some_iff.1 hK.2.2).1
      have HK := Lib.hid hK
      have HV := Lib.hid hv
      obtain ⟨E, hEE⟩ : ∃ E, E = Value.iface E0t (.pointer (some E0a)) := ⟨_, rfl⟩
      have HEE := Lib.hid hEE
      obtain ⟨W2, hW2⟩ : ∃ W2, W2 = (w.alloc (Obj.cells (hcs leaf).toArray 54)).alloc (Obj.cells (hcs zs).toArray 54) := ⟨_, rfl⟩
      have HW2 := Lib.hid hW2
      have HB2 : Hid (Below w.heap.size w W2) := Lib.hid (by rw [hW2]; exact ((Below.refl w.heap.size w).alloc (Nat.le_refl _) _).alloc (by simp) _)
      have HL2 : Hid (BAt W2 w.heap.size 54 leaf) := Lib.hid (by rw [hW2]; exact (Below.heap_alloc _ _ _ (by simp)).trans (heap_alloc_new w _))
      have HR2 : Hid (BAt W2 (w.heap.size + 1) 54 zs) := Lib.hid (by
        have := heap_alloc_new (w.alloc (Obj.cells (hcs leaf).toArray 54)) (Obj.cells (hcs zs).toArray 54)
        rw [show (w.alloc (Obj.cells (hcs leaf).toArray 54)).heap.size = w.heap.size + 1 by simp] at this
        rw [hW2]; exact this)
      have hsz2 : W2.heap.size = w.heap.size + 2 := by rw [hW2]; simp
      have HS2 := Lib.hid hsz2
      have HE2 : Hid (W2.cell? ⟨1, 0, none⟩ = some E) := Lib.hid (by rw [hEE]; exact (HB2.out.cell (p := ⟨1, 0, none⟩) hE0).trans hE)
      have HLL := Lib.hid hl
      have hth : W2.there (w.heap.size + 1) 0 (hcs zs).length := b_there HR2.out _ (by rw [hcs_len]; exact Nat.le_refl _)
      have HTH := Lib.hid hth
      have hu := Tryd.underlying54
      have hinfz : (Tryd.prog.info? 54).map (·.size) = some (hcs zs).length := info_hcs HZL.out
      have honez := hcs_one zs
      have hb1 : decide ((lo : Int) ≤ n) = true := by simp; omega
      have hb2 : decide ((n : Int) < hi) = true := by simp; omega
      have hb3 : ((lo : Int) + 1 == hi) = false := by simp; omega
      rcases List.eq_nil_or_concat ps with rfl | ⟨ps', q, rfl⟩
      · rw [Tr.runRec_nil _ (by omega), ← hEE]
        obtain ⟨h0, A, c, rfl, h3, h4, h5⟩ := hv
        have hcE := HE2.out
        clear hW2 hE hl h0 hzs h5 hK ih hd hth hsz2 hEE
        go_enter Tryd.func44, Tryd.ntmps44
        go_upto_region 1 with fail
        rw [← HW2.out]
        go_upto_region 8 with fail
        go_region_held3 (fun w' => w'.cell? ⟨1, 0, none⟩ = some E ∧ w'.there (w.heap.size + 1) 0 (hcs zs).length) ((first | (exact ⟨by simpa using hcE, by simpa using HTH.out⟩) | (go_split_ands; exact ⟨cell_setCells (by assumption) (by omega), by apply World.there_setCells; assumption⟩))) (fail)
        clear hu hinfz honez
        go_wp2_with fail
        try simp only [Exit.inBlock, Exit.then]
        refine bodyPost_ret (results_cell_tmp_mid rfl _ _ (w.heap.size + 1) 0 (hcs zs) _ rfl (World.rangeAt_setCells_same _ _ _ _ (by simpa using HTH.out)) Tryd.underlying54 rfl (info_hcs HZL.out)) rfl ?_
        exact ⟨by rw [HZS.out]; rfl, below_but HB2.out (setCells_but (hcs zs) 0 _ (But.refl (w.heap.size + 1) W2)) (by omega)⟩
      · rw [List.concat_eq_append] at hv HV ⊢
        obtain ⟨b, off, c, rfl, hc1, hc2, hblt, hqr, hql, hvl⟩ := hv.last
        have hhp := Tr.half_pos (hi - lo)
        have hhl := Tr.half_lt (d := hi - lo) (by omega)
        have hmp := maxpow2_any (hi - lo - 1) (by omega) (by omega)
        rw [show 2 ^ (hi - lo - 1).log2 = Tr.half (hi - lo) from rfl] at hmp
        have HMP := Lib.hid hmp
        have hc3 : ((hi : Int) - lo) = ((hi - lo - 1 : Nat) : Int) + 1 := by omega
        have HQL := Lib.hid hql
        have HB2E : Hid (∀ w', Below W2.heap.size W2 w' → Below w.heap.size w w') := Lib.hid (fun w' hbb => HB2.out.trans (hbb.mono HB2.out.size))
        by_cases hn : n < lo + Tr.half (hi - lo)
        · have HI := Lib.hid (Tr.runRec_left (nhK ks) (lo := lo) (d := hi - lo) (n := n) (p := ps') (q := q) (leaf := leaf) (by omega) hn)
          have HC : Hid (∀ w', Below W2.heap.size W2 w' → Calls Tryd.prog 44 #[.slice (some ⟨b, off, none⟩) ps'.length c, .int .i64 lo, .int .i64 ((lo : Int) + (Tr.half (hi - lo) : Nat)), .int .i64 n, .agg (hcs leaf).toArray] w' fun e w'' =>
              e = .returned (recOut E (Tr.runRec (nhK ks) ps' lo (Tr.half (hi - lo)) n leaf)) ∧ Below w'.heap.size w' w'' ∧ w''.rangeAt w.heap.size 0 (hcs leaf) ∧ w.heap.size ≠ w''.heap.size ∧ ∀ g n, g < w'.heap.size → w'.there g 0 n → w''.there g 0 n) := Lib.hid (fun w' hbb => by
            have hb' := HB2E.out w' hbb
            have := ih (Tr.half (hi - lo)) (by omega) lo (lo + Tr.half (hi - lo)) n _ ps' leaf w' (by omega) h1 hn (by omega) (hvl.below hb') hl (hK.below hb' hk0) ((hb'.cell (p := ⟨1, 0, none⟩) hE0).trans hE) (by have := hb'.size; omega)
            rw [Nat.add_sub_cancel_left, ← hEE] at this
            refine this.mono ?_
            rintro e w'' ⟨he, hbel⟩
            exact ⟨he, hbel, rangeAt_below (rangeAt_below (b_range HL2.out) hbb (by rw [HS2.out]; omega)) hbel (by have := hbb.size; rw [HS2.out] at this; omega), (by have h5 := hbb.size; rw [HS2.out] at h5; have h6 := hbel.size; omega), fun g n hg ht => there_below ht hbel hg⟩)
          rw [← hEE, HI.out]
          have hr2 : W2.rangeAt w.heap.size 0 (hcs leaf) := b_range HL2.out
          have hinfl : (Tryd.prog.info? 54).map (·.size) = some (hcs leaf).length := info_hcs hl
          have honel := hcs_one leaf
          obtain ⟨K, hKK⟩ : ∃ K, K = Tr.half (hi - lo) := ⟨_, rfl⟩
          rw [← hKK] at HI HC HMP hn hhl hhp
          rw [← hKK]
          obtain ⟨M, hM⟩ : ∃ M, M = ps'.length + 1 := ⟨_, rfl⟩
          rw [← hM]
          have hMz : ((M : Int) == 0) = false := by simp; omega
          have HM := Lib.hid hM
          have hM1 : ps'.length = M - 1 := by omega
          rw [hM1] at HC
          obtain ⟨J, hJ⟩ : ∃ J : Int, J = (M : Int) - 1 := ⟨_, rfl⟩
          have hs1 : (0 : Int) ≤ J := by omega
          have hs2 : J ≤ (c : Int) := by omega
          have hs3 : J.toNat = M - 1 := by omega
          have hs6 : J < (M : Int) := by omega
          have HMW : Hid (IntKind.i64.wrap ((M : Int) - 1) = J) := Lib.hid (by rw [IntWalk.i64_in _ (by omega), hJ])
          have HKW : Hid (IntKind.i64.wrap ((lo : Int) + (K : Int)) = (lo : Int) + (K : Int)) := Lib.hid (IntWalk.i64_in _ (by omega))
          obtain ⟨N, hN⟩ : ∃ N, N = M - 1 := ⟨_, rfl⟩
          rw [← hN] at HC hs3
          have HN := Lib.hid hN
          clear hN hJ
          cases hr : Tr.runRec (nhK ks) ps' lo K n leaf with
          | none =>
            rw [hr] at HC
            simp only [recOut] at HC
            rw [show z32 = zs from HZS.out.symm] at HC
            clear hW2 hE hl hzs hK ih hd hth hsz2 hEE hmp hr hKK hqr hql hvl hv hM hM1
            go_enter Tryd.func44, Tryd.ntmps44
            go_upto_region 1 with fail
            rw [← HW2.out]
            go_upto_region 11 with (go_at_call 52; refine (HMP.out _).mono ?_; rintro e w' ⟨rfl, rfl⟩)
            have HNB := Lib.hid (there_new W2.drew zs 54 (hcs zs).length (by rw [hcs_len]; exact Nat.le_refl _))
            have hltB : W2.heap.size < (W2.drew.alloc (Obj.cells (hcs zs).toArray 54)).heap.size := by simp
            have hneW : w.heap.size ≠ W2.heap.size := by rw [HS2.out]; omega
            have hMw := HMW.out
            have hKw := HKW.out
            go_region_held3 (fun w' => w'.rangeAt w.heap.size 0 (hcs leaf)) ((first | assumption | (exact World.rangeAt_setCells_apart (by assumption) _ _ _ (.inl (by assumption))) | (exact World.rangeAt_alloc (by assumption) _) | (simpa using hr2))) ((go_at_call 44; (with_reducible refine (HC.out _ ?hcb).mono ?_); (case hcb => first | exact (Below.refl _ _).drew | exact (Below.refl _ _).drew.alloc (Nat.le_refl _) _); rintro e w1 ⟨rfl, hb1', hk1, hne1, hth1⟩; have hA := there_new w1 zs 54 (hcs zs).length (by rw [hcs_len]; exact Nat.le_refl _); (try have hB := hth1 _ _ hltB HNB.out)))
            all_goals clear hMw hKw hr2
            · have HBF : Hid (Below W2.heap.size W2 ((w1.alloc (Obj.cells (hcs zs).toArray 54)).setCells w1.heap.size 0 (hcs zs))) := Lib.hid (by
                have hx1 : Below W2.heap.size W2 w1 := (Below.refl W2.heap.size W2).drew.trans hb1'
                exact below_set (hx1.alloc hx1.size _) hx1.size (Nat.le_refl _) 0 _)
              clear hA hb1' hk1 hne1 hth1
              obtain ⟨wf, hwf⟩ : ∃ wf, wf = ((w1.alloc (Obj.cells (hcs zs).toArray 54)).setCells w1.heap.size 0 (hcs zs)) := ⟨_, rfl⟩
              rw [← hwf] at HBF ⊢
              clear hwf
              generalize w1.heap.size = g at *
              rw [HEE.out]
              have HBW : Hid (Below w.heap.size w wf) := Lib.hid (HB2E.out _ HBF.out)
              have HTF : Hid (wf.there (w.heap.size + 1) 0 (hcs zs).toArray.size) := Lib.hid (there_below HTH.out HBF.out (by rw [HS2.out]; omega))
              go_wp2_with (refine wpList_store_mid rfl 54 (.tmp 10) (.tmp 72) rfl (w.heap.size + 1) 0 (hcs zs).toArray rfl rfl HTF.out (info_hcs HZL.out) (all_oneCell_toArray (hcs_one zs)) ?_)
              try simp only [Exit.inBlock, Exit.then]
              refine bodyPost_ret (results_cell_tmp_mid rfl _ _ (w.heap.size + 1) 0 (hcs zs) _ rfl (World.rangeAt_setCells_same _ _ _ _ HTF.out) Tryd.underlying54 rfl (info_hcs HZL.out)) rfl ?_
              exact ⟨by rw [HZS.out, HEE.out]; rfl, below_set HBW.out (by omega) (Nat.le_refl _) 0 _⟩
            · have HBF : Hid (Below W2.heap.size W2 (w1.setCells W2.heap.size 0 (hcs zs))) := Lib.hid (by
                have hx1 : Below W2.heap.size W2 w1 := ((Below.refl W2.heap.size W2).drew.alloc (Nat.le_refl _) (Obj.cells (hcs zs).toArray 54)).trans (hb1'.mono (by simp))
                exact below_set hx1 (Nat.le_refl _) (Nat.le_refl _) 0 _)
              clear hA hB hb1' hk1 hne1 hth1 hltB
              obtain ⟨wf, hwf⟩ : ∃ wf, wf = (w1.setCells W2.heap.size 0 (hcs zs)) := ⟨_, rfl⟩
              rw [← hwf] at HBF ⊢
              clear hwf
              obtain ⟨g, hg⟩ : ∃ g, g = W2.heap.size := ⟨_, rfl⟩
              rw [← hg]
              clear hg
              rw [HEE.out]
              have HBW : Hid (Below w.heap.size w wf) := Lib.hid (HB2E.out _ HBF.out)
              have HTF : Hid (wf.there (w.heap.size + 1) 0 (hcs zs).toArray.size) := Lib.hid (there_below HTH.out HBF.out (by rw [HS2.out]; omega))
              go_wp2_with (refine wpList_store_mid rfl 54 (.tmp 10) (.tmp 72) rfl (w.heap.size + 1) 0 (hcs zs).toArray rfl rfl HTF.out (info_hcs HZL.out) (all_oneCell_toArray (hcs_one zs)) ?_)
              try simp only [Exit.inBlock, Exit.then]
              refine bodyPost_ret (results_cell_tmp_mid rfl _ _ (w.heap.size + 1) 0 (hcs zs) _ rfl (World.rangeAt_setCells_same _ _ _ _ HTF.out) Tryd.underlying54 rfl (info_hcs HZL.out)) rfl ?_
              exact ⟨by rw [HZS.out, HEE.out]; rfl, below_set HBW.out (by omega) (Nat.le_refl _) 0 _⟩
          | some x =>
            rw [hr] at HC
            simp only [recOut] at HC
            have HXL : Hid (x.length = 32) := Lib.hid (runRec_len hvl.1 hl hr)
            have HXZ : Hid ((hcs x).length ≤ zs.length) := Lib.hid (by rw [hcs_len, HXL.out, HZL.out]; exact Nat.le_refl _)
            have hinfx := info_hcs HXL.out
            have HQ0 : Hid (w.rangeAt b (off + N * 32) (hcs q)) := Lib.hid (by rw [HN.out, ← hM1]; exact hqr)
            have honex := hcs_one x
            clear hW2 hE hl hzs hK ih hd hth hsz2 hEE hmp hr hKK hqr hql hvl hv hM hM1
            go_enter Tryd.func44, Tryd.ntmps44
            go_upto_region 1 with fail
            rw [← HW2.out]
            go_upto_region 11 with (go_at_call 52; refine (HMP.out _).mono ?_; rintro e w' ⟨rfl, rfl⟩)
            have HNB := Lib.hid (there_new W2.drew zs 54 (hcs x).length HXZ.out)
            have hltB : W2.heap.size < (W2.drew.alloc (Obj.cells (hcs zs).toArray 54)).heap.size := by simp
            have hneW : w.heap.size ≠ W2.heap.size := by rw [HS2.out]; omega
            have hMw := HMW.out
            have hKw := HKW.out
            go_region_held3 (fun w' => w'.rangeAt w.heap.size 0 (hcs leaf)) ((first | assumption | (exact World.rangeAt_setCells_apart (by assumption) _ _ _ (.inl (by assumption))) | (exact World.rangeAt_alloc (by assumption) _) | (simpa using hr2))) ((go_at_call 44; (with_reducible refine (HC.out _ ?hcb).mono ?_); (case hcb => first | exact (Below.refl _ _).drew | exact (Below.refl _ _).drew.alloc (Nat.le_refl _) _); rintro e w1 ⟨rfl, hb1', hk1, hne1, hth1⟩; have hA := there_new w1 zs 54 (hcs x).length HXZ.out; (try have hB := hth1 _ _ hltB HNB.out)))
            all_goals clear hMw hKw hr2
            · have HRX := Lib.hid (World.rangeAt_setCells_same _ _ _ _ hA)
              have HBF : Hid (Below W2.heap.size W2 ((w1.alloc (Obj.cells (hcs zs).toArray 54)).setCells w1.heap.size 0 (hcs x))) := Lib.hid (by
                have hx1 : Below W2.heap.size W2 w1 := (Below.refl W2.heap.size W2).drew.trans hb1'
                exact below_set (hx1.alloc hx1.size _) hx1.size (Nat.le_refl _) 0 _)
              have hneg : w1.heap.size ≠ w.heap.size + 1 := by have : W2.heap.size ≤ w1.heap.size := hb1'.size; rw [HS2.out] at this; omega
              have hgl : w1.heap.size < ((w1.alloc (Obj.cells (hcs zs).toArray 54)).setCells w1.heap.size 0 (hcs x)).heap.size := Nat.lt_of_lt_of_le (by simp) (setCells_but (g := w1.heap.size) (hcs x) 0 _ (But.refl w1.heap.size (w1.alloc (Obj.cells (hcs zs).toArray 54)))).2.2.2.1
              clear hA hb1' hk1 hne1 hth1
              obtain ⟨wf, hwf⟩ : ∃ wf, wf = ((w1.alloc (Obj.cells (hcs zs).toArray 54)).setCells w1.heap.size 0 (hcs x)) := ⟨_, rfl⟩
              rw [← hwf] at HRX HBF hgl ⊢
              clear hwf
              generalize w1.heap.size = g at *
              have HQR : Hid (wf.rangeAt b (off + N * 32) (hcs q)) := Lib.hid (rangeAt_block HQ0.out ((HB2E.out _ HBF.out).block b hblt))
              have HTF : Hid (wf.there (w.heap.size + 1) 0 (hcs zs).length) := Lib.hid (there_below HTH.out HBF.out (by rw [HS2.out]; omega))
              have hneb : b ≠ w.heap.size + 1 := by omega
              obtain ⟨Z, hZ⟩ : ∃ Z, Z = nhK ks x q := ⟨_, rfl⟩
              have HZ := Lib.hid hZ
              have HZL' : Hid (Z.length = 32) := Lib.hid (by rw [hZ]; exact nhK_len _ _ _)
              obtain ⟨wd, hwd⟩ : ∃ wd, wd = wf.drew := ⟨_, rfl⟩
              have HBD : Hid (Below w.heap.size w wd) := Lib.hid (by rw [hwd]; exact (HB2E.out _ HBF.out).drew)
              have HXD : Hid (wd.rangeAt g 0 (hcs x)) := Lib.hid (by rw [hwd]; simpa using HRX.out)
              have HQD : Hid (wd.rangeAt b (off + N * 32) (hcs q)) := Lib.hid (by rw [hwd]; simpa using HQR.out)
              have HTD : Hid (wd.there (w.heap.size + 1) 0 (hcs zs).length) := Lib.hid (by rw [hwd]; simpa using HTF.out)
              have hdl : w.heap.size + 2 ≤ wd.heap.size := by rw [hwd]; have := HBF.out.size; rw [HS2.out] at this; exact this
              have HNN : Hid (Calls Tryd.prog 53 #[.agg (hcs x).toArray, .agg (hcs q).toArray] wd fun e w' => e = .returned (.agg (hcs Z).toArray) ∧ Below w.heap.size w w' ∧ w'.there (w.heap.size + 1) 0 (hcs Z).toArray.size) := Lib.hid (by
                refine (nodeHash_any ks x q HXL.out HQL.out wd (HK.out.below HBD.out hk0)).mono ?_
                rintro e w' ⟨he, hbel⟩
                refine ⟨by rw [he, hZ]; rfl, HBD.out.trans (hbel.mono HBD.out.size), ?_⟩
                have := there_below HTD.out hbel (by omega)
                rw [hcs_len, HZL.out] at this
                rw [show (hcs Z).toArray.size = 32 by rw [List.size_toArray, hcs_len, HZL'.out]]
                exact this)
              clear hZ
              go_upto_region 14 with fail
              have hMw := HMW.out
              refine wp_region_still_tail 7 (by kernel_rfl) (by kernel_rfl) ?_
              simp only [List.take_succ_cons, List.take_zero, List.drop_succ_cons, List.drop_zero]
              change wpStill _ _ wf.drew (fun a' => wpList _ _ _ _ a' wf.drew) _ _
              rw [← hwd]
              clear hwd
              refine wpStill_load_mid rfl 54 (.tmp 14) rfl g 0 rfl (hcs x) _ HXD.out Tryd.underlying54 rfl (info_hcs HXL.out) ?_
              still_step
              still_step
              still_step
              still_step
              still_step
              refine wpStill_load_mid rfl 54 (.tmp 79) rfl b (off + N * 32) rfl (hcs q) _ HQD.out Tryd.underlying54 rfl (info_hcs HQL.out) ?_
              refine wpStill_nil ?_
              clear hMw
              go_wp2_with fail
              refine HNN.out.mono ?_
              rintro e w2 ⟨rfl, hbz, ht2⟩
              have HBZ := Lib.hid hbz
              have HT2 := Lib.hid ht2
              clear hbz ht2
              go_wp2_with (refine wpList_store_mid rfl 54 (.tmp 10) (.tmp 81) rfl (w.heap.size + 1) 0 (hcs Z).toArray rfl rfl HT2.out (info_hcs HZL'.out) (all_oneCell_toArray (hcs_one Z)) ?_)
              try simp only [Exit.inBlock, Exit.then]
              refine bodyPost_ret (results_cell_tmp_mid rfl _ _ (w.heap.size + 1) 0 (hcs Z) _ rfl (World.rangeAt_setCells_same _ _ _ _ HT2.out) Tryd.underlying54 rfl (info_hcs HZL'.out)) rfl ?_
              exact ⟨by rw [HZ.out]; rfl, below_set HBZ.out (by omega) (Nat.le_refl _) 0 _⟩
            · have HRX := Lib.hid (World.rangeAt_setCells_same _ _ _ _ hB)
              have HBF : Hid (Below W2.heap.size W2 (w1.setCells W2.heap.size 0 (hcs x))) := Lib.hid (by
                have hx1 : Below W2.heap.size W2 w1 := ((Below.refl W2.heap.size W2).drew.alloc (Nat.le_refl _) (Obj.cells (hcs zs).toArray 54)).trans (hb1'.mono (by simp))
                exact below_set hx1 (Nat.le_refl _) (Nat.le_refl _) 0 _)
              have hneg : W2.heap.size ≠ w.heap.size + 1 := by rw [HS2.out]; omega
              have hgl : W2.heap.size < (w1.setCells W2.heap.size 0 (hcs x)).heap.size := Nat.lt_of_lt_of_le (Nat.lt_of_lt_of_le (by simp) hb1'.size) (setCells_but (g := W2.heap.size) (hcs x) 0 _ (But.refl W2.heap.size w1)).2.2.2.1
              clear hA hB hb1' hk1 hne1 hth1 hltB
              obtain ⟨wf, hwf⟩ : ∃ wf, wf = (w1.setCells W2.heap.size 0 (hcs x)) := ⟨_, rfl⟩
              rw [← hwf] at HRX HBF hgl ⊢
              clear hwf
              obtain ⟨g, hg⟩ : ∃ g, g = W2.heap.size := ⟨_, rfl⟩
              rw [← hg] at HRX hneg hgl ⊢
              clear hg
              have HQR : Hid (wf.rangeAt b (off + N * 32) (hcs q)) := Lib.hid (rangeAt_block HQ0.out ((HB2E.out _ HBF.out).block b hblt))
              have HTF : Hid (wf.there (w.heap.size + 1) 0 (hcs zs).length) := Lib.hid (there_below HTH.out HBF.out (by rw [HS2.out]; omega))
              have hneb : b ≠ w.heap.size + 1 := by omega
              obtain ⟨Z, hZ⟩ : ∃ Z, Z = nhK ks x q := ⟨_, rfl⟩
              have HZ := Lib.hid hZ
              have HZL' : Hid (Z.length = 32) := Lib.hid (by rw [hZ]; exact nhK_len _ _ _)
              obtain ⟨wd, hwd⟩ : ∃ wd, wd = wf.drew := ⟨_, rfl⟩
              have HBD : Hid (Below w.heap.size w wd) := Lib.hid (by rw [hwd]; exact (HB2E.out _ HBF.out).drew)
              have HXD : Hid (wd.rangeAt g 0 (hcs x)) := Lib.hid (by rw [hwd]; simpa using HRX.out)
              have HQD : Hid (wd.rangeAt b (off + N * 32) (hcs q)) := Lib.hid (by rw [hwd]; simpa using HQR.out)
              have HTD : Hid (wd.there (w.heap.size + 1) 0 (hcs zs).length) := Lib.hid (by rw [hwd]; simpa using HTF.out)
              have hdl : w.heap.size + 2 ≤ wd.heap.size := by rw [hwd]; have := HBF.out.size; rw [HS2.out] at this; exact this
              have HNN : Hid (Calls Tryd.prog 53 #[.agg (hcs x).toArray, .agg (hcs q).toArray] wd fun e w' => e = .returned (.agg (hcs Z).toArray) ∧ Below w.heap.size w w' ∧ w'.there (w.heap.size + 1) 0 (hcs Z).toArray.size) := Lib.hid (by
                refine (nodeHash_any ks x q HXL.out HQL.out wd (HK.out.below HBD.out hk0)).mono ?_
                rintro e w' ⟨he, hbel⟩
                refine ⟨by rw [he, hZ]; rfl, HBD.out.trans (hbel.mono HBD.out.size), ?_⟩
                have := there_below HTD.out hbel (by omega)
                rw [hcs_len, HZL.out] at this
                rw [show (hcs Z).toArray.size = 32 by rw [List.size_toArray, hcs_len, HZL'.out]]
                exact this)
              clear hZ
              go_upto_region 14 with fail
              have hMw := HMW.out
              refine wp_region_still_tail 7 (by kernel_rfl) (by kernel_rfl) ?_
              simp only [List.take_succ_cons, List.take_zero, List.drop_succ_cons, List.drop_zero]
              change wpStill _ _ wf.drew (fun a' => wpList _ _ _ _ a' wf.drew) _ _
              rw [← hwd]
              clear hwd
              refine wpStill_load_mid rfl 54 (.tmp 14) rfl g 0 rfl (hcs x) _ HXD.out Tryd.underlying54 rfl (info_hcs HXL.out) ?_
              still_step
              still_step
              still_step
              still_step
              still_step
              refine wpStill_load_mid rfl 54 (.tmp 79) rfl b (off + N * 32) rfl (hcs q) _ HQD.out Tryd.underlying54 rfl (info_hcs HQL.out) ?_
              refine wpStill_nil ?_
              clear hMw
              go_wp2_with fail
              refine HNN.out.mono ?_
              rintro e w2 ⟨rfl, hbz, ht2⟩
              have HBZ := Lib.hid hbz
              have HT2 := Lib.hid ht2
              clear hbz ht2
              go_wp2_with (refine wpList_store_mid rfl 54 (.tmp 10) (.tmp 81) rfl (w.heap.size + 1) 0 (hcs Z).toArray rfl rfl HT2.out (info_hcs HZL'.out) (all_oneCell_toArray (hcs_one Z)) ?_)
              try simp only [Exit.inBlock, Exit.then]
              refine bodyPost_ret (results_cell_tmp_mid rfl _ _ (w.heap.size + 1) 0 (hcs Z) _ rfl (World.rangeAt_setCells_same _ _ _ _ HT2.out) Tryd.underlying54 rfl (info_hcs HZL'.out)) rfl ?_
              exact ⟨by rw [HZ.out]; rfl, below_set HBZ.out (by omega) (Nat.le_refl _) 0 _⟩
        · have HI := Lib.hid (Tr.runRec_right (nhK ks) (lo := lo) (d := hi - lo) (n := n) (p := ps') (q := q) (leaf := leaf) (by omega) hn)
          have HC : Hid (∀ w', Below W2.heap.size W2 w' → Calls Tryd.prog 44 #[.slice (some ⟨b, off, none⟩) ps'.length c, .int .i64 ((lo : Int) + (Tr.half (hi - lo) : Nat)), .int .i64 hi, .int .i64 n, .agg (hcs leaf).toArray] w' fun e w'' =>
              e = .returned (recOut E (Tr.runRec (nhK ks) ps' (lo + Tr.half (hi - lo)) (hi - lo - Tr.half (hi - lo)) n leaf)) ∧ Below w'.heap.size w' w'' ∧ w''.rangeAt w.heap.size 0 (hcs leaf) ∧ w.heap.size ≠ w''.heap.size ∧ ∀ g n, g < w'.heap.size → w'.there g 0 n → w''.there g 0 n) := Lib.hid (fun w' hbb => by
            have hb' := HB2E.out w' hbb
            have := ih (hi - lo - Tr.half (hi - lo)) (by omega) (lo + Tr.half (hi - lo)) hi n _ ps' leaf w' (by omega) (by omega) h2 hb (hvl.below hb') hl (hK.below hb' hk0) ((hb'.cell (p := ⟨1, 0, none⟩) hE0).trans hE) (by have := hb'.size; omega)
            rw [← Nat.sub_sub, ← hEE] at this
            refine this.mono ?_
            rintro e w'' ⟨he, hbel⟩
            exact ⟨he, hbel, rangeAt_below (rangeAt_below (b_range HL2.out) hbb (by rw [HS2.out]; omega)) hbel (by have := hbb.size; rw [HS2.out] at this; omega), (by have h5 := hbb.size; rw [HS2.out] at h5; have h6 := hbel.size; omega), fun g n hg ht => there_below ht hbel hg⟩)
          rw [← hEE, HI.out]
          have hr2 : W2.rangeAt w.heap.size 0 (hcs leaf) := b_range HL2.out
          have hinfl : (Tryd.prog.info? 54).map (·.size) = some (hcs leaf).length := info_hcs hl
          have honel := hcs_one leaf
          obtain ⟨K, hKK⟩ : ∃ K, K = Tr.half (hi - lo) := ⟨_, rfl⟩
          rw [← hKK] at HI HC HMP hn hhl hhp
          rw [← hKK]
          obtain ⟨M, hM⟩ : ∃ M, M = ps'.length + 1 := ⟨_, rfl⟩
          rw [← hM]
          have hMz : ((M : Int) == 0) = false := by simp; omega
          have HM := Lib.hid hM
          have hM1 : ps'.length = M - 1 := by omega
          rw [hM1] at HC
          obtain ⟨J, hJ⟩ : ∃ J : Int, J = (M : Int) - 1 := ⟨_, rfl⟩
          have hs1 : (0 : Int) ≤ J := by omega
          have hs2 : J ≤ (c : Int) := by omega
          have hs3 : J.toNat = M - 1 := by omega
          have hs6 : J < (M : Int) := by omega
          have HMW : Hid (IntKind.i64.wrap ((M : Int) - 1) = J) := Lib.hid (by rw [IntWalk.i64_in _ (by omega), hJ])
          have HKW : Hid (IntKind.i64.wrap ((lo : Int) + (K : Int)) = (lo : Int) + (K : Int)) := Lib.hid (IntWalk.i64_in _ (by omega))
          obtain ⟨N, hN⟩ : ∃ N, N = M - 1 := ⟨_, rfl⟩
          rw [← hN] at HC hs3
          have HN := Lib.hid hN
          clear hN hJ
          cases hr : Tr.runRec (nhK ks) ps' (lo + K) (hi - lo - K) n leaf with
          | none =>
            rw [hr] at HC
            simp only [recOut] at HC
            rw [show z32 = zs from HZS.out.symm] at HC
            clear hW2 hE hl hzs hK ih hd hth hsz2 hEE hmp hr hKK hqr hql hvl hv hM hM1
            go_enter Tryd.func44, Tryd.ntmps44
            go_upto_region 1 with fail
            rw [← HW2.out]
            go_upto_region 15 with (go_at_call 52; refine (HMP.out _).mono ?_; rintro e w' ⟨rfl, rfl⟩)
            have HNB := Lib.hid (there_new W2.drew zs 54 (hcs zs).length (by rw [hcs_len]; exact Nat.le_refl _))
            have hltB : W2.heap.size < (W2.drew.alloc (Obj.cells (hcs zs).toArray 54)).heap.size := by simp
            have hneW : w.heap.size ≠ W2.heap.size := by rw [HS2.out]; omega
            have hMw := HMW.out
            have hKw := HKW.out
            go_region_held3 (fun w' => w'.rangeAt w.heap.size 0 (hcs leaf)) ((first | assumption | (exact World.rangeAt_setCells_apart (by assumption) _ _ _ (.inl (by assumption))) | (exact World.rangeAt_alloc (by assumption) _) | (simpa using hr2))) ((go_at_call 44; (with_reducible refine (HC.out _ ?hcb).mono ?_); (case hcb => first | exact (Below.refl _ _).drew | exact (Below.refl _ _).drew.alloc (Nat.le_refl _) _); rintro e w1 ⟨rfl, hb1', hk1, hne1, hth1⟩; have hA := there_new w1 zs 54 (hcs zs).length (by rw [hcs_len]; exact Nat.le_refl _); (try have hB := hth1 _ _ hltB HNB.out)))
            all_goals clear hMw hKw hr2
            · have HBF : Hid (Below W2.heap.size W2 ((w1.alloc (Obj.cells (hcs zs).toArray 54)).setCells w1.heap.size 0 (hcs zs))) := Lib.hid (by
                have hx1 : Below W2.heap.size W2 w1 := (Below.refl W2.heap.size W2).drew.trans hb1'
                exact below_set (hx1.alloc hx1.size _) hx1.size (Nat.le_refl _) 0 _)
              clear hA hb1' hk1 hne1 hth1
              obtain ⟨wf, hwf⟩ : ∃ wf, wf = ((w1.alloc (Obj.cells (hcs zs).toArray 54)).setCells w1.heap.size 0 (hcs zs)) := ⟨_, rfl⟩
              rw [← hwf] at HBF ⊢
              clear hwf
              generalize w1.heap.size = g at *
              rw [HEE.out]
              have HBW : Hid (Below w.heap.size w wf) := Lib.hid (HB2E.out _ HBF.out)
              have HTF : Hid (wf.there (w.heap.size + 1) 0 (hcs zs).toArray.size) := Lib.hid (there_below HTH.out HBF.out (by rw [HS2.out]; omega))
              go_wp2_with (refine wpList_store_mid rfl 54 (.tmp 10) (.tmp 99) rfl (w.heap.size + 1) 0 (hcs zs).toArray rfl rfl HTF.out (info_hcs HZL.out) (all_oneCell_toArray (hcs_one zs)) ?_)
              try simp only [Exit.inBlock, Exit.then]
              refine bodyPost_ret (results_cell_tmp_mid rfl _ _ (w.heap.size + 1) 0 (hcs zs) _ rfl (World.rangeAt_setCells_same _ _ _ _ HTF.out) Tryd.underlying54 rfl (info_hcs HZL.out)) rfl ?_
              exact ⟨by rw [HZS.out, HEE.out]; rfl, below_set HBW.out (by omega) (Nat.le_refl _) 0 _⟩
            · have HBF : Hid (Below W2.heap.size W2 (w1.setCells W2.heap.size 0 (hcs zs))) := Lib.hid (by
                have hx1 : Below W2.heap.size W2 w1 := ((Below.refl W2.heap.size W2).drew.alloc (Nat.le_refl _) (Obj.cells (hcs zs).toArray 54)).trans (hb1'.mono (by simp))
                exact below_set hx1 (Nat.le_refl _) (Nat.le_refl _) 0 _)
              clear hA hB hb1' hk1 hne1 hth1 hltB
              obtain ⟨wf, hwf⟩ : ∃ wf, wf = (w1.setCells W2.heap.size 0 (hcs zs)) := ⟨_, rfl⟩
              rw [← hwf] at HBF ⊢
              clear hwf
              obtain ⟨g, hg⟩ : ∃ g, g = W2.heap.size := ⟨_, rfl⟩
              rw [← hg]
              clear hg
              rw [HEE.out]
              have HBW : Hid (Below w.heap.size w wf) := Lib.hid (HB2E.out _ HBF.out)
              have HTF : Hid (wf.there (w.heap.size + 1) 0 (hcs zs).toArray.size) := Lib.hid (there_below HTH.out HBF.out (by rw [HS2.out]; omega))
              go_wp2_with (refine wpList_store_mid rfl 54 (.tmp 10) (.tmp 99) rfl (w.heap.size + 1) 0 (hcs zs).toArray rfl rfl HTF.out (info_hcs HZL.out) (all_oneCell_toArray (hcs_one zs)) ?_)
              try simp only [Exit.inBlock, Exit.then]
              refine bodyPost_ret (results_cell_tmp_mid rfl _ _ (w.heap.size + 1) 0 (hcs zs) _ rfl (World.rangeAt_setCells_same _ _ _ _ HTF.out) Tryd.underlying54 rfl (info_hcs HZL.out)) rfl ?_
              exact ⟨by rw [HZS.out, HEE.out]; rfl, below_set HBW.out (by omega) (Nat.le_refl _) 0 _⟩
          | some x =>
            rw [hr] at HC
            simp only [recOut] at HC
            have HXL : Hid (x.length = 32) := Lib.hid (runRec_len hvl.1 hl hr)
            have HXZ : Hid ((hcs x).length ≤ zs.length) := Lib.hid (by rw [hcs_len, HXL.out, HZL.out]; exact Nat.le_refl _)
            have hinfx := info_hcs HXL.out
            have HQ0 : Hid (w.rangeAt b (off + N * 32) (hcs q)) := Lib.hid (by rw [HN.out, ← hM1]; exact hqr)
            have honex := hcs_one x
            clear hW2 hE hl hzs hK ih hd hth hsz2 hEE hmp hr hKK hqr hql hvl hv hM hM1
            go_enter Tryd.func44, Tryd.ntmps44
            go_upto_region 1 with fail
            rw [← HW2.out]
            go_upto_region 15 with (go_at_call 52; refine (HMP.out _).mono ?_; rintro e w' ⟨rfl, rfl⟩)
            have HNB := Lib.hid (there_new W2.drew zs 54 (hcs x).length HXZ.out)
            have hltB : W2.heap.size < (W2.drew.alloc (Obj.cells (hcs zs).toArray 54)).heap.size := by simp
            have hneW : w.heap.size ≠ W2.heap.size := by rw [HS2.out]; omega
            have hMw := HMW.out
            have hKw := HKW.out
            go_region_held3 (fun w' => w'.rangeAt w.heap.size 0 (hcs leaf)) ((first | assumption | (exact World.rangeAt_setCells_apart (by assumption) _ _ _ (.inl (by assumption))) | (exact World.rangeAt_alloc (by assumption) _) | (simpa using hr2))) ((go_at_call 44; (with_reducible refine (HC.out _ ?hcb).mono ?_); (case hcb => first | exact (Below.refl _ _).drew | exact (Below.refl _ _).drew.alloc (Nat.le_refl _) _); rintro e w1 ⟨rfl, hb1', hk1, hne1, hth1⟩; have hA := there_new w1 zs 54 (hcs x).length HXZ.out; (try have hB := hth1 _ _ hltB HNB.out)))
            all_goals clear hMw hKw hr2
            · have HRX := Lib.hid (World.rangeAt_setCells_same _ _ _ _ hA)
              have HBF : Hid (Below W2.heap.size W2 ((w1.alloc (Obj.cells (hcs zs).toArray 54)).setCells w1.heap.size 0 (hcs x))) := Lib.hid (by
                have hx1 : Below W2.heap.size W2 w1 := (Below.refl W2.heap.size W2).drew.trans hb1'
                exact below_set (hx1.alloc hx1.size _) hx1.size (Nat.le_refl _) 0 _)
              have hneg : w1.heap.size ≠ w.heap.size + 1 := by have : W2.heap.size ≤ w1.heap.size := hb1'.size; rw [HS2.out] at this; omega
              have hgl : w1.heap.size < ((w1.alloc (Obj.cells (hcs zs).toArray 54)).setCells w1.heap.size 0 (hcs x)).heap.size := Nat.lt_of_lt_of_le (by simp) (setCells_but (g := w1.heap.size) (hcs x) 0 _ (But.refl w1.heap.size (w1.alloc (Obj.cells (hcs zs).toArray 54)))).2.2.2.1
              clear hA hb1' hk1 hne1 hth1
              obtain ⟨wf, hwf⟩ : ∃ wf, wf = ((w1.alloc (Obj.cells (hcs zs).toArray 54)).setCells w1.heap.size 0 (hcs x)) := ⟨_, rfl⟩
              rw [← hwf] at HRX HBF hgl ⊢
              clear hwf
              generalize w1.heap.size = g at *
              have HQR : Hid (wf.rangeAt b (off + N * 32) (hcs q)) := Lib.hid (rangeAt_block HQ0.out ((HB2E.out _ HBF.out).block b hblt))
              have HTF : Hid (wf.there (w.heap.size + 1) 0 (hcs zs).length) := Lib.hid (there_below HTH.out HBF.out (by rw [HS2.out]; omega))
              have hneb : b ≠ w.heap.size + 1 := by omega
              obtain ⟨Z, hZ⟩ : ∃ Z, Z = nhK ks q x := ⟨_, rfl⟩
              have HZ := Lib.hid hZ
              have HZL' : Hid (Z.length = 32) := Lib.hid (by rw [hZ]; exact nhK_len _ _ _)
              obtain ⟨wd, hwd⟩ : ∃ wd, wd = wf.drew := ⟨_, rfl⟩
              have HBD : Hid (Below w.heap.size w wd) := Lib.hid (by rw [hwd]; exact (HB2E.out _ HBF.out).drew)
              have HXD : Hid (wd.rangeAt g 0 (hcs x)) := Lib.hid (by rw [hwd]; simpa using HRX.out)
              have HQD : Hid (wd.rangeAt b (off + N * 32) (hcs q)) := Lib.hid (by rw [hwd]; simpa using HQR.out)
              have HTD : Hid (wd.there (w.heap.size + 1) 0 (hcs zs).length) := Lib.hid (by rw [hwd]; simpa using HTF.out)
              have hdl : w.heap.size + 2 ≤ wd.heap.size := by rw [hwd]; have := HBF.out.size; rw [HS2.out] at this; exact this
              have HNN : Hid (Calls Tryd.prog 53 #[.agg (hcs q).toArray, .agg (hcs x).toArray] wd fun e w' => e = .returned (.agg (hcs Z).toArray) ∧ Below w.heap.size w w' ∧ w'.there (w.heap.size + 1) 0 (hcs Z).toArray.size) := Lib.hid (by
                refine (nodeHash_any ks q x HQL.out HXL.out wd (HK.out.below HBD.out hk0)).mono ?_
                rintro e w' ⟨he, hbel⟩
                refine ⟨by rw [he, hZ]; rfl, HBD.out.trans (hbel.mono HBD.out.size), ?_⟩
                have := there_below HTD.out hbel (by omega)
                rw [hcs_len, HZL.out] at this
                rw [show (hcs Z).toArray.size = 32 by rw [List.size_toArray, hcs_len, HZL'.out]]
                exact this)
              clear hZ
              go_upto_region 18 with fail
              have hMw := HMW.out
              refine wp_region_still_tail 7 (by kernel_rfl) (by kernel_rfl) ?_
              simp only [List.take_succ_cons, List.take_zero, List.drop_succ_cons, List.drop_zero]
              change wpStill _ _ wf.drew (fun a' => wpList _ _ _ _ a' wf.drew) _ _
              rw [← hwd]
              clear hwd
              still_step
              still_step
              still_step
              still_step
              still_step
              refine wpStill_load_mid rfl 54 (.tmp 105) rfl b (off + N * 32) rfl (hcs q) _ HQD.out Tryd.underlying54 rfl (info_hcs HQL.out) ?_
              refine wpStill_load_mid rfl 54 (.tmp 16) rfl g 0 rfl (hcs x) _ HXD.out Tryd.underlying54 rfl (info_hcs HXL.out) ?_
              refine wpStill_nil ?_
              clear hMw
              go_wp2_with fail
              refine HNN.out.mono ?_
              rintro e w2 ⟨rfl, hbz, ht2⟩
              have HBZ := Lib.hid hbz
              have HT2 := Lib.hid ht2
              clear hbz ht2
              go_wp2_with (refine wpList_store_mid rfl 54 (.tmp 10) (.tmp 108) rfl (w.heap.size + 1) 0 (hcs Z).toArray rfl rfl HT2.out (info_hcs HZL'.out) (all_oneCell_toArray (hcs_one Z)) ?_)
              try simp only [Exit.inBlock, Exit.then]
              refine bodyPost_ret (results_cell_tmp_mid rfl _ _ (w.heap.size + 1) 0 (hcs Z) _ rfl (World.rangeAt_setCells_same _ _ _ _ HT2.out) Tryd.underlying54 rfl (info_hcs HZL'.out)) rfl ?_
              exact ⟨by rw [HZ.out]; rfl, below_set HBZ.out (by omega) (Nat.le_refl _) 0 _⟩
            · have HRX := Lib.hid (World.rangeAt_setCells_same _ _ _ _ hB)
              have HBF : Hid (Below W2.heap.size W2 (w1.setCells W2.heap.size 0 (hcs x))) := Lib.hid (by
                have hx1 : Below W2.heap.size W2 w1 := ((Below.refl W2.heap.size W2).drew.alloc (Nat.le_refl _) (Obj.cells (hcs zs).toArray 54)).trans (hb1'.mono (by simp))
                exact below_set hx1 (Nat.le_refl _) (Nat.le_refl _) 0 _)
              have hneg : W2.heap.size ≠ w.heap.size + 1 := by rw [HS2.out]; omega
              have hgl : W2.heap.size < (w1.setCells W2.heap.size 0 (hcs x)).heap.size := Nat.lt_of_lt_of_le (Nat.lt_of_lt_of_le (by simp) hb1'.size) (setCells_but (g := W2.heap.size) (hcs x) 0 _ (But.refl W2.heap.size w1)).2.2.2.1
              clear hA hB hb1' hk1 hne1 hth1 hltB
              obtain ⟨wf, hwf⟩ : ∃ wf, wf = (w1.setCells W2.heap.size 0 (hcs x)) := ⟨_, rfl⟩
              rw [← hwf] at HRX HBF hgl ⊢
              clear hwf
              obtain ⟨g, hg⟩ : ∃ g, g = W2.heap.size := ⟨_, rfl⟩
              rw [← hg] at HRX hneg hgl ⊢
              clear hg
              have HQR : Hid (wf.rangeAt b (off + N * 32) (hcs q)) := Lib.hid (rangeAt_block HQ0.out ((HB2E.out _ HBF.out).block b hblt))
              have HTF : Hid (wf.there (w.heap.size + 1) 0 (hcs zs).length) := Lib.hid (there_below HTH.out HBF.out (by rw [HS2.out]; omega))
              have hneb : b ≠ w.heap.size + 1 := by omega
              obtain ⟨Z, hZ⟩ : ∃ Z, Z = nhK ks q x := ⟨_, rfl⟩
              have HZ := Lib.hid hZ
              have HZL' : Hid (Z.length = 32) := Lib.hid (by rw [hZ]; exact nhK_len _ _ _)
              obtain ⟨wd, hwd⟩ : ∃ wd, wd = wf.drew := ⟨_, rfl⟩
              have HBD : Hid (Below w.heap.size w wd) := Lib.hid (by rw [hwd]; exact (HB2E.out _ HBF.out).drew)
              have HXD : Hid (wd.rangeAt g 0 (hcs x)) := Lib.hid (by rw [hwd]; simpa using HRX.out)
              have HQD : Hid (wd.rangeAt b (off + N * 32) (hcs q)) := Lib.hid (by rw [hwd]; simpa using HQR.out)
              have HTD : Hid (wd.there (w.heap.size + 1) 0 (hcs zs).length) := Lib.hid (by rw [hwd]; simpa using HTF.out)
              have hdl : w.heap.size + 2 ≤ wd.heap.size := by rw [hwd]; have := HBF.out.size; rw [HS2.out] at this; exact this
              have HNN : Hid (Calls Tryd.prog 53 #[.agg (hcs q).toArray, .agg (hcs x).toArray] wd fun e w' => e = .returned (.agg (hcs Z).toArray) ∧ Below w.heap.size w w' ∧ w'.there (w.heap.size + 1) 0 (hcs Z).toArray.size) := Lib.hid (by
                refine (nodeHash_any ks q x HQL.out HXL.out wd (HK.out.below HBD.out hk0)).mono ?_
                rintro e w' ⟨he, hbel⟩
                refine ⟨by rw [he, hZ]; rfl, HBD.out.trans (hbel.mono HBD.out.size), ?_⟩
                have := there_below HTD.out hbel (by omega)
                rw [hcs_len, HZL.out] at this
                rw [show (hcs Z).toArray.size = 32 by rw [List.size_toArray, hcs_len, HZL'.out]]
                exact this)
              clear hZ
              go_upto_region 18 with fail
              have hMw := HMW.out
              refine wp_region_still_tail 7 (by kernel_rfl) (by kernel_rfl) ?_
              simp only [List.take_succ_cons, List.take_zero, List.drop_succ_cons, List.drop_zero]
              change wpStill _ _ wf.drew (fun a' => wpList _ _ _ _ a' wf.drew) _ _
              rw [← hwd]
              clear hwd
              still_step
              still_step
              still_step
              still_step
              still_step
              refine wpStill_load_mid rfl 54 (.tmp 105) rfl b (off + N * 32) rfl (hcs q) _ HQD.out Tryd.underlying54 rfl (info_hcs HQL.out) ?_
              refine wpStill_load_mid rfl 54 (.tmp 16) rfl g 0 rfl (hcs x) _ HXD.out Tryd.underlying54 rfl (info_hcs HXL.out) ?_
              refine wpStill_nil ?_
              clear hMw
              go_wp2_with fail
              refine HNN.out.mono ?_
              rintro e w2 ⟨rfl, hbz, ht2⟩
              have HBZ := Lib.hid hbz
              have HT2 := Lib.hid ht2
              clear hbz ht2
              go_wp2_with (refine wpList_store_mid rfl 54 (.tmp 10) (.tmp 108) rfl (w.heap.size + 1) 0 (hcs Z).toArray rfl rfl HT2.out (info_hcs HZL'.out) (all_oneCell_toArray (hcs_one Z)) ?_)
              try simp only [Exit.inBlock, Exit.then]
              refine bodyPost_ret (results_cell_tmp_mid rfl _ _ (w.heap.size + 1) 0 (hcs Z) _ rfl (World.rangeAt_setCells_same _ _ _ _ HT2.out) Tryd.underlying54 rfl (info_hcs HZL'.out)) rfl ?_
              exact ⟨by rw [HZ.out]; rfl, below_set HBZ.out (by omega) (Nat.le_refl _) 0 _⟩

end Go.Proofs.YtokopcbmpnnkcaaDoor
