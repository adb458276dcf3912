/- tlog.StoredHashesForRecordHash: the hashes that are stored with a record, or that one that is read is missing. Conditions: the number is below 2 to the power of 41; the stored hashes lie in memory; the variable errMissing holds an error; bits.deBruijn64tab holds its table. -/
import Derived.Test.YtokopcbmpnnkcaaDoorT14
import Derived.Test.YtokopcbmpnnkcaaDoorSplit
import Derived.OwnWalk
import Derived.Laws.OwnMore
namespace Go.Proofs.YtokopcbmpnnkcaaDoor
open Go.RowKit
set_option linter.unusedVariables false

/-- numbers that lie in a block from its head on -/
def IAt (w : World) (g : Nat) (xs : List Nat) : Prop := w.heap[g]? = some (.cells (ints xs).toArray 2 (0, 0))
theorem IAt.cell {w : World} {g : Nat} {xs : List Nat} (h : IAt w g xs) {j : Nat} (hj : j < xs.length) : w.cell? ⟨g, j, none⟩ = some (.int .i64 (xs.getD j 0 : Nat)) := by
  unfold IAt at h
  simp [World.cell?, h, hj, ints]
theorem IAt.frozen {w : World} {g : Nat} {xs : List Nat} (h : IAt w g xs) (j : Nat) : w.frozen? ⟨g, j, none⟩ = false := by
  unfold IAt at h
  simp [World.frozen?, h]
theorem IAt.set {w : World} {g : Nat} {xs : List Nat} (h : IAt w g xs) (i : Nat) (v : Nat) : IAt (w.setCell ⟨g, i, none⟩ (.int .i64 (v : Nat))) g (xs.set i v) := by
  unfold IAt at h ⊢
  rw [heap_setCell_same _ _ _ _ _ _ h]
  congr 2
  rw [List.setIfInBounds_toArray, ints, ints, List.map_set]
theorem IAt.in_ {w : World} {g : Nat} {xs : List Nat} (h : IAt w g xs) (hl : xs.length ≤ 9223372036854775807) : IIn w (.slice (some ⟨g, 0, none⟩) xs.length xs.length) xs :=
  ⟨_, xs.length, rfl, Nat.le_refl _, hl, .inr ⟨g, 0, rfl, (Array.getElem?_eq_some_iff.1 h).1, fun j x hj => by
    rw [Nat.zero_add, h.cell (List.getElem?_eq_some_iff.1 hj).1]
    simp [List.getD, hj]⟩⟩
theorem iat_of_own {w : World} {base g : Nat} {xs : List Nat} (h : w.ownsRow base 2 1 (.slice (some ⟨g, 0, none⟩) xs.length xs.length) xs.length (ints xs)) : IAt w g xs := by
  rcases h.2 with ⟨e, _⟩ | ⟨g', cap, cur, e, _, hh, _, _, hs, ht⟩
  · cases e
  · cases e
    unfold IAt
    rw [hh]
    congr 2
    rw [Nat.mul_one] at hs ht
    rw [← ht, List.take_of_length_le (by rw [Array.length_toList]; omega)]
theorem made_ints (m : Nat) : (madeCells (Value.int .i64 0).cells (m * 1)).toList = ints (List.replicate m 0) := by
  rw [show (Value.int IntKind.i64 0).cells = #[Value.int .i64 0] from rfl, toList_madeCells_one, Nat.mul_one]
  simp [ints]
theorem Tab.below {w w' : World} (h : Tab w) (hb : Below w.heap.size w w') : Tab w' := fun i hi => (hb.cell (World.block_lt_of_cell? w _ (h i hi))).trans (h i hi)
theorem HOwn.of_b {w : World} {base g : Nat} {x : List Int} (h : BAt w g 54 x) (hb : base ≤ g) (hl : x.length = 32) : HOwn w base (.slice (some ⟨g, 0, none⟩) 1 1) [x] :=
  ⟨fun y hy => by obtain rfl : y = x := (by simpa using hy); exact hl, by simp [hcs_len, hl], .inr ⟨g, 1, _, rfl, hb, h, Nat.le_refl _, by simp [maxLen], by simp [hl], by simp [hcs, hl, List.take_of_length_le]⟩⟩
theorem HOwn.kept {w w' : World} {base : Nat} {v : Value} {hs : List (List Int)} {r : Option Nat} (h : HOwn w base v hs) (hg : w.grownBy w' r) (hne : ∀ g, r = some g → v.ownBlock ≠ some g) : HOwn w' base v hs := by
  obtain ⟨h0, h1, h2⟩ := h
  refine ⟨h0, h1, h2.imp id ?_⟩
  rintro ⟨k, cap, cur, rfl, h3, h4, h5⟩
  exact ⟨k, cap, cur, rfl, h3, (hg.block k (Array.getElem?_eq_some_iff.1 h4).1 (fun e => hne k e.symm rfl)).trans h4, h5⟩
theorem HOwn.lt {w : World} {base : Nat} {v : Value} {hs : List (List Int)} (h : HOwn w base v hs) : ∀ g, v.ownBlock = some g → base ≤ g ∧ g < w.heap.size := h.2.lt
theorem beside_in {n : Nat} {c : Nat × Nat} (h : c ∈ Tr.beside n) : (c.2 + 1) * 2 ^ c.1 ≤ n := by
  obtain ⟨i, hi, rfl⟩ := List.mem_map.1 h
  have h1 := Tr.odd_of_lt (List.mem_range.1 hi)
  have h3 := Nat.div_mul_le_self n (2 ^ i)
  have h2 : (n / 2 ^ i - 1 + 1) = n / 2 ^ i := by
    generalize n / 2 ^ i = q at *
    omega
  simp only [h2]
  exact h3
/-- the places that are read for the hashes that are stored with a record, the last one first -/
def besideX (n : Nat) : List Nat := (ixs (Tr.beside n)).reverse
theorem besideX_len (n : Nat) : (besideX n).length = Idx.ones n := by simp [besideX, ixs, Tr.beside_len]
theorem besideX_get {n k : Nat} (h : k < Idx.ones n) : (besideX n)[Idx.ones n - 1 - k]? = some (Idx.idx k (n / 2 ^ k - 1)) := by
  unfold besideX
  have hl : (ixs (Tr.beside n)).length = Idx.ones n := by simp [ixs, Tr.beside_len]
  rw [List.getElem?_reverse (by omega), hl, show Idx.ones n - 1 - (Idx.ones n - 1 - k) = k by omega]
  simp [ixs, Tr.beside, h]
/-- the hashes that are stored with a record -/
def stH (ks : List Int) (ls : List (List Int)) (n : Nat) (h : List Int) : Option (List (List Int)) := (rd ls (besideX n)).map fun os => Tr.chain (nhK ks) h os.reverse
theorem stH_len {ks : List Int} {ls : List (List Int)} {n : Nat} {h : List Int} {ps : List (List Int)} (hs : stH ks ls n h = some ps) : ps.length = Idx.ones n + 1 := by
  obtain ⟨os, ho, rfl⟩ := Option.map_eq_some_iff.1 hs
  rw [Tr.chain_len, List.length_reverse, rd_len ho, besideX_len]
theorem last_32 {ks : List Int} (os : List (List Int)) (h : List Int) (hl : h.length = 32) : ((Tr.chain (nhK ks) h os).getLastD default).length = 32 := by
  have hne : Tr.chain (nhK ks) h os ≠ [] := by intro e; have := Tr.chain_len (nhK ks) h os; rw [e] at this; simp at this
  rw [List.getLastD_eq_getLast?, List.getLast?_eq_some_getLast hne]
  exact chain_32 os h hl _ (List.getLast_mem hne)
theorem drop_step {cur xs : List Nat} {j v : Nat} (hl : cur.length = xs.length) (hj : j < xs.length) (hd : cur.drop (j + 1) = xs.drop (j + 1)) (hv : xs[j]? = some v) : (cur.set j v).drop j = xs.drop j := by
  rw [List.drop_eq_getElem_cons (by simpa [hl] using hj), List.drop_eq_getElem_cons hj]
  congr 1
  · rw [List.getElem_set_self]; exact ((List.getElem?_eq_some_iff.1 hv).2).symm
  · rw [List.drop_set_of_lt (by omega)]; exact hd
set_option maxHeartbeats 8000000 in
set_option maxRecDepth 50000 in
theorem storedHashesFor_any (ks : List Int) (ls : List (List Int)) (g n : Nat) (h : List Int) (E0t : TypeId) (E0a : Addr) (w : World) (hn : n < 2199023255552) (hl : h.length = 32) (hs : Rdr w g ls (.iface E0t (.pointer (some E0a)))) (hK : WAt w 4 ks) (hT : Tab w) :
    Calls Tryd.prog 54 #[.int .i64 n, .agg (hcs h).toArray, RV g] w fun e w' => PfOut (stH ks ls n h) w.heap.size e w' ∧ Below w.heap.size w w' := by
  have hk0 : 4 < w.heap.size := (Array.getElem?_eq_some_iff.1 hK.2.2).1
  have HHL := Lib.hid hl
  have HK := Lib.hid hK
  have HRD := Lib.hid hs
  have HTAB := Lib.hid hT
  obtain ⟨ih0, hih0, hhz0, hhz1, hhz2⟩ := info_parts info_hash
  have HH0 := Lib.hid hih0
  have HHZ0 := Lib.hid hhz0
  have HHZ1 := Lib.hid hhz1
  have HHZ2 := Lib.hid hhz2
  obtain ⟨ii0, hii0, hiz0, hiz1, hiz2⟩ := info_parts info_i64
  have HII0 := Lib.hid hii0
  have HIZ0 := Lib.hid hiz0
  have HIZ1 := Lib.hid hiz1
  have HIZ2 := Lib.hid hiz2
  have hm41 := Idx.ones_le_log (n := n) (k := 41) (by omega)
  have hxl := besideX_len n
  have hxg : ∀ k, k < Idx.ones n → (besideX n)[Idx.ones n - 1 - k]? = some (Idx.idx k (n / 2 ^ k - 1)) := fun k hk => besideX_get hk
  have hodd : ∀ k, k < Idx.ones n → n / 2 ^ k % 2 = 1 := fun k hk => Tr.odd_of_lt hk
  have hxs : ∀ x ∈ besideX n, x ≤ 9223372036854775807 := fun x hx => ixs_small (n := n) (fun c hc => beside_in hc) (by omega) x (by unfold besideX at hx; simpa using hx)
  have HTZ := Lib.hid (fun w hT => trailingZeros n (by omega) w hT)
  have hst : stH ks ls n h = (rd ls (besideX n)).map fun os => Tr.chain (nhK ks) h os.reverse := rfl
  have HXL := Lib.hid hxl
  have HXG := Lib.hid hxg
  have HODD := Lib.hid hodd
  have HRH := Lib.hid (fun v w' h1 h2 => readHashes_any ls (besideX n) v g (.iface E0t (.pointer (some E0a))) w' h1 hxs (by omega) h2)
  have HST := Lib.hid hst
  have HMR := Lib.hid (m_read g)
  rw [hst]
  clear hs hK hT hl hih0 hhz0 hhz1 hhz2 hii0 hiz0 hiz1 hiz2 hxl hxg hodd hxs hst
  generalize besideX n = xs at *
  generalize hm : Idx.ones n = m at *
  clear hm
  obtain ⟨W2, hW2⟩ : ∃ W2, W2 = (w.alloc (Obj.cells (hcs h).toArray 54)).alloc (Obj.cells (hcs h).toArray 54) := ⟨_, rfl⟩
  have HW2 := Lib.hid hW2
  have HB2 : Hid (Below w.heap.size w W2) := Lib.hid (by rw [hW2]; exact ((Below.refl w.heap.size w).alloc (Nat.le_refl _) _).alloc (by simp) _)
  have HA2 : Hid (BAt W2 w.heap.size 54 h) := Lib.hid (by rw [hW2]; exact (Below.heap_alloc _ _ _ (by simp)).trans (heap_alloc_new w _))
  have HC2 : Hid (BAt W2 (w.heap.size + 1) 54 h) := Lib.hid (by
    have := heap_alloc_new (w.alloc (Obj.cells (hcs h).toArray 54)) (Obj.cells (hcs h).toArray 54)
    rw [show (w.alloc (Obj.cells (hcs h).toArray 54)).heap.size = w.heap.size + 1 by simp] at this
    rw [hW2]; exact this)
  have hs2 : W2.heap.size = w.heap.size + 2 := by rw [hW2]; simp
  have HS2 := Lib.hid hs2
  clear hW2 hs2
  have hfold := fold32h h HHL.out
  have hhl' : (hcs h).length = 32 := by rw [hcs_len, HHL.out]
  have hwn : IntKind.i64.wrap ((n : Int) + 1) = (n : Int) + 1 := IntWalk.i64_in _ (by omega)
  go_enter Tryd.func54, Tryd.ntmps54
  go_upto_region 2 with (refine wpList_load_mid rfl 54 (.tmp 4) rfl w.heap.size 0 rfl (hcs h) _ (b_range (heap_alloc_new w _)) Tryd.underlying54 rfl (info_hcs HHL.out) ?_)
  rw [← HW2.out]
  clear hfold hhl'
  go_wp2_with fail
  refine (HTZ.out W2 (HTAB.out.below HB2.out)).mono ?_
  rintro e w' ⟨rfl, rfl⟩
  go_wp2_with (at_make; refine wpList_make_full _ rfl (.tmp 21) (.tmp 21) 65 rfl w.heap.size 2 ii0 (.int .i64 0) 1 Tryd.underlying65 HII0.out HIZ0.out HIZ1.out .i64 .i64 (m : Int) (m : Int) m rfl rfl rfl rfl (by rw [HIZ2.out]; omega) (by unfold maxLen; omega) HB2.out.size ?_; intro W3 hown3 hgrow3)
  rw [made_ints] at hown3
  rw [show W2.heap.size = w.heap.size + 2 from HS2.out] at hown3 ⊢
  have HI3 : Hid (IAt W3 (w.heap.size + 2) (List.replicate m 0)) := Lib.hid (iat_of_own (xs := List.replicate m 0) (by simpa using hown3))
  have HB3 : Hid (Below W2.heap.size W2 W3) := Lib.hid ((Below.refl _ _).grown hgrow3 (Nat.le_refl _) (fun k hk => by cases hk))
  have HBW3 : Hid (Below w.heap.size w W3) := Lib.hid (HB2.out.trans (HB3.out.mono HB2.out.size))
  have HA3 : Hid (BAt W3 w.heap.size 54 h) := Lib.hid (HA2.out.below HB3.out (by rw [HS2.out]; omega))
  have HC3 : Hid (BAt W3 (w.heap.size + 1) 54 h) := Lib.hid (HC2.out.below HB3.out (by rw [HS2.out]; omega))
  clear hown3 hgrow3
  go_loopw [24] (fun i wr => ∃ (k : Nat) (cur : List Nat), i = .int .i64 k ∧ k ≤ m ∧ Hid (IAt wr (w.heap.size + 2) cur) ∧ Hid (cur.length = m) ∧ Hid (cur.drop (m - k) = xs.drop (m - k)) ∧ Hid (But (w.heap.size + 2) W3 wr)) (fun i _ => m - (intOf i).toNat)
  case atStart => exact ⟨0, List.replicate m 0, rfl, Nat.zero_le _, HI3, Lib.hid (by simp), Lib.hid (by rw [List.drop_eq_nil_of_le (by simp), List.drop_eq_nil_of_le (by rw [HXL.out]; omega)]), Lib.hid (But.refl _ _)⟩
  case round =>
    obtain ⟨k, cur, rfl, hk, hI, hcl, hcd, hbut⟩ := hrel
    by_cases hlt : k < m
    · have hq1 := HODD.out k hlt
      have hqd := div_pow_int n k
      have hqm := Nat.div_mul_le_self n (2 ^ k)
      have hqn : n / 2 ^ k ≤ n := Nat.div_le_self _ _
      have hxk := HXG.out k hlt
      obtain ⟨q, hq⟩ : ∃ q, q = n / 2 ^ k := ⟨_, rfl⟩
      rw [← hq] at hq1 hqd hqm hxk hqn
      have hix : (q - 1 + 1) * 2 ^ k ≤ 2305843009213693952 := by rw [show q - 1 + 1 = q by omega]; omega
      have HSI := Lib.hid (fun w => storedHashIndex k (q - 1) w (by omega) hix)
      have hqc : ((q : Int) - 1) = ((q - 1 : Nat) : Int) := by omega
      obtain ⟨j, hj⟩ : ∃ j, j = m - 1 - k := ⟨_, rfl⟩
      have hj1 : j < m := by omega
      have hjm : ((m : Int) - 1 - (k : Int)) = (j : Int) := by omega
      have HXK : Hid (xs[j]? = some (Idx.idx k (q - 1))) := Lib.hid (by rw [hj]; exact hxk)
      have hcc : wr.cell? ⟨w.heap.size + 2, j, none⟩ = some (.int .i64 (cur.getD j 0 : Nat)) := hI.out.cell (by rw [hcl.out]; exact hj1)
      have hcf : wr.frozen? ⟨w.heap.size + 2, j, none⟩ = false := hI.out.frozen j
      have HJ : Hid (m - k = j + 1 ∧ m - (k + 1) = j) := Lib.hid ⟨by omega, by omega⟩
      clear hq hq1 hqm hix hxk hj
      go_wp2_with (go_at_call 55; (with_reducible refine (HSI.out _).mono ?_); rintro e w' ⟨rfl, rfl⟩)
      go_roundw
      case rel =>
        refine ⟨k + 1, cur.set j (Idx.idx k (q - 1)), by go_num, by omega, Lib.hid (hI.out.set j _), Lib.hid (by rw [List.length_set]; exact hcl.out), Lib.hid ?_, Lib.hid (hbut.out.set _ _)⟩
        have h1 := hcd.out
        rw [HJ.out.1] at h1
        rw [HJ.out.2]
        exact drop_step (hcl.out.trans HXL.out.symm) (by rw [HXL.out]; exact hj1) h1 HXK.out
      case measure => simp [intOf]; omega
    · obtain rfl : k = m := by omega
      have hcx : cur = xs := by have := hcd.out; simpa using this
      subst hcx
      have HBWr : Hid (Below w.heap.size w wr) := Lib.hid (below_but HBW3.out hbut.out (by omega))
      have HAr : Hid (BAt wr w.heap.size 54 h) := Lib.hid (HA3.out.but hbut.out (by omega))
      have HCr : Hid (BAt wr (w.heap.size + 1) 54 h) := Lib.hid (HC3.out.but hbut.out (by omega))
      have HIr : Hid (IIn wr (.slice (some ⟨w.heap.size + 2, 0, none⟩) k k) cur) := Lib.hid (by have := hI.out.in_ (by rw [hcl.out]; omega); rwa [hcl.out] at this)
      have HRDr : Hid (Rdr wr g ls (.iface E0t (.pointer (some E0a)))) := Lib.hid (HRD.out.below HBWr.out)
      clear hI hcd hbut
      have HMR := HMR.out
      have hcl' := hcl.out
      cases hr : rd ls cur with
      | none =>
        rw [hr] at HRH
        have HRN := Lib.hid hr
        clear hr hcl'
        go_upto_region 9 with fail
        unfold RV
        go_wp2_with fail
        refine (HRH.out _ wr HIr.out HRDr.out).mono ?_
        rintro e w4 ⟨h1, hb4⟩
        obtain rfl : e = .returned (.tuple #[.slice none 0 0, .iface E0t (.pointer (some E0a))]) := h1
        have HB4 : Hid (Below w.heap.size w w4) := Lib.hid (bl_step HBWr.out hb4 (Nat.le_refl _))
        clear hb4
        go_wp2_with fail
        go_ret2
        rw [HRN.out]
        exact ⟨⟨_, _, rfl⟩, HB4.out⟩
      | some os =>
        rw [hr] at HRH
        have HRN := Lib.hid hr
        have hol : os.length = k := (rd_len hr).trans hcl'
        have h32s := rd_32 hr
        have HOL := Lib.hid hol
        have H32 := Lib.hid h32s
        clear hr hcl' h32s
        go_upto_region 9 with fail
        unfold RV
        go_wp2_with fail
        refine (HRH.out _ wr HIr.out HRDr.out).mono ?_
        rintro e w4 ⟨h1, hb4⟩
        obtain ⟨v2, rfl, ho2⟩ := h1
        have HB4 : Hid (Below w.heap.size w w4) := Lib.hid (bl_step HBWr.out hb4 (Nat.le_refl _))
        have HA4 : Hid (BAt w4 w.heap.size 54 h) := Lib.hid (HAr.out.below hb4 (Array.getElem?_eq_some_iff.1 HAr.out).1)
        have HC4 : Hid (BAt w4 (w.heap.size + 1) 54 h) := Lib.hid (HCr.out.below hb4 (Array.getElem?_eq_some_iff.1 HCr.out).1)
        have HO2 := Lib.hid ho2
        obtain ⟨A2, c2, rfl⟩ := HO2.out.in_.form
        have hb3' : ((os.length : Int) != (k : Int)) = false := by rw [HOL.out]; simp
        have HS4 : Hid (w.heap.size + 2 ≤ wr.heap.size) := Lib.hid (by have := (Array.getElem?_eq_some_iff.1 HCr.out).1; omega)
        have HV4 : Hid (HOwn w4 (w.heap.size + 2) (.slice A2 os.length c2) os) := Lib.hid (HO2.out.mono HS4.out)
        clear hb4 ho2 hol
        go_wp2_with fail
        clear hb3'
        go_loopw [57, 8] (fun i o wl => ∃ (p : Nat) (c : List Int), i = .int .i64 p ∧ p ≤ k ∧ Hid (HOwn wl (w.heap.size + 1) o (Tr.chain (nhK ks) h (os.reverse.take p))) ∧ Hid (BAt wl w.heap.size 54 c) ∧ Hid (c.length = 32) ∧ Hid ((Tr.chain (nhK ks) h (os.reverse.take p)).getLastD default = c) ∧
          Hid (HOwn wl (w.heap.size + 2) (.slice A2 os.length c2) os) ∧ Hid (∀ g, o.ownBlock = some g → (Value.slice A2 os.length c2).ownBlock ≠ some g) ∧ Hid (Below w.heap.size w wl)) (fun i _ _ => k - (intOf i).toNat)
        case atStart =>
          refine ⟨0, h, rfl, Nat.zero_le _, Lib.hid (HOwn.of_b HC4.out (Nat.le_refl _) HHL.out), HA4, HHL, Lib.hid rfl, HV4, Lib.hid (fun g hg e => ?_), HB4⟩
          obtain rfl : w.heap.size + 1 = g := Option.some.inj hg
          have := (HV4.out.lt _ e).1
          omega
        case round =>
          obtain ⟨p, c, rfl, hp, hO, hC, hcl, hcL, hV, hne, hB⟩ := hrel
          by_cases hlt : p < k
          · obtain ⟨y, hy⟩ : ∃ y, os[k - 1 - p]? = some y := ⟨_, List.getElem?_eq_getElem (by rw [HOL.out]; omega)⟩
            have HY := Lib.hid hy
            have HYL : Hid (y.length = 32) := Lib.hid (H32.out y (List.mem_of_getElem? hy))
            have hyr : os.reverse[p]? = some y := by rw [List.getElem?_reverse (by rw [HOL.out]; omega), HOL.out]; exact hy
            have HTK : Hid (os.reverse.take (p + 1) = os.reverse.take p ++ [y]) := Lib.hid (by
              have hpl : p < os.reverse.length := (List.getElem?_eq_some_iff.1 hyr).1
              rw [List.take_succ_eq_append_getElem hpl, (List.getElem?_eq_some_iff.1 hyr).2])
            obtain ⟨_, A, c', e, hq1, hq2, hq3⟩ := hV.out.in_
            cases e
            obtain ⟨b, off, rfl, hblt, hrng⟩ := hq3.resolve_left (by have := HOL.out; omega)
            have hyrange := hrng _ _ hy
            have HYI := Lib.hid (info_hcs HYL.out)
            have HCI := Lib.hid (info_hcs hcl.out)
            have HCH : Hid ((Tr.chain (nhK ks) h (os.reverse.take p)).length = p + 1) := Lib.hid (by rw [Tr.chain_len, List.length_take, List.length_reverse, HOL.out]; omega)
            have HSN : Hid (Tr.chain (nhK ks) h (os.reverse.take p ++ [y]) = Tr.chain (nhK ks) h (os.reverse.take p) ++ [nhK ks y c]) := Lib.hid (by rw [Tr.chain_snoc, hcL.out])
            have HN := Lib.hid (fun w' hk => nodeHash_any ks y c HYL.out hcl.out w' hk)
            obtain ⟨Z, hZ⟩ : ∃ Z, Z = nhK ks y c := ⟨_, rfl⟩
            have HZL : Hid (Z.length = 32) := Lib.hid (by rw [hZ]; exact nhK_len _ _ _)
            rw [show sha ks (1 :: (y ++ c)) = nhK ks y c from rfl, ← hZ] at HN
            rw [← hZ] at HSN
            obtain ⟨J1, hJ1⟩ : ∃ J1 : Int, J1 = (k : Int) - 1 := ⟨_, rfl⟩
            obtain ⟨J2, hJ2⟩ : ∃ J2 : Int, J2 = J1 - (p : Int) := ⟨_, rfl⟩
            obtain ⟨N, hN⟩ : ∃ N : Nat, N = k - 1 - p := ⟨_, rfl⟩
            rw [← hN] at hyrange
            have hs1 : (0 : Int) ≤ J2 := by omega
            have hs2 : J2 < (os.length : Int) := by have := HOL.out; omega
            have hs3 : J2.toNat = N := by omega
            have hMw1 : IntKind.i64.wrap ((k : Int) - 1) = J1 := by rw [IntWalk.i64_in _ (by omega), hJ1]
            have hMw2 : IntKind.i64.wrap (J1 - (p : Int)) = J2 := by rw [IntWalk.i64_in _ (by omega), hJ2]
            obtain ⟨wd, hwd⟩ : ∃ wd, wd = wr.drew := ⟨_, rfl⟩
            have HD : Hid (Below w.heap.size w wd) := Lib.hid (by rw [hwd]; exact hB.out.drew)
            have HYD : Hid (wd.rangeAt b (off + N * 32) (hcs y)) := Lib.hid (by rw [hwd]; simpa using hyrange)
            have HCD : Hid (wd.rangeAt w.heap.size 0 (hcs c)) := Lib.hid (by rw [hwd]; simpa using b_range hC.out)
            have HCB : Hid (BAt wd w.heap.size 54 c) := Lib.hid (by rw [hwd]; exact hC.out)
            have HOD : Hid (HOwn wd (w.heap.size + 1) u8 (Tr.chain (nhK ks) h (os.reverse.take p))) := Lib.hid (by rw [hwd]; exact hO.out)
            have HVD : Hid (HOwn wd (w.heap.size + 2) (.slice (some ⟨b, off, none⟩) os.length c2) os) := Lib.hid (by rw [hwd]; exact hV.out)
            have HCH' := HCH.out
            have HZI := Lib.hid (info_hcs HZL.out)
            have HBX : Hid (Below wr.heap.size wr wd) := Lib.hid (by rw [hwd]; exact (Below.refl _ wr).drew)
            clear hy hyr hrng hyrange hJ1 hJ2 hN hZ hq1 hq2 hq3 HCH'
            go_upto_region 17 with fail
            refine wp_region_still_tail 8 (by kernel_rfl) (by kernel_rfl) ?_
            simp only [List.take_succ_cons, List.take_zero, List.drop_succ_cons, List.drop_zero]
            change wpStill _ _ wr.drew (fun a' => wpList _ _ _ _ a' wr.drew) _ _
            rw [← hwd]
            clear hwd
            still_step
            still_step
            still_step
            still_step
            still_step
            still_step
            refine wpStill_load_mid rfl 54 (.tmp 65) rfl b (off + N * 32) rfl (hcs y) _ HYD.out Tryd.underlying54 rfl HYI.out ?_
            refine wpStill_load_mid rfl 54 (.tmp 4) rfl w.heap.size 0 rfl (hcs c) _ HCD.out Tryd.underlying54 rfl HCI.out ?_
            refine wpStill_nil ?_
            clear hMw1 hMw2 hs1 hs2 hs3
            have HNN := Lib.hid (HN.out wd (HK.out.below HD.out hk0))
            go_wp2_with fail
            refine HNN.out.mono ?_
            rintro e w5 ⟨rfl, hb5⟩
            have HB5 : Hid (Below w.heap.size w w5) := Lib.hid (bl_step HD.out hb5 (Nat.le_refl _))
            have HC5 : Hid (BAt w5 w.heap.size 54 c) := Lib.hid (HCB.out.below hb5 (Array.getElem?_eq_some_iff.1 HCB.out).1)
            have HO5 : Hid (HOwn w5 (w.heap.size + 1) u8 (Tr.chain (nhK ks) h (os.reverse.take p))) := Lib.hid (HOD.out.below hb5)
            have HV5 : Hid (HOwn w5 (w.heap.size + 2) (.slice (some ⟨b, off, none⟩) os.length c2) os) := Lib.hid (HVD.out.below hb5)
            clear hb5
            have hfold := fold32h Z HZL.out
            have hzl' : (hcs Z).length = 32 := by rw [hcs_len, HZL.out]
            obtain ⟨ch, hch⟩ : ∃ ch, ch = Tr.chain (nhK ks) h (os.reverse.take p) := ⟨_, rfl⟩
            rw [← hch] at HO5 HCH HSN hcL
            have HCHE := Lib.hid hch
            clear hch
            go_wp2_with (first
              | (refine wpList_storeH rfl (.tmp 4) (.tmp 68) rfl w.heap.size Z rfl rfl 54 c HC5.out hcl.out HZL.out ?_; intro w6 HR6 HX6; have HO6 : Hid (HOwn w6 (w.heap.size + 1) u8 ch) := Lib.hid (HO5.out.but HX6.out (by omega)); have HV6 : Hid (HOwn w6 (w.heap.size + 2) (.slice (some ⟨b, off, none⟩) os.length c2) os) := Lib.hid (HV5.out.but HX6.out (by omega)); have HB6 : Hid (Below w.heap.size w w6) := Lib.hid (below_but HB5.out HX6.out (Nat.le_refl _)); have HS6 : Hid (w.heap.size + 1 ≤ w6.heap.size) := Lib.hid (by have := (Array.getElem?_eq_some_iff.1 HR6.out).1; omega))
              | (refine wpList_load_mid rfl 54 (.tmp 4) rfl w.heap.size 0 rfl (hcs Z) _ (b_range HR6.out) Tryd.underlying54 rfl HZI.out ?_)
              | (at_builtin; (refine wpList_append_own_at _ rfl (.tmp 69) (.tmp 71) 40 rfl (w.heap.size + 1) 54 ih0 _ 32 32 Tryd.underlying40 HH0.out HHZ0.out HHZ1.out HHZ2.out zh_cells (by omega) _ ch.length (ch.flatMap hcs) rfl (World.ownsRow.alloc HO6.out.2 _) ⟨w6.heap.size, 0, none⟩ 1 1 (hcs Z) rfl (by rw [hcs_len, HZL.out]) (hash_src _ _ _) (hcs_one Z) (by rw [HCH.out]; unfold maxLen; omega) (by rw [HCH.out]; omega) (by have := HS6.out; simp; omega) ?_); intro v9 w9 hown9 hgrow9 hnil9 hat9; have HO9 := Lib.hid hown9; have HG9 := Lib.hid hgrow9; have HA9 := Lib.hid hat9; clear hown9 hgrow9 hnil9 hat9))
            clear hfold hzl'
            go_roundw
            case rel =>
              have hwo : ∀ gg, u8.ownBlock = some gg → w.heap.size + 1 ≤ gg ∧ gg < w6.heap.size := fun gg hg => HO6.out.lt gg hg
              refine ⟨p + 1, Z, by go_num, by omega, Lib.hid ?_, Lib.hid ?_, HZL, Lib.hid ?_, Lib.hid ?_, Lib.hid ?_, Lib.hid ?_⟩
              · rw [HTK.out, HSN.out]
                exact HOwn.snoc HO6.out.1 HZL.out HO9.out
              · have h1 : BAt (w6.alloc (Obj.cells (hcs Z).toArray 54)) w.heap.size 54 Z := HR6.out.below ((Below.refl _ _).alloc (Nat.le_refl _) _) (by have := HS6.out; omega)
                exact (HG9.out.block _ (Array.getElem?_eq_some_iff.1 h1).1 (fun e => by have := (hwo _ e.symm).1; omega)).trans h1
              · rw [HTK.out, HSN.out]; simp
              · exact (HV6.out.below ((Below.refl _ _).alloc (Nat.le_refl _) _)).kept HG9.out (fun gg hg => hne.out gg hg)
              · intro gg hg e
                rcases HA9.out with h2 | h2
                · exact hne.out gg (h2.symm.trans hg) e
                · obtain rfl : _ = gg := Option.some.inj (h2.symm.trans hg)
                  have := (HV6.out.lt _ e).2
                  simp at this
                  omega
              · exact (HB6.out.alloc HB6.out.size _).grown HG9.out (by have := HB6.out.size; simp; omega) (fun gg hg => by have := (hwo gg hg).1; omega)
            case measure => simp [intOf]; omega
          · obtain rfl : p = k := by omega
            go_wp2
            go_ret2
            rw [HRN.out]
            refine ⟨⟨_, rfl, ?_⟩, hB.out⟩
            have := hO.out
            rw [List.take_of_length_le (by rw [List.length_reverse, HOL.out]; omega)] at this
            exact this.mono (by omega)

end Go.Proofs.YtokopcbmpnnkcaaDoor
