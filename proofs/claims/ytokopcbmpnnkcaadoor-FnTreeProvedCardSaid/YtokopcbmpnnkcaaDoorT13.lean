/- tlog.ProveTree, impl.ProveTree: the proof for a beginning of a tree out of stored hashes, or that there is none. Conditions: the stored hashes lie in memory; the variable errMissing holds an error. -/
import Derived.Test.YtokopcbmpnnkcaaDoorT11
import Derived.Test.YtokopcbmpnnkcaaDoorT12
namespace Go.Proofs.YtokopcbmpnnkcaaDoor
open Go.RowKit
set_option linter.unusedVariables false

/-- the proof for a beginning of a tree out of stored hashes -/
def pfTree (ks : List Int) (ls : List (List Int)) (T : Nat) (n : Int) : Option (List (List Int)) :=
  if 1 ≤ n ∧ n ≤ (T : Int) then (rd ls (ixs (Tr.treeIx 0 T n.toNat))).map fun os => (Tr.treePf (nhK ks) 0 T n.toNat os).1 else none
theorem pfTree_bad {ks : List Int} {ls : List (List Int)} {T : Nat} {n : Int} (h : n < 1 ∨ (T : Int) < n) : pfTree ks ls T n = none := by
  unfold pfTree
  rw [if_neg (by omega)]
theorem pfTree_good {ks : List Int} {ls : List (List Int)} {T n : Nat} (h : 1 ≤ n ∧ n ≤ T) : pfTree ks ls T (n : Int) = (rd ls (ixs (Tr.treeIx 0 T n))).map fun os => (Tr.treePf (nhK ks) 0 T n os).1 := by
  unfold pfTree
  rw [if_pos (by omega), Int.toNat_natCast]
theorem pfTree_len {ks : List Int} {ls : List (List Int)} {T : Nat} {n : Int} {m : Nat} {ps : List (List Int)} (hT : T ≤ 2 ^ m) (h : pfTree ks ls T n = some ps) : ps.length ≤ m + 1 := by
  unfold pfTree at h
  split at h
  · obtain ⟨os, _, rfl⟩ := Option.map_eq_some_iff.1 h
    exact Tr.treePf_len (nhK ks) os hT
  · cases h
set_option maxHeartbeats 4000000 in
set_option maxRecDepth 50000 in
theorem proveTree_bad (T : Nat) (n : Int) (r : Value) (w : World) (h : n < 1 ∨ (T : Int) < n) :
    Calls Tryd.prog 32 #[.int .i64 T, .int .i64 n, r] w fun e w' => PfOut none w.heap.size e w' ∧ Below w.heap.size w w' := by
  by_cases hT : T = 0
  · have hb1 : decide ((T : Int) < 1) = true := by simp; omega
    clear h hT
    go_enter Tryd.func32, Tryd.ntmps32
    go_wp2_with (go_at_call 39; refine (errorsNew_any _ _).mono ?_; rintro e w1 ⟨rfl, hb1'⟩)
    go_ret2
    exact ⟨⟨_, _, rfl⟩, hb1'⟩
  · have hb1 : decide ((T : Int) < 1) = false := by simp; omega
    by_cases h0 : n < 1
    · have hb2 : decide (n < 1) = true := by simpa using h0
      clear h hT
      go_enter Tryd.func32, Tryd.ntmps32
      go_wp2_with (go_at_call 39; refine (errorsNew_any _ _).mono ?_; rintro e w1 ⟨rfl, hb1'⟩)
      go_ret2
      exact ⟨⟨_, _, rfl⟩, hb1'⟩
    · have hb2 : decide (n < 1) = false := by simpa using h0
      have hb3 : decide ((T : Int) < n) = true := by simp; omega
      clear h hT
      go_enter Tryd.func32, Tryd.ntmps32
      go_wp2_with (go_at_call 39; refine (errorsNew_any _ _).mono ?_; rintro e w1 ⟨rfl, hb1'⟩)
      go_ret2
      exact ⟨⟨_, _, rfl⟩, hb1'⟩
set_option maxHeartbeats 4000000 in
set_option maxRecDepth 50000 in
theorem proveTree_good (ks : List Int) (ls : List (List Int)) (g T n : Nat) (E0t : TypeId) (E0a : Addr) (w : World) (hn : 1 ≤ n ∧ n ≤ T) (hT : T < 2199023255552) (hs : Rdr w g ls (.iface E0t (.pointer (some E0a)))) (hK : WAt w 4 ks) :
    Calls Tryd.prog 32 #[.int .i64 T, .int .i64 n, RV g] w fun e w' => PfOut (pfTree ks ls T (n : Int)) w.heap.size e w' ∧ Below w.heap.size w w' := by
  rw [pfTree_good hn]
  have hk0 : 4 < w.heap.size := (Array.getElem?_eq_some_iff.1 hK.2.2).1
  have hb1 : decide ((T : Int) < 1) = false := by simp; omega
  have hb2 : decide ((n : Int) < 1) = false := by simp; omega
  have hb3 : decide ((T : Int) < n) = false := by simp; omega
  have hal : Tr.Al 0 T := Tr.Al.zero T
  have HLI := Lib.hid (treeProofIndex_any T 0 T n w.heap.size (.slice none 0 0) [] w (by omega) (by omega) (by omega) (by rw [Nat.sub_zero]; exact hal) hT (World.ownsRow_nil _ _ _ _) (Nat.le_refl _) (by simp; omega))
  rw [Nat.sub_zero, List.nil_append, show ((0 : Nat) : Int) = 0 from rfl] at HLI
  have hplen := Tr.treeIx_len (m := 41) (Nat.le_refl _) 0 T n (by omega)
  have HRH := Lib.hid (fun v w' h1 h2 => readHashes_any ls (ixs (Tr.treeIx 0 T n)) v g (.iface E0t (.pointer (some E0a))) w' h1 (ixs_small (n := T) (fun c hc => by have := Tr.treeIx_in hal hc; omega) (by omega)) (by rw [ixs_len]; omega) h2)
  have hil : (ixs (Tr.treeIx 0 T n)).length = (Tr.treeIx 0 T n).length := ixs_len _
  have HMR := Lib.hid (m_read g)
  have HRD := Lib.hid hs
  have HK := Lib.hid hK
  by_cases hnil : Tr.treeIx 0 T n = []
  · have hT1 := Tr.treeIx_nil hnil (by omega) (by omega)
    have HP : Hid ((rd ls (ixs (Tr.treeIx 0 T n))).map (fun os => (Tr.treePf (nhK ks) 0 T n os).1) = some []) := Lib.hid (by
      rw [hnil]
      show some (Tr.treePf (nhK ks) 0 T n []).1 = some []
      rw [Tr.treePf_self _ (by omega), if_pos rfl])
    rw [HP.out]
    have hx0 : ixs (Tr.treeIx 0 T n) = [] := by rw [hnil]; rfl
    rw [hx0] at HLI
    clear hal hplen HRH hil hs hK hnil hT1 hx0
    go_enter Tryd.func32, Tryd.ntmps32
    go_wp2_with fail
    refine HLI.out.mono ?_
    rintro e w1 ⟨⟨v1, rfl, ho1⟩, hb1'⟩
    have HB1 := Lib.hid hb1'
    obtain ⟨A1, c1, rfl, _⟩ := ho1.in_
    clear ho1 hb1'
    go_wp2_with fail
    go_ret2
    exact ⟨⟨_, rfl, (HOwn.new_ w1).mono HB1.out.size⟩, HB1.out.alloc HB1.out.size _⟩
  · have hx0 : (ixs (Tr.treeIx 0 T n)).length ≠ 0 := by rw [hil]; exact fun e => hnil (List.eq_nil_of_length_eq_zero e)
    cases hr : rd ls (ixs (Tr.treeIx 0 T n)) with
    | none =>
      rw [hr] at HRH
      simp only [Option.map_none]
      clear hal hplen hil hs hK hnil hr
      generalize ixs (Tr.treeIx 0 T n) = xs at *
      have hne : ((xs.length : Int) == 0) = false := by rw [beq_eq_false_iff_ne]; omega
      clear hx0
      go_enter Tryd.func32, Tryd.ntmps32
      go_wp2_with fail
      refine HLI.out.mono ?_
      rintro e w1 ⟨⟨v1, rfl, ho1⟩, hb1'⟩
      have HO1 := Lib.hid ho1.in_
      have HB2 : Hid (Below w.heap.size w w1) := Lib.hid hb1'
      have HMR := HMR.out
      unfold RV
      obtain ⟨A1, c1, rfl, _⟩ := HO1.out
      clear ho1 hb1'
      go_wp2_with fail
      refine (HRH.out _ w1 HO1.out (HRD.out.below HB2.out)).mono ?_
      rintro e w2 ⟨h1, hb2'⟩
      obtain rfl : e = .returned (.tuple #[.slice none 0 0, .iface E0t (.pointer (some E0a))]) := h1
      have HB3 : Hid (Below w.heap.size w w2) := Lib.hid (bl_step HB2.out hb2' (Nat.le_refl _))
      clear hb2'
      go_wp2_with fail
      go_ret2
      exact ⟨⟨_, _, rfl⟩, HB3.out⟩
    | some os =>
      rw [hr] at HRH
      simp only [Option.map_some]
      have hol : os.length = (ixs (Tr.treeIx 0 T n)).length := rd_len hr
      have HSH := Lib.hid (fun v w' h1 h2 => treeProof_any ks T 0 T n v os w' (by omega) (by omega) (by omega) (by rw [Nat.sub_zero]; exact hal) hT h1 (by rw [Nat.sub_zero]; omega) h2)
      have hrest := Tr.treePf_rest (nhK ks) 0 T n os
      rw [List.drop_eq_nil_of_le (by omega)] at hrest
      rw [Nat.sub_zero, show ((0 : Nat) : Int) = 0 from rfl, hrest] at HSH
      clear hal hplen hil hs hK hnil hr hrest
      have HOL := Lib.hid hol
      generalize (Tr.treePf (nhK ks) 0 T n os).1 = ps at *
      generalize ixs (Tr.treeIx 0 T n) = xs at *
      have hne : ((xs.length : Int) == 0) = false := by rw [beq_eq_false_iff_ne]; omega
      clear hx0
      go_enter Tryd.func32, Tryd.ntmps32
      go_wp2_with fail
      refine HLI.out.mono ?_
      rintro e w1 ⟨⟨v1, rfl, ho1⟩, hb1'⟩
      have HO1 := Lib.hid ho1.in_
      have HB2 : Hid (Below w.heap.size w w1) := Lib.hid hb1'
      have HMR := HMR.out
      unfold RV
      obtain ⟨A1, c1, rfl, _⟩ := HO1.out
      clear ho1 hb1'
      go_wp2_with fail
      refine (HRH.out _ w1 HO1.out (HRD.out.below HB2.out)).mono ?_
      rintro e w2 ⟨h1, hb2'⟩
      obtain ⟨v2, rfl, ho2⟩ := h1
      have HB3 : Hid (Below w.heap.size w w2) := Lib.hid (bl_step HB2.out hb2' (Nat.le_refl _))
      have HO2 := Lib.hid ho2.in_
      obtain ⟨_, A2, c2, rfl, _⟩ := HO2.out
      have hb3' : ((os.length : Int) != (xs.length : Int)) = false := by rw [HOL.out]; simp
      have HK2 : Hid (WAt w2 4 ks) := Lib.hid (HK.out.below HB3.out hk0)
      clear hb2' ho2 hol
      go_wp2_with fail
      refine (HSH.out _ w2 HO2.out HK2.out).mono ?_
      rintro e w3 ⟨⟨v3, v4, rfl, ho3, ho4⟩, hb4⟩
      obtain ⟨A4, c4, rfl⟩ := (ho4 w2 HO2.out).form
      have HB4 : Hid (Below w.heap.size w w3) := Lib.hid (bl_step HB3.out hb4 (Nat.le_refl _))
      have HO3 : Hid (HOwn w3 w.heap.size v3 ps) := Lib.hid (ho3.mono HB3.out.size)
      clear hb4 ho3 ho4
      go_wp2_with fail
      go_ret2
      exact ⟨⟨_, rfl, HO3.out⟩, HB4.out⟩
theorem proveTree_any (ks : List Int) (ls : List (List Int)) (g T : Nat) (n : Int) (E0t : TypeId) (E0a : Addr) (w : World) (hT : T < 2199023255552) (hs : Rdr w g ls (.iface E0t (.pointer (some E0a)))) (hK : WAt w 4 ks) :
    Calls Tryd.prog 32 #[.int .i64 T, .int .i64 n, RV g] w fun e w' => PfOut (pfTree ks ls T n) w.heap.size e w' ∧ Below w.heap.size w w' := by
  by_cases h : n < 1 ∨ (T : Int) < n
  · rw [pfTree_bad h]; exact proveTree_bad T n _ w h
  · obtain ⟨n, rfl⟩ := Int.eq_ofNat_of_zero_le (show 0 ≤ n by omega)
    exact proveTree_good ks ls g T n E0t E0a w (by omega) hT hs hK

set_option maxHeartbeats 4000000 in
set_option maxRecDepth 50000 in
theorem implProveTree_any (ks : List Int) (ls : List (List Int)) (t n : Int) (T : Nat) (v : Value) (E0t : TypeId) (E0a : Addr) (w : World) (hN : t % 1099511627776 = (T : Int)) (hv : RowsIn w v ls) (hK : WAt w 4 ks)
    (hE : w.cell? ⟨0, 0, none⟩ = some (.iface E0t (.pointer (some E0a)))) (hE0 : 0 < w.heap.size) :
    Calls Tryd.prog 15 #[.int .i64 t, .int .i64 n, v] w fun e w' => (∃ v', e = .returned (.tuple #[v', .bool (pfTree ks ls T n).isSome]) ∧ RB w' w.heap.size v' (pfTree ks ls T n)) ∧ Below w.heap.size w w' := by
  have hN1 : T < 1099511627776 := by have := Int.emod_lt_of_pos t (b := 1099511627776) (by omega); omega
  have hk0 : 4 < w.heap.size := (Array.getElem?_eq_some_iff.1 hK.2.2).1
  have HS := Lib.hid (implSize_any t w)
  rw [hN] at HS
  have HR := Lib.hid (reader_any ls v _ w hv hE hE0)
  have HT := Lib.hid (fun w' hs hk => proveTree_any ks ls w.heap.size T n E0t E0a w' (by omega) hs hk)
  have HK := Lib.hid hK
  have hlen : ∀ ps, pfTree ks ls T n = some ps → ps.length ≤ 1000 := fun ps h => by have := pfTree_len (m := 41) (by omega) h; omega
  clear hK hN
  generalize pfTree ks ls T n = r at *
  cases hr : r with
  | none =>
    subst hr
    clear hv hE
    go_enter Tryd.func15, Tryd.ntmps15
    go_wp2_with fail
    refine HS.out.mono ?_
    rintro e w' ⟨rfl, rfl⟩
    go_wp2_with fail
    refine HR.out.mono ?_
    rintro e w1 ⟨rfl, hr1, hb1⟩
    have HR1 := Lib.hid hr1
    have HB1 := Lib.hid hb1
    clear hr1 hb1
    go_wp2_with fail
    refine (HT.out w1 HR1.out (HK.out.below HB1.out hk0)).mono ?_
    rintro e w2 ⟨⟨T', a', rfl⟩, hb2⟩
    have HB2 : Hid (Below w.heap.size w w2) := Lib.hid (bl_step HB1.out hb2 (Nat.le_refl _))
    clear hb2
    go_wp2_with fail
    go_ret2
    exact ⟨⟨_, rfl, _, rfl⟩, HB2.out.alloc HB2.out.size _⟩
  | some ps =>
    subst hr
    have HPL := Lib.hid (hlen ps rfl)
    have HF := Lib.hid (fun v w' (h : HIn w' v ps) => fromHashes_any ps v w' h HPL.out)
    clear hv hE
    go_enter Tryd.func15, Tryd.ntmps15
    go_wp2_with fail
    refine HS.out.mono ?_
    rintro e w' ⟨rfl, rfl⟩
    go_wp2_with fail
    refine HR.out.mono ?_
    rintro e w1 ⟨rfl, hr1, hb1⟩
    have HR1 := Lib.hid hr1
    have HB1 := Lib.hid hb1
    clear hr1 hb1
    go_wp2_with fail
    refine (HT.out w1 HR1.out (HK.out.below HB1.out hk0)).mono ?_
    rintro e w2 ⟨⟨v2, rfl, ho2⟩, hb2⟩
    have HB2 : Hid (Below w.heap.size w w2) := Lib.hid (bl_step HB1.out hb2 (Nat.le_refl _))
    have HO2 := Lib.hid ho2.in_
    clear hb2 ho2
    go_wp2_with fail
    refine (HF.out v2 w2 HO2.out).mono ?_
    rintro e w3 ⟨⟨v3, us, rfl, ho3, hf3⟩, hb3⟩
    have HF3 := Lib.hid (hf3.mono HB2.out.size)
    have HO3 := Lib.hid (ho3.mono HB2.out.size)
    have HB3 : Hid (Below w.heap.size w w3) := Lib.hid (bl_step HB2.out hb3 (Nat.le_refl _))
    clear hb3 ho3 hf3
    go_wp2_with fail
    go_ret2
    exact ⟨⟨_, rfl, us, HO3.out, HF3.out⟩, HB3.out⟩

end Go.Proofs.YtokopcbmpnnkcaaDoor
