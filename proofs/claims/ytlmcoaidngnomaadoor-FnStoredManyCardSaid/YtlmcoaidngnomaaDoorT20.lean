/- The walk of FnStoredMany: it returns true at every input, whatever words the table of SHA-256 holds. Conditions: impl.errMissing holds an error; bits.deBruijn64tab holds its table. -/
import Derived.Test.YtlmcoaidngnomaaDoorT18
import Derived.Deep.RegionWith
namespace Go.Proofs.YtlmcoaidngnomaaDoor
open Go.RowKit
set_option linter.unusedVariables false

/-- what the hashes that are stored with a record are -/
theorem stH_facts {ks : List Int} {ls : List (List Int)} {N : Nat} {h : List Int} {ps : List (List Int)} (hh : h.length = 32) (hs : stH ks ls N h = some ps) : ps[0]? = some h ∧ (∀ p ∈ ps, p.length = 32) ∧
    ∀ k, k < Idx.ones N → ∃ li x y, ls[Idx.idx k (N / 2 ^ k - 1)]? = some li ∧ ps[k]? = some x ∧ ps[k + 1]? = some y ∧ y = nhK ks (h32 li) x := by
  obtain ⟨os, ho, rfl⟩ := Option.map_eq_some_iff.1 hs
  refine ⟨Tr.chain_zero _ _ _, chain_32 _ _ hh, fun k hk => ?_⟩
  obtain ⟨li, h1, h2⟩ := rd_get ho (besideX_get hk)
  have hl : os.length = Idx.ones N := (rd_len ho).trans (besideX_len N)
  have h3 : os.reverse[k]? = some (h32 li) := by
    rw [List.getElem?_reverse (by omega), hl]; exact h2
  have hcl : (Tr.chain (nhK ks) h os.reverse).length = Idx.ones N + 1 := by rw [Tr.chain_len, List.length_reverse, hl]
  obtain ⟨x, hx⟩ : ∃ x, (Tr.chain (nhK ks) h os.reverse)[k]? = some x := ⟨_, List.getElem?_eq_getElem (by omega)⟩
  exact ⟨li, x, _, h1, hx, Tr.chain_succ (nhK ks) h os.reverse k _ _ h3 hx, rfl⟩
theorem wpStill_want {P : Program} {ops : Array Oper} {rest : List Oper} {o : Oper} {a : Act} {w : World} {Q : Act → Prop} (hw : Region.wanted o (yielded ops a.tmps) = true) (h : ∀ K : Act → Prop, (∀ a, wpStill P ops w Q rest a → K a) → o.still P a w K) : wpStill P ops w Q (o :: rest) a :=
  wpStill_step fun K hK => by
    rw [if_pos hw]
    exact h K hK
set_option maxHeartbeats 4000000 in
set_option maxRecDepth 200000 in
theorem walk_FnStoredMany (n : Int) (v1 : Value) (h : List Int) (v2 : Value) (ls : List (List Int)) (w : World) (_ : (Lit.int .i64 n).wf = true) (h1 : (BIn w v1 h ∧ Oct h) ∧ h.length ≤ 140737488351232)
    (h2 : (RowsIn w v2 ls ∧ OctR ls) ∧ (ls.length ≤ 5864062014634 ∧ ∀ l ∈ ls, l.length ≤ 140737488351232)) (hL : laidMetH Tryd.prog Rows.fnStoredManyRow.laid w) (hsh : w.ShapedOpen Tryd.prog) :
    Calls Tryd.prog 5 #[.int .i64 n, v1, v2] w fun e w' => e = .returned (.bool true) ∧ Below w.heap.size w w' := by
  rw [MakeChecks.laidMetH_plain _ _ _ (by kernel_rfl)] at hL
  have hT : Tab w := tab_of_laid hL
  obtain ⟨E0t, E0a, hE, hE0⟩ := missing_of rfl hL.tail
  obtain ⟨ks, hK⟩ := table_of hsh
  have hk0 : 4 < w.heap.size := (Array.getElem?_eq_some_iff.1 hK.2.2).1
  have HW := Lib.hid (fun (p : BW w) => trWorks_any ks p.val (hK.below p.bel hk0))
  have HN := rem_eq n 1099511627776 (by omega)
  have hNl := rem_lt n 1099511627776 (by omega)
  have HS := Lib.hid (implStoredFor_any ks ls h n (rem n 1099511627776) v1 v2 E0t E0a w HN h1.1.1 h2.1.1 hK hT hE hE0)
  have HSZ := Lib.hid (fun w => spec_Size n w)
  rw [HN] at HSZ
  have HHS := Lib.hid (fun w' (hb : Below w.heap.size w w') => spec_Hash32 h v1 w' (h1.1.1.below hb))
  have HX := h32_len h
  have HV := Lib.hid h2.1.1
  have HK := Lib.hid hK
  clear h1 h2 hL hsh hK hE hT HN
  generalize rem n 1099511627776 = N at *
  generalize h32 h = x0 at *
  cases hr : stH ks ls N x0 with
  | none =>
    rw [hr] at HS
    clear hr
    go_enter Tryd.func5, Tryd.ntmps5
    go_wp2_with fail
    refine HS.out.mono ?_
    rintro e w1 ⟨⟨u1, rfl, A1, rfl⟩, hb1⟩
    have HB1 := Lib.hid hb1
    clear hb1
    go_wp2_with fail
    refine (HW.out ⟨w1, HB1.out⟩).mono ?_
    rintro e w2 ⟨rfl, hb2⟩
    have HB2 : Hid (Below w.heap.size w w2) := Lib.hid (bl_step HB1.out hb2 (Nat.le_refl _))
    clear hb2
    go_wp2_with fail
    go_ret
    exact ⟨rfl, HB2.out⟩
  | some ps =>
    rw [hr] at HS
    by_cases hbig : 1073741824 ≤ N
    · have hbg : decide ((1073741824 : Int) ≤ (N : Int)) = true := by simp; omega
      clear hr hbig
      go_enter Tryd.func5, Tryd.ntmps5
      go_wp2_with fail
      refine HS.out.mono ?_
      rintro e w1 ⟨⟨u1, rfl, us1, ho1, hf1⟩, hb1⟩
      have HB1 := Lib.hid hb1
      clear hb1 ho1 hf1
      go_wp2_with fail
      refine (HSZ.out _).mono ?_
      rintro e w' ⟨rfl, rfl⟩
      go_wp2_with fail
      refine (HW.out ⟨w1, HB1.out⟩).mono ?_
      rintro e w2 ⟨rfl, hb2⟩
      have HB2 : Hid (Below w.heap.size w w2) := Lib.hid (bl_step HB1.out hb2 (Nat.le_refl _))
      clear hb2
      go_wp2_with fail
      go_ret
      exact ⟨rfl, HB2.out⟩
    · have hbg : decide ((1073741824 : Int) ≤ (N : Int)) = false := by simp; omega
      have hlen := stH_len hr
      obtain ⟨hp0, hp32, hpc⟩ := stH_facts HX hr
      have HPC := Lib.hid hpc
      have HP32 := Lib.hid hp32
      have HODD := Lib.hid (fun k (hk : k < Idx.ones N) => Tr.odd_of_lt hk)
      have HTO := Lib.hid (fun w => trOnes N w (by omega))
      have hm30 := Idx.ones_le_log (n := N) (k := 30) (by omega)
      have HX0 := Lib.hid HX
      generalize hm : Idx.ones N = m at *
      have HLE := Lib.hid hlen
      have HWL : Hid (IntKind.i64.wrap ((1 : Int) + (m : Int)) = (m : Int) + 1) := Lib.hid (by rw [IntWalk.i64_in _ (by omega)]; omega)
      have hN30 : N < 1073741824 := by omega
      clear hr hbig hpc hp32 hlen hm HX hNl
      go_enter Tryd.func5, Tryd.ntmps5
      go_wp2_with fail
      refine HS.out.mono ?_
      rintro e w1 ⟨⟨u1, rfl, us1, ho1, hf1⟩, hb1⟩
      have HB1 := Lib.hid hb1
      have HO1 := Lib.hid ho1.in_
      obtain ⟨A1, c1, e1, q1, q2, q3⟩ := HO1.out
      obtain ⟨b1, off1, rfl, hlt1, hcell1⟩ := q3.resolve_left (by have := HLE.out; omega)
      obtain ⟨z0, hz0', hzi⟩ := hcell1 0 x0 hp0
      have hz0 : w1.cell? ⟨b1, off1, none⟩ = some z0 := by simpa using hz0'
      rw [HLE.out] at e1
      subst e1
      have HCELL := Lib.hid hcell1
      have HZ0 := Lib.hid hz0
      have HZI := Lib.hid hzi
      clear hb1 ho1 hf1 hzi hp0 q1 q2 q3 hcell1 hz0'
      go_wp2_with fail
      refine (HSZ.out _).mono ?_
      rintro e w' ⟨rfl, rfl⟩
      go_upto_region 7 with fail
      go_cut [45] from 31 to 46 (fun t wx => t = .bool false ∧ Hid (Below w1.heap.size w1 wx))
      case first =>
        as_aux_lemma =>
          have hWL := HWL.out
          go_region_held3 (fun w' => w'.cell? ⟨b1, off1, none⟩ = some z0) ((first | assumption | (simpa using hz0))) ((first
            | (go_at_call 19; (with_reducible refine (HTO.out _).mono ?_); rintro e w' ⟨rfl, rfl⟩)
            | (go_at_call 16; (with_reducible refine (HHS.out w1.drew HB1.out.drew).mono ?_); rintro e w2 ⟨⟨rfl, hp2⟩, hb2⟩; have HP2 : Hid (BIn w2 (.slice (some ⟨w1.heap.size, 0, none⟩) 32 32) x0) := Lib.hid (bat_in hp2 HX0.out); have HB12 : Hid (Below w1.heap.size w1 w2) := Lib.hid (bl_step (Below.refl _ _).drew hb2 (Nat.le_refl _)); have HZ2 : Hid (BIn w2 z0 x0) := Lib.hid (HZI.out.below HB12.out); have cz2 : w2.cell? ⟨b1, off1, none⟩ = some z0 := (HB12.out.cell (p := ⟨b1, off1, none⟩) hlt1).trans HZ0.out; clear hb2 hp2)
            | (go_at_call 15; (with_reducible refine (bytesEqual_same x0 x0 _ _ w2 HZ2.out HP2.out rfl).mono ?_); rintro e w' ⟨rfl, rfl⟩)))
          all_goals (go_wp2_with fail; go_meet; exact ⟨rfl, HB12⟩)
      case rest =>
        obtain ⟨rfl, HBC1⟩ := hcut
        go_wp2_with fail
        go_loopw [9] (fun i wr => ∃ l : Nat, i = .int .i64 l ∧ 1 ≤ l ∧ l ≤ m + 1 ∧ Hid (Below w1.heap.size w1 wr)) (fun i _ => m + 1 - (intOf i).toNat)
        case atStart => exact ⟨1, rfl, by omega, by omega, HBC1⟩
        case round =>
          obtain ⟨l, rfl, hl1, hl2, hB⟩ := hrel
          by_cases hlt : l < m + 1
          · obtain ⟨k, hk⟩ : ∃ k, k = l - 1 := ⟨_, rfl⟩
            have hkm : k < m := by omega
            obtain ⟨li, x, y, hli, hx, hy, hyx⟩ := HPC.out k hkm
            have hq1 := HODD.out k hkm
            have hqd := div_pow_int N k
            have hqn : N / 2 ^ k ≤ N := Nat.div_le_self _ _
            obtain ⟨q, hq⟩ : ∃ q, q = N / 2 ^ k := ⟨_, rfl⟩
            rw [← hq] at hq1 hqd hqn hli
            have hqc : ((q : Int) - 1) = ((q - 1 : Nat) : Int) := by omega
            have HIX := Lib.hid (fun w => impl_StoredIndex (k : Int) ((q - 1 : Nat) : Int) w)
            rw [rem_self k 31 (by omega), rem_self (q - 1) 1073741824 (by omega)] at HIX
            have hlk : ((l : Int) - 1) = (k : Int) := by omega
            obtain ⟨i, hi⟩ : ∃ i, i = Idx.idx k (q - 1) := ⟨_, rfl⟩
            rw [← hi] at HIX hli
            have hil : i < ls.length := (List.getElem?_eq_some_iff.1 hli).1
            have hb1 : decide ((ls.length : Int) ≤ (i : Int)) = false := by simp; omega
            obtain ⟨A2, c2, e2, q1', q2', q3'⟩ := HV.out
            obtain ⟨b2, off2, rfl, hlt2, hcell2⟩ := q3'.resolve_left (by omega)
            obtain ⟨ui, hui, huii⟩ := hcell2 i li hli
            obtain ⟨ux, hux, huxi⟩ := HCELL.out k x hx
            obtain ⟨uy, huy, huyi⟩ := HCELL.out (k + 1) y hy
            have hlk1 : k + 1 = l := by omega
            rw [hlk1] at huy
            have HBWR : Hid (Below w.heap.size w wr) := Lib.hid (HB1.out.trans (hB.out.mono HB1.out.size))
            have cui : wr.cell? ⟨b2, off2 + i, none⟩ = some ui := (HBWR.out.cell (p := ⟨b2, off2 + i, none⟩) hlt2).trans hui
            have cux : wr.cell? ⟨b1, off1 + k, none⟩ = some ux := (hB.out.cell (p := ⟨b1, off1 + k, none⟩) hlt1).trans hux
            have cuy : wr.cell? ⟨b1, off1 + l, none⟩ = some uy := (hB.out.cell (p := ⟨b1, off1 + l, none⟩) hlt1).trans huy
            have HUI : Hid (BIn wr ui li) := Lib.hid (huii.below HBWR.out)
            have HUX : Hid (BIn wr ux x) := Lib.hid (huxi.below hB.out)
            have HUY : Hid (BIn wr uy y) := Lib.hid (huyi.below hB.out)
            have HCY := Lib.hid cuy
            have hx32 : x.length = 32 := HP32.out x (List.mem_of_getElem? hx)
            have HNH := Lib.hid (fun w' (hb : Below wr.heap.size wr w') => impl_NodeHash_any ks li x ui ux w' (HK.out.below (bl_step HBWR.out hb (Nat.le_refl _)) hk0) (HUI.out.below hb) (HUX.out.below hb))
            rw [show sha ks (1 :: (h32 li ++ h32 x)) = y by rw [hyx, h32_self hx32]; rfl] at HNH
            have hb1w : b1 < wr.heap.size := Nat.lt_of_lt_of_le hlt1 hB.out.size
            have hb2w : b2 < wr.heap.size := Nat.lt_of_lt_of_le hlt2 HBWR.out.size
            subst e2
            clear hlk1 hq hli hx hy hyx hi hil hk hcell2 hui huii hux huxi huy huyi q1' q2' q3' hx32
            go_upto_region 13 with (go_at_call 20; (with_reducible refine (HIX.out _).mono ?_); rintro e w' ⟨rfl, rfl⟩)
            go_cut [81] from 46 to 81 (fun t wx => t = .bool false ∧ Hid (Below w1.heap.size w1 wx))
            case first =>
              as_aux_lemma =>
                have hMw : IntKind.i64.wrap (k : Int) = (k : Int) := IntWalk.i64_in _ (by omega)
                have hk0' : (0 : Int) ≤ (k : Int) := by omega
                have hk1' : (k : Int) < (m : Int) + 1 := by omega
                have hl1' : (l : Int) < (m : Int) + 1 := by omega
                have hi1' : (i : Int) < (ls.length : Int) := by simp at hb1; omega
                have hb1n : decide (ls.length ≤ i) = false := by simp; omega
                go_region_held3 (fun w' => w'.cell? ⟨b1, off1 + l, none⟩ = some uy ∧ w'.cell? ⟨b2, off2 + i, none⟩ = some ui ∧ w'.cell? ⟨b1, off1 + k, none⟩ = some ux) ((first | assumption | (exact ⟨by simpa using cuy, by simpa using cui, by simpa using cux⟩))) ((first
                  | (go_at_call 21; (with_reducible refine (HNH.out wr.drew (Below.refl _ _).drew).mono ?_); rintro e w3 ⟨⟨g3, c3, rfl, ho3⟩, hb3⟩; have HN3 := Lib.hid (row_in ho3); have HB3 : Hid (Below wr.heap.size wr w3) := Lib.hid (bl_step (Below.refl _ _).drew hb3 (Nat.le_refl _)); have HY3 := Lib.hid (HUY.out.below HB3.out); have hS3 : w3.cell? ⟨b1, off1 + l, none⟩ = some uy ∧ w3.cell? ⟨b2, off2 + i, none⟩ = some ui ∧ w3.cell? ⟨b1, off1 + k, none⟩ = some ux := ⟨(HB3.out.cell (p := ⟨b1, off1 + l, none⟩) hb1w).trans cuy, (HB3.out.cell (p := ⟨b2, off2 + i, none⟩) hb2w).trans cui, (HB3.out.cell (p := ⟨b1, off1 + k, none⟩) hb1w).trans cux⟩; clear ho3 hb3)
                  | (go_at_call 15; (with_reducible refine (bytesEqual_same y y _ _ w3 HY3.out HN3.out rfl).mono ?_); rintro e w' ⟨rfl, rfl⟩)))
                go_wp2_with fail
                go_meet
                exact ⟨rfl, Lib.hid (hB.out.trans (HB3.out.mono hB.out.size))⟩
            case rest =>
              obtain ⟨rfl, HBX⟩ := hcut
              go_wp2_with fail
              go_roundw
              case rel => exact ⟨l + 1, by go_num, by omega, by omega, HBX⟩
              case measure => simp [intOf]; omega
          · obtain rfl : l = m + 1 := by omega
            have HBE : Hid (Below w.heap.size w wr) := Lib.hid (HB1.out.trans (hB.out.mono HB1.out.size))
            go_wp2_with fail
            refine (HW.out ⟨wr, HBE.out⟩).mono ?_
            rintro e w6 ⟨rfl, hb6⟩
            have HB6 : Hid (Below w.heap.size w w6) := Lib.hid (bl_step HBE.out hb6 (Nat.le_refl _))
            clear hb6
            go_wp2_with fail
            go_ret
            exact ⟨rfl, HB6.out⟩

end Go.Proofs.YtlmcoaidngnomaaDoor
