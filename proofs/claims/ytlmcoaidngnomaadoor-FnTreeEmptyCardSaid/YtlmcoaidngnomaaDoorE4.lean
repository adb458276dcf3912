/- The reference's SHA-256 of nothing. No condition. -/
import Derived.Test.YtlmcoaidngnomaaDoorE3
import Derived.Test.YtlmcoaidngnomaaDoorT2
namespace Go.Proofs.YtlmcoaidngnomaaDoor
open Go.RowKit
set_option linter.unusedVariables false

def eIni : ER := ⟨1779033703, 3144134277, 1013904242, 2773480762, 1359893119, 2600822924, 528734635, 1541459225⟩
theorem eIni_ok : eIni.ok := by simp [ER.ok, EW, eIni]
/-- the bytes of words -/
def eOut : List Int → List Int
  | [] => []
  | x :: xs => x / 16777216 % 256 :: x / 65536 % 256 :: x / 256 % 256 :: x % 256 :: eOut xs
theorem eOut_append (xs ys : List Int) : eOut (xs ++ ys) = eOut xs ++ eOut ys := by
  induction xs with
  | nil => rfl
  | cons x xs ih => simp [eOut, ih]
def ePad (n : Nat) : List Int := 128 :: List.replicate n 0
def EO (w : World) (base : Nat) (v : Value) (n : Nat) (ys : List Int) : Prop := w.ownsRow base 5 1 v n (ys.map (Value.int .u8))
theorem eown_none (w : World) (base : Nat) (h : base ≤ w.heap.size) : EO (w.alloc (Obj.cells #[] 5)) base (.slice (some ⟨w.heap.size, 0, none⟩) 0 0) 0 [] :=
  ⟨rfl, .inr ⟨w.heap.size, 0, #[], rfl, h, heap_alloc_new w _, Nat.le_refl _, by simp [maxLen], rfl, rfl⟩⟩
theorem eone (ys : List Int) : ∀ u ∈ ys.map (Value.int .u8), u.oneCell' = true := by
  intro u hu
  obtain ⟨x, _, rfl⟩ := List.mem_map.1 hu
  rfl
theorem esrc (w : World) (ys : List Int) : ∀ j u, (ys.map (Value.int .u8))[j]? = some u → (w.alloc (Obj.cells (ys.map (Value.int .u8)).toArray 5)).cell? ((⟨w.heap.size, 0, none⟩ : Addr).add j) = some u := by
  intro j u hu
  have e : (⟨w.heap.size, 0, none⟩ : Addr).add j = ⟨w.heap.size, j, none⟩ := by unfold Addr.add; split <;> simp_all
  rw [e, cell_of_row (w.alloc _) _ _ _ 5 (0, 0) (heap_alloc_new w _), ← hu]
  simp
theorem eslice {w : World} {base n : Nat} {v : Value} {ys : List Int} (h : EO w base v n ys) (hn : n ≠ 0) : ∃ g c, v = .slice (some ⟨g, 0, none⟩) n c ∧ n ≤ c ∧ c ≤ maxLen := by
  rcases h.2 with ⟨_, h0⟩ | ⟨g, cap, cur, e, _, _, h1, h2, _⟩
  · exact absurd h0 hn
  · exact ⟨g, cap, e, h1, h2⟩
theorem ePad_snoc (n : Nat) : ePad (n + 1) = ePad n ++ [0] := by
  unfold ePad
  rw [List.replicate_succ', ← List.cons_append]
/-- an append of bytes to bytes that the call owns -/
theorem wpList_appendB {ops : Array Oper} {rest : List Oper} {o : Oper} {a : Act} {Q : Exit → Act → World → Prop} (w : World) (hgd : o.guard = none) (s x : Operand)
    (ho : o.op = .call { callee := .builtin .append, args := #[s, x], argTypes := #[23, 23] }) (W2 : World) (v : Value) (n m c : Nat) (ys news : List Int) (hs : a.eval s = v) (hown : EO w W2.heap.size v n ys) (hb : Below W2.heap.size W2 w)
    (gx : Nat) (hx : a.eval x = .slice (some ⟨gx, 0, none⟩) m c) (hg : gx = w.heap.size) (hl : news.length = m) (hm : n + m ≤ 1000)
    (h : ∀ v' w', Hid (EO w' W2.heap.size v' (n + m) (ys ++ news)) → Hid (Below W2.heap.size W2 w') → wpList Tryd.prog ops Q rest (a.put o.dst v') w') :
    wpList Tryd.prog ops Q (o :: rest) a (w.alloc (Obj.cells (news.map (Value.int .u8)).toArray 5)) := by
  subst hg
  obtain ⟨i0, hi, hz0, hz1, hz2⟩ := info_parts info_byte
  refine wpList_append_own_at _ hgd s x 23 ho W2.heap.size 5 i0 (.int .u8 0) 1 1 Tryd.underlying23 hi hz0 hz1 hz2 rfl (by decide) v n (ys.map (Value.int .u8)) hs (World.ownsRow.alloc hown _) ⟨w.heap.size, 0, none⟩ m c (news.map (Value.int .u8)) hx (by simp [hl]) (esrc w news) (eone news) (by unfold maxLen; omega) (by omega) (by have := hb.size; simp; omega) (fun v' w' hown' hgrow _ _ => ?_)
  refine h v' w' (Lib.hid ?_) (Lib.hid ?_)
  · unfold EO; rw [List.map_append]; exact hown'
  · exact (hb.alloc (by have := hb.size; omega) _).grown hgrow (by have := hb.size; simp; omega) (fun k hk => (World.ownsRow.lt hown k hk).1)
theorem eindex (us : List Int) (i : Nat) (hl : us.length = 8) (hi : i < 8) (w : World) : (Instr.index 65 (.agg (us.map (Value.int .u32)).toArray) (.int .i64 i)).run Tryd.prog w = .ok (.int .u32 (us.getD i 0)) w := by
  have h1 : i < us.length := by omega
  have h2 : (0 : Int) ≤ (i : Int) := by omega
  simp [Instr.index, run_underlying Tryd.underlying65, asIntOf, h1, h2, hi, go_sem]
set_option maxHeartbeats 4000000 in
set_option maxRecDepth 50000 in
theorem spec_Sum_nil (w : World) : Calls Tryd.prog 23 #[.slice none 0 0] w fun e w' => (∃ v, e = .returned v ∧ EO w' w.heap.size v 32 (eOut (eBlk (ePad 63) eIni))) ∧ Below w.heap.size w w' := by
  have hz8 := ez8
  obtain ⟨Z8, hZ8⟩ : ∃ Z8, Z8 = List.replicate 8 (0 : Int) := ⟨_, rfl⟩
  rw [← hZ8] at hz8
  have HZ8L : Hid (Z8.length = 8) := Lib.hid (by rw [hZ8]; rfl)
  have HN8 : Hid (RAt (w.alloc (Obj.cells (Z8.map (Value.int .u32)).toArray 65)) w.heap.size 65 Z8) := Lib.hid (RAt.new w _ _)
  obtain ⟨ss, hss⟩ : ∃ ss, ss = eIni.list := ⟨_, rfl⟩
  have HSS := Lib.hid hss
  have HSL : Hid (ss.length = 8) := Lib.hid (by rw [hss]; rfl)
  obtain ⟨OUT, hOUT⟩ : ∃ OUT, OUT = eBlk (ePad 63) eIni := ⟨_, rfl⟩
  have HOUT := Lib.hid hOUT
  have HOL : Hid (OUT.length = 8) := Lib.hid (by rw [hOUT]; unfold eBlk; rw [eAdd_len]; rfl)
  rw [← hOUT]
  clear hss hOUT hZ8
  go_enter Tryd.func23, Tryd.ntmps23
  go_upto_region 2 with (first
    | (refine wpList_build_to rfl 65 _ rfl (ss.map (Value.int .u32)).toArray (by rw [HSS.out]; kernel_rfl) ?_)
    | (refine wpList_storeR rfl 65 (.tmp 3) (.tmp 11) rfl w.heap.size ss rfl rfl 65 Z8 HN8.out 8 einfo8 HSL.out HZ8L.out ?_; intro W2 HS2 HK2 HL2 HSZ2))
  have HB2 : Hid (Below w.heap.size w W2) := Lib.hid (HL2.out _ _ (Nat.le_refl _) ((Below.refl _ _).alloc (Nat.le_refl _) _))
  have HSZ : Hid (W2.heap.size = w.heap.size + 1) := Lib.hid (by rw [HSZ2.out]; simp)
  have HO2 : Hid (EO (W2.alloc (Obj.cells #[] 5)) W2.heap.size (.slice (some ⟨W2.heap.size, 0, none⟩) 0 0) 0 []) := Lib.hid (eown_none W2 W2.heap.size (Nat.le_refl _))
  have HX2 : Hid (Below W2.heap.size W2 (W2.alloc (Obj.cells #[] 5))) := Lib.hid ((Below.refl _ _).alloc (Nat.le_refl _) _)
  obtain ⟨i0, hi0, _⟩ := info_parts info_byte
  have HI0 := Lib.hid hi0
  clear hi0 HK2 HL2 HSZ2 HN8
  go_wp2_with (first
    | (at_builtin; refine wpList_append_own_none rfl (.tmp 12) (.tmp 13) 23 rfl W2.heap.size 5 i0 1 Tryd.underlying23 HI0.out _ 0 [] rfl HO2.out rfl ?_)
    | (at_builtin; refine wpList_appendB (W2.alloc (Obj.cells #[] 5)) rfl (.tmp 14) (.tmp 15) rfl W2 _ 0 1 1 [] [128] rfl HO2.out HX2.out _ rfl (by simp) rfl (by omega) ?_; intro v3 w3 HO3 HX3))
  have HS3 : Hid (RAt w3 w.heap.size 65 ss) := Lib.hid (HS2.out.bel HX3.out)
  go_loopw [4] (fun v wr => ∃ n : Nat, 1 ≤ n ∧ n ≤ 56 ∧ (∃ g c, v = .slice (some ⟨g, 0, none⟩) n c) ∧ Hid (EO wr W2.heap.size v n (ePad (n - 1))) ∧ Hid (Below W2.heap.size W2 wr)) (fun v _ => match v with | .slice _ n _ => 56 - n | _ => 0)
  case atStart =>
    refine ⟨1, by omega, by omega, ?_, HO3, HX3⟩
    obtain ⟨g, c, e, _⟩ := eslice HO3.out (by omega)
    exact ⟨g, c, e⟩
  case round =>
    obtain ⟨n, hn1, hn2, ⟨g, c, rfl⟩, HO, HX⟩ := hrel
    by_cases hn : n < 56
    · have hr : ((n : Int) % 64 != 56) = true := by rw [bne_iff_ne]; omega
      go_wp2_with (first
        | (at_builtin; refine wpList_appendB wr rfl (.tmp 21) (.tmp 22) rfl W2 _ n 1 1 (ePad (n - 1)) [0] rfl HO.out HX.out _ rfl (by simp) rfl (by omega) ?_; intro v4 w4 HO4 HX4))
      obtain ⟨g4, c4, rfl, _⟩ := eslice HO4.out (by omega)
      refine ⟨⟨n + 1, by omega, by omega, ⟨g4, c4, rfl⟩, ?_, HX4⟩, by simp only; omega⟩
      have h := HO4.out
      rw [← ePad_snoc, show n - 1 + 1 = n by omega] at h
      rw [Nat.add_sub_cancel]
      exact Lib.hid h
    · have hn56 : n = 56 := by omega
      have hr : ((n : Int) % 64 != 56) = false := by rw [hn56]; rfl
      have HN56 := Lib.hid hn56
      clear hn hn1 hn2 hn56
      go_wp2_with fail
      go_loopw [4, 6] (fun v sh wr => ∃ (j : Nat) (S : Int), j ≤ 8 ∧ S = 56 - 8 * j ∧ sh = .int .i64 S ∧ (∃ g c, v = .slice (some ⟨g, 0, none⟩) (56 + j) c) ∧ Hid (EO wr W2.heap.size v (56 + j) (ePad (55 + j))) ∧ Hid (Below W2.heap.size W2 wr)) (fun v _ _ => match v with | .slice _ n _ => 64 - n | _ => 0)
      case atStart => exact ⟨0, 56, by omega, by omega, rfl, ⟨g, c, by rw [HN56.out]⟩, by have h := HO.out; rw [HN56.out] at h ⊢; exact Lib.hid h, HX⟩
      clear hr HO HX
      case round =>
        obtain ⟨j, S, hj, hS, rfl, ⟨g, c, rfl⟩, HO, HX⟩ := hrel
        by_cases hj8 : j < 8
        · have hS0 : (0 : Int) ≤ S := by omega
          have hSb : decide ((0 : Int) ≤ S) = true := decide_eq_true hS0
          have hSw : IntKind.i64.wrap (S - 8) = S - 8 := ewr (by omega) (by omega)
          go_wp2_with (first
            | (at_builtin; refine wpList_appendB wr rfl (.tmp 32) (.tmp 37) rfl W2 _ (56 + j) 1 1 (ePad (55 + j)) [0] rfl HO.out HX.out _ rfl (by simp) rfl (by omega) ?_; intro v4 w4 HO4 HX4))
          obtain ⟨g4, c4, rfl, _⟩ := eslice HO4.out (by omega)
          refine ⟨⟨j + 1, 56 - 8 * (j : Int) - 8, by omega, by omega, by rw [← hS], ⟨g4, c4, rfl⟩, ?_, HX4⟩, by simp only; omega⟩
          have h := HO4.out
          rw [← ePad_snoc] at h
          exact Lib.hid h
        · have hj8' : j = 8 := by omega
          have hSb : decide ((0 : Int) ≤ S) = false := decide_eq_false (by omega)
          obtain ⟨L, hL⟩ : ∃ L, L = 56 + j := ⟨_, rfl⟩
          have hL64 : L = 64 := by omega
          rw [← hL] at HO ⊢
          rw [show 55 + j = 63 by omega] at HO
          obtain ⟨g', c', hgc, hLc, hcm⟩ := eslice HO.out (by omega)
          cases hgc
          have hSA : Hid (RAt wr w.heap.size 65 ss) := Lib.hid (HS2.out.bel HX.out)
          have HBW : Hid (Below w.heap.size w wr) := Lib.hid (HB2.out.trans (HX.out.mono HB2.out.size))
          have hne : w.heap.size < W2.heap.size := by rw [HSZ.out]; omega
          obtain ⟨hgl, hgs⟩ := World.ownsRow.lt HO.out g rfl
          have HBI : Hid (∀ k, k < 64 → wr.cell? ⟨g, 0 + k, none⟩ = some (.int .u8 ((ePad 63).getD k 0))) := Lib.hid (by
            obtain ⟨A', c2, e2, _, _, h3⟩ := row_in HO.out
            cases e2
            rcases h3 with h3 | ⟨b3, o3, e3, _, hc3⟩
            · have := hLc; omega
            · cases e3
              exact fun k hk => hc3 k (by unfold ePad; simp; omega))
          have hb1 : decide ((0 : Int) < (L : Int)) = true := by simp; omega
          have hb2 : decide ((64 : Int) < (L : Int)) = false := by simp; omega
          have hb1n : decide (0 < L) = true := decide_eq_true (by omega)
          have hb2n : decide (64 < L) = false := decide_eq_false (by omega)
          have hc1 : (64 : Int) ≤ (c : Int) := by omega
          have hgA : g ≠ w.heap.size := by omega
          have HCM : Hid (c ≤ 9223372036854775807) := Lib.hid (by unfold maxLen at hcm; exact hcm)
          have HLC := Lib.hid hLc
          have HL64 := Lib.hid hL64
          clear hS hj hj8' hL hLc hcm hL64 HO HX hj8
          go_wp2_with fail
          go_loopw [7] (fun q wr => ((q = .int .i64 0 ∧ Hid (RAt wr w.heap.size 65 ss) ∧ g < wr.heap.size ∧ Hid (∀ k, k < 64 → wr.cell? ⟨g, 0 + k, none⟩ = some (.int .u8 ((ePad 63).getD k 0)))) ∨ (q = .int .i64 64 ∧ Hid (RAt wr w.heap.size 65 OUT))) ∧ Hid (Below w.heap.size w wr)) (fun q _ => 64 - (intOf q).toNat)
          case atStart => exact ⟨.inl ⟨rfl, hSA, hgs, HBI⟩, HBW⟩
          clear hSA HBI HBW hgs
          case round =>
            obtain ⟨hq, HBW⟩ := hrel
            rcases hq with ⟨rfl, HSA, hgs, HBI⟩ | ⟨rfl, HSA⟩
            · have HC := Lib.hid (spec_block g 0 64 c (ePad 63) eIni wr.drew (Nat.le_refl _) (by have := HLC.out; have := HL64.out; omega) HCM.out (by simpa using hgs) HBI.out eIni_ok)
              have hw64 : IntKind.i64.wrap 64 = 64 := ewr (by omega) (by omega)
              rw [← HSS.out, ← HOUT.out] at HC
              go_wp2_with fail
              refine wp_region_still_tail 6 (by kernel_rfl) (by kernel_rfl) ?_
              simp only [List.take_succ_cons, List.take_zero, List.drop_succ_cons, List.drop_zero]
              change wpStill _ _ wr.drew (fun a' => wpList _ _ _ _ a' wr.drew) _ _
              have HSz : Hid (RAt wr.drew w.heap.size 65 ss) := HSA
              have HBz : Hid (Below w.heap.size w wr.drew) := Lib.hid HBW.out.drew
              have HIz : Hid (∀ k, k < 64 → wr.drew.cell? ⟨g, 0 + k, none⟩ = some (.int .u8 ((ePad 63).getD k 0))) := HBI
              have hgz : g < wr.drew.heap.size := by simpa using hgs
              clear HSA HBW HBI hgs
              generalize wr.drew = wz at *
              refine wpStill_load_mid rfl 65 (.tmp 3) rfl w.heap.size 0 rfl (ss.map (Value.int .u32)) _ HSz.out.range Tryd.underlying65 rfl (by rw [einfo8]; simp [HSL.out]) ?_
              still_step
              still_step
              still_step
              still_step
              still_step
              refine wpStill_nil ?_
              go_wp2_with fail
              refine HC.out.mono ?_
              rintro e w4 ⟨rfl, hb4⟩
              have HS4 : Hid (RAt w4 w.heap.size 65 ss) := Lib.hid (HSz.out.bel hb4)
              have HB4 : Hid (Below w.heap.size w w4) := Lib.hid (HBz.out.trans (hb4.mono HBz.out.size))
              have HG4 := Lib.hid hb4
              clear hb4
              go_wp2_with (first
                | (refine wpList_storeR rfl 65 (.tmp 3) (.tmp 51) rfl w.heap.size OUT rfl rfl 65 ss HS4.out 8 einfo8 HOL.out HSL.out ?_; intro w5 HS5 HK5 HL5 HSZ5))
              exact ⟨⟨.inr ⟨rfl, HS5⟩, Lib.hid (HL5.out _ _ (Nat.le_refl _) HB4.out)⟩, by decide⟩
            · clear hb1 hb1n
              have hu0 : Hid (EO (wr.alloc (Obj.cells #[] 5)) wr.heap.size (.slice (some ⟨wr.heap.size, 0, none⟩) 0 0) 0 []) := Lib.hid (eown_none wr wr.heap.size (Nat.le_refl _))
              have hx0 : Hid (Below wr.heap.size wr (wr.alloc (Obj.cells #[] 5))) := Lib.hid ((Below.refl _ _).alloc (Nat.le_refl _) _)
              obtain ⟨wb, hwb⟩ : ∃ wb, wb = wr := ⟨_, rfl⟩
              subst hwb
              go_wp2_with (refine wpList_loadR rfl 65 (.tmp 3) rfl w.heap.size rfl 65 OUT (HSA.out.alloc _) _ _ Tryd.underlying65 8 einfo8 HOL.out ?_)
              go_loopw [8, 54] (fun v q wr => ∃ i : Nat, q = .int .i64 i ∧ i ≤ 8 ∧ (∃ g c, v = .slice (some ⟨g, 0, none⟩) (4 * i) c) ∧ Hid (EO wr wb.heap.size v (4 * i) (eOut (OUT.take i))) ∧ Hid (Below wb.heap.size wb wr)) (fun _ q _ => 8 - (intOf q).toNat)
              case atStart => exact ⟨0, rfl, by omega, ⟨wb.heap.size, 0, rfl⟩, hu0, hx0⟩
              clear hu0 hx0
              case round =>
                obtain ⟨i, rfl, hi, ⟨g, c, rfl⟩, HO, HX⟩ := hrel
                by_cases hi8 : i < 8
                · have hlI : decide ((i : Int) < 8) = true := by simp; omega
                  have li : (i : Int) < 8 := by omega
                  have hix := eindex OUT i HOL.out hi8
                  have HTK : Hid (eOut (OUT.take (i + 1)) = eOut (OUT.take i) ++ [OUT.getD i 0 / 16777216 % 256, OUT.getD i 0 / 65536 % 256, OUT.getD i 0 / 256 % 256, OUT.getD i 0 % 256]) := Lib.hid (by
                    have h1 : i < OUT.length := by rw [HOL.out]; exact hi8
                    rw [List.take_succ_eq_append_getElem h1, eOut_append]
                    simp [eOut, List.getD, h1])
                  generalize OUT.getD i 0 = x at *
                  go_wp2_with (first
                    | (at_builtin; refine wpList_appendB wr rfl (.tmp 57) (.tmp 69) rfl wb _ (4 * i) 4 4 (eOut (OUT.take i)) [x / 16777216 % 256, x / 65536 % 256, x / 256 % 256, x % 256] rfl HO.out HX.out _ rfl (by simp) rfl (by omega) ?_; intro v4 w4 HO4 HX4))
                  obtain ⟨g4, c4, rfl, _⟩ := eslice HO4.out (by omega)
                  refine ⟨⟨i + 1, by go_num, by omega, ⟨g4, c4, rfl⟩, ?_, HX4⟩, by simp [intOf]; omega⟩
                  have h := HO4.out
                  rw [← HTK.out] at h
                  exact Lib.hid h
                · have hi8' : i = 8 := by omega
                  have hlI : decide ((i : Int) < 8) = false := by simp; omega
                  have HFIN : Hid (EO wr w.heap.size (.slice (some ⟨g, 0, none⟩) (4 * i) c) 32 (eOut OUT)) := Lib.hid (by
                    have h := HO.out
                    rw [List.take_of_length_le (by rw [HOL.out]; omega)] at h
                    have h32 : 4 * i = 32 := by omega
                    have h2 := owns_mono h HBW.out.size
                    rw [h32] at h2 ⊢
                    exact h2)
                  have HBF : Hid (Below w.heap.size w wr) := Lib.hid (HBW.out.trans (HX.out.mono HBW.out.size))
                  clear HO HX hi8 hi8' hi
                  obtain ⟨I9, hI9⟩ : ∃ I9 : Int, I9 = (i : Int) := ⟨_, rfl⟩
                  obtain ⟨L9, hL9⟩ : ∃ L9, L9 = 4 * i := ⟨_, rfl⟩
                  rw [← hL9] at HFIN ⊢
                  rw [← hI9] at hlI ⊢
                  clear hI9 hL9
                  go_wp2_with fail
                  go_ret
                  exact ⟨⟨_, rfl, HFIN.out⟩, HBF.out⟩

end Go.Proofs.YtlmcoaidngnomaaDoor
