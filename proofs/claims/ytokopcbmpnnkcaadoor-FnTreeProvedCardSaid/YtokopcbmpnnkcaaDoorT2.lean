/- Hashes in memory, and tlog.subTreeHash: the hash of a subtree out of the hashes of its whole parts. Conditions: the numbers of records are below 2 to the power of 41; the hashes lie in memory. -/
import Derived.Test.YtokopcbmpnnkcaaDoorT1
import Derived.Test.YtokopcbmpnnkcaaDoorOpenB
import Derived.Test.YtokopcbmpnnkcaaDoorTree2
import Derived.Deep.MidRow
import Derived.Deep.RegionHeld3
import Derived.StillTail
import Derived.Laws.ResultCell
namespace Go.Proofs.YtokopcbmpnnkcaaDoor
open Go.RowKit

/-- a hash as cells -/
def hcs (h : List Int) : List Value := h.map (Value.int .u8)
theorem hcs_len (h : List Int) : (hcs h).length = h.length := by simp [hcs]
/-- a slice of hashes in memory -/
def HIn (w : World) (v : Value) (hs : List (List Int)) : Prop := (∀ h ∈ hs, h.length = 32) ∧ ∃ A c, v = .slice A hs.length c ∧ hs.length ≤ c ∧ c ≤ 9223372036854775807 ∧
  (c = 0 ∨ ∃ b off, A = some ⟨b, off, none⟩ ∧ b < w.heap.size ∧ ∀ (j : Nat) h, hs[j]? = some h → w.rangeAt b (off + j * 32) (hcs h))
theorem rangeAt_block {w w' : World} {b o : Nat} {cs : List Value} (h : w.rangeAt b o cs) (hb : w'.heap[b]? = w.heap[b]?) : w'.rangeAt b o cs := fun j v hv => by
  rw [← h j v hv]
  exact World.cell?_of_block (w := w) hb
theorem HIn.below' {w w' : World} {v : Value} {hs : List (List Int)} (h : HIn w v hs) (hsz : w.heap.size ≤ w'.heap.size) (hb : ∀ b, b < w.heap.size → w'.heap[b]? = w.heap[b]?) : HIn w' v hs := by
  obtain ⟨h0, A, c, e, h1, h2, h3⟩ := h
  refine ⟨h0, A, c, e, h1, h2, ?_⟩
  rcases h3 with h3 | ⟨b, off, hA, hlt, hc⟩
  · exact .inl h3
  · exact .inr ⟨b, off, hA, Nat.lt_of_lt_of_le hlt hsz, fun j l hj => rangeAt_block (hc j l hj) (hb b hlt)⟩
theorem HIn.below {w w' : World} {v : Value} {hs : List (List Int)} (h : HIn w v hs) (hb : Below w.heap.size w w') : HIn w' v hs := h.below' hb.size hb.block
theorem HIn.nil_ (w : World) : HIn w (.slice none 0 0) [] := ⟨by simp, none, 0, rfl, Nat.le_refl _, by omega, .inl rfl⟩
theorem b_range {w : World} {g : Nat} {t : TypeId} {ys : List Int} (h : BAt w g t ys) : w.rangeAt g 0 (hcs ys) := fun j v hv => by
  unfold hcs at hv
  rw [List.getElem?_map, Option.map_eq_some_iff] at hv
  obtain ⟨x, hx, rfl⟩ := hv
  have hj : j < ys.length := (List.getElem?_eq_some_iff.1 hx).1
  rw [Nat.zero_add, h.cell hj]
  simp [List.getD, hx]
/-- the hash above two -/
def nhK (ks a b : List Int) : List Int := sha ks (1 :: (a ++ b))
theorem nhK_len (ks a b : List Int) : (nhK ks a b).length = 32 := sha_len _ _
theorem info_hash : (Tryd.prog.info? 54).map (fun i => (i.zero, i.size, i.bytes)) = some (some (.agg ((List.replicate 32 (0 : Int)).map (Value.int .u8)).toArray), 32, 32) := by kernel_rfl
theorem wpStill_load_mid {P : Program} {ops : Array Oper} {rest : List Oper} {op : Oper} {a : Act} {w : World} {Q : Act → Prop} (hgd : op.guard = none) (ty : TypeId) (x : Operand) (ho : op.op = .load ty x)
    (b o : Nat) (hx : a.eval x = .pointer (some ⟨b, o, none⟩)) (cs : List Value) (d : TypeDesc) (hc : w.rangeAt b o cs)
    (hu : P.underlying ty = some d) (hd : d.isRow = true) (hi : (P.info? ty).map (·.size) = some cs.length)
    (h : wpStill P ops w Q rest (a.put op.dst (.agg cs.toArray))) : wpStill P ops w Q (op :: rest) a :=
  wpStill_step fun K hK => by
    simp only [Region.wanted, hgd, if_true]
    unfold Oper.still execOp
    simp only [ho, hx, Instr.loadAt, Instr.sureAddr, Sem.run_bind, Sem.run_pure, Result.andThen_ok, run_loadVar_mid w b o ty cs d hc hu hd hi, Oper.stillUpon]
    exact ⟨trivial, hK _ h⟩

theorem hBD_below {g : Nat} {w w1 w2 : World} (h : But g w w1) (hb : Below w1.heap.size w1 w2) : But g w w2 :=
  ⟨hb.os.trans h.1, hb.tape.trans h.2.1, hb.output.trans h.2.2.1, Nat.le_trans h.2.2.2.1 hb.size, fun x hx hne => (hb.block x (Nat.lt_of_lt_of_le hx h.2.2.2.1)).trans (h.2.2.2.2 x hx hne)⟩
theorem setCells_but {g : Nat} {w : World} (vs : List Value) : ∀ (o : Nat) (w1 : World), But g w w1 → But g w (w1.setCells g o vs) := by
  induction vs with
  | nil => exact fun _ _ h => h
  | cons v r ih => exact fun o w1 h => ih (o + 1) _ (h.set o v)
theorem results_cell_tmp_mid {P : Program} {fn : Func} {p u : Tmp} {ty : TypeId} (h : fn.results = #[.cell p ty, .tmp u]) (tmps : Array Value) (w : World) (b o : Nat) (cs : List Value) (d : TypeDesc) (hp : tmps.getD p undef = .pointer (some ⟨b, o, none⟩))
    (hc : w.rangeAt b o cs) (hu : P.underlying ty = some d) (hd : d.isRow = true) (hi : (P.info? ty).map (·.size) = some cs.length) : (results fn tmps).run P w = .ok (.tuple #[.agg cs.toArray, tmps.getD u undef]) w := by
  rw [results_cell_tmp h, hp]
  simp [asAddr, Result.andThen, run_loadVar_mid w b o ty cs d hc hu hd hi]
theorem HIn.cut {w : World} {b off n c k : Nat} {hs : List (List Int)} (h : HIn w (.slice (some ⟨b, off, none⟩) n c) hs) (hk : k ≤ n) : HIn w (.slice (if c = k then some ⟨b, off, none⟩ else some ⟨b, off + k * 32, none⟩) (n - k) (c - k)) (hs.drop k) := by
  obtain ⟨h0, A, c', e, h1, h2, h3⟩ := h
  cases e
  refine ⟨fun x hx => h0 x (List.mem_of_mem_drop hx), _, c - k, by rw [List.length_drop], by rw [List.length_drop]; omega, by omega, ?_⟩
  by_cases hck : c = k
  · exact .inl (by omega)
  · rw [if_neg hck]
    obtain ⟨b', off', e', hlt, hr⟩ := h3.resolve_left (by omega)
    cases e'
    refine .inr ⟨b, off + k * 32, rfl, hlt, fun j x hx => ?_⟩
    rw [List.getElem?_drop] at hx
    have := hr (k + j) x hx
    rwa [Nat.add_mul, ← Nat.add_assoc] at this
set_option maxHeartbeats 8000000 in
set_option maxRecDepth 50000 in
theorem subTreeHash_any (ks : List Int) (lo hi : Nat) (v : Value) (hs : List (List Int)) (w : World) (hlt : lo < hi) (hal : Tr.Al lo (hi - lo)) (hb : hi < 2199023255552) (hv : HIn w v hs) (hlen : (Tr.parts lo (hi - lo)).length ≤ hs.length) (hK : WAt w 4 ks) :
    Calls Tryd.prog 50 #[.int .i64 lo, .int .i64 hi, v] w fun e w' => (∃ v', e = .returned (.tuple #[.agg (hcs (Tr.sub (nhK ks) lo (hi - lo) hs).1).toArray, v']) ∧ ∀ w0, HIn w0 v hs → HIn w0 v' (Tr.sub (nhK ks) lo (hi - lo) hs).2) ∧ Below w.heap.size w w' := by
  have hz := zh_zero
  generalize hG : ((List.replicate 32 (0 : Int)).map (Value.int .u8)).toArray = G at *
  have HGG := Lib.hid hG
  obtain ⟨W1, hW1⟩ : ∃ W1, W1 = w.alloc (Obj.cells G 54) := ⟨_, rfl⟩
  have HW1 := Lib.hid hW1
  have HB1 : Hid (Below w.heap.size w W1) := Lib.hid (by rw [hW1]; exact (Below.refl w.heap.size w).alloc (Nat.le_refl _) _)
  have HR1 : Hid (BAt W1 w.heap.size 54 (List.replicate 32 0)) := Lib.hid (by rw [hW1, ← HGG.out]; exact heap_alloc_new w _)
  have hs1 : W1.heap.size = w.heap.size + 1 := by rw [hW1]; simp
  have HS1 := Lib.hid hs1
  have hk0 : 4 < w.heap.size := (Array.getElem?_eq_some_iff.1 hK.2.2).1
  have HK := Lib.hid hK
  have HV := Lib.hid hv
  have HAL := Lib.hid hal
  have hpl := parts_len_le lo (hi - lo)
  obtain ⟨np, hnp⟩ : ∃ np, np = (Tr.parts lo (hi - lo)).length := ⟨_, rfl⟩
  have hnp0 : 0 < np := by rw [hnp, Tr.parts_pos _ (by omega)]; simp
  have HNP := Lib.hid hnp
  rw [← hnp] at hlen hpl
  have hdl : decide (hs.length < np) = false := by simp; omega
  have hsub : Tr.sub (nhK ks) lo (hi - lo) hs = (Tr.fold1 (nhK ks) (hs.take np), hs.drop np) := by rw [Tr.sub, ← hnp]
  have HSUB := Lib.hid hsub
  obtain ⟨h32', A, c, rfl, hc1, hc2, hc3⟩ := hv
  obtain ⟨b, off, rfl, hblt, hrng⟩ := hc3.resolve_left (by omega)
  have H32 := Lib.hid h32'
  have HRNG := Lib.hid hrng
  clear hG hW1 hs1 hK hal hnp hsub h32' hrng hc3
  go_enter Tryd.func50, Tryd.ntmps50
  go_upto_region 1 with fail
  rw [← HW1.out]
  go_wp2_with fail
  go_loop [0, 8] (fun a c => ∃ (l m : Nat), a = .int .i64 l ∧ c = .int .i64 m ∧ lo ≤ l ∧ l ≤ hi ∧ Hid (Tr.Al l (hi - l)) ∧ Hid (m + (Tr.parts l (hi - l)).length = np) ∧ m ≤ np) (fun a _ => hi - (intOf a).toNat)
  case atStart => exact ⟨lo, 0, rfl, rfl, Nat.le_refl _, by omega, HAL, Lib.hid (by rw [Nat.zero_add, HNP.out]), by omega⟩
  case round =>
    obtain ⟨l, m, rfl, rfl, h1, h2, hAl, hM, hmn⟩ := hrel
    by_cases hlt' : l < hi
    · have hne : hi - l ≠ 0 := by omega
      obtain ⟨g, hg⟩ : ∃ g, g = (hi - l).log2 := ⟨_, rfl⟩
      have hdv := hAl.out.log_dvd hne
      have hkl := Tr.log_le hne
      have hk0' := Tr.two_pos (hi - l).log2
      have hg40 := log_small hne (by omega)
      have hparts := Tr.parts_pos l hne
      have hnext := hAl.out.next hne
      have hmp := maxpow2_any (hi - l) hne (by omega)
      rw [← hg] at hdv hkl hk0' hg40 hparts hnext hmp
      have hmask := and_mask l g (by omega) (by omega) hdv
      have hm1 : m + 1 ≤ np := by have := hM.out; rw [hparts] at this; simp at this; omega
      obtain ⟨K, hK⟩ : ∃ K, K = 2 ^ g := ⟨_, rfl⟩
      rw [← hK] at hmp hkl hk0' hmask hnext hparts
      have HMP := Lib.hid hmp
      have HP := Lib.hid hparts
      have HN := Lib.hid hnext
      have hmb : (bits BinOp.and IntKind.i64 (l : Int) ((K : Int) - 1) != 0) = false := by rw [hmask]; rfl
      have hcast : ((hi : Int) - l) + 1 = ((hi - l : Nat) : Int) + 1 := by omega
      clear hg hdv hmask hmp hparts hnext hK
      go_wp2_with fail
      refine (HMP.out _).mono ?_
      rintro e w' ⟨rfl, rfl⟩
      go_wp2_with fail
      go_round
      case rel =>
        refine ⟨l + K, m + 1, by go_num, by go_num, by omega, by omega, Lib.hid ?_, Lib.hid ?_, by omega⟩
        · have := HN.out; rwa [Nat.sub_sub] at this
        · have := hM.out; rw [HP.out, Nat.sub_sub] at this; simp at this; omega
      case measure => simp [intOf]; omega
    · obtain rfl : hi = l := by omega
      obtain rfl : np = m := by have := hM.out; rw [Nat.sub_self, Tr.parts_zero] at this; simpa using this.symm
      clear hlt' hM hAl h1 h2 hmn
      go_upto_region 10 with fail
      go_step
      have hz0 : (0 : Int) ≤ (np : Int) - 1 := by omega
      have hz1 : (np : Int) - 1 < hs.length := by omega
      obtain ⟨x, hx⟩ : ∃ x, hs[np - 1]? = some x := ⟨_, List.getElem?_eq_getElem (by omega)⟩
      have HX := Lib.hid hx
      have HXL : Hid (x.length = 32) := Lib.hid (H32.out x (List.mem_of_getElem? hx))
      have HXI : Hid ((Tryd.prog.info? 54).map (·.size) = some (hcs x).length) := Lib.hid (by rw [hcs_len, HXL.out, size_hh])
      have HXR : Hid (W1.rangeAt b (off + (np - 1) * 32) (hcs x)) := Lib.hid (rangeAt_block (HRNG.out _ _ hx) (HB1.out.block b hblt))
      have HG1 : Hid (BAt (W1.alloc (Obj.cells G 54)) (w.heap.size + 1) 54 (List.replicate 32 0)) := Lib.hid (by rw [← HS1.out, ← HGG.out]; exact heap_alloc_new W1 _)
      have hsz1 : (W1.alloc (Obj.cells G 54)).heap.size = w.heap.size + 2 := by simp [HS1.out]
      have HSZ1 := Lib.hid hsz1
      have h11 : W1.heap.size = w.heap.size + 1 := HS1.out
      clear hx hsz1
      go_wp2_with (first
        | (refine wpList_load_mid rfl 54 (.tmp 48) rfl b (off + (np - 1) * 32) rfl (hcs x) _ HXR.out Tryd.underlying54 rfl HXI.out ?_)
        | (refine wpList_storeH rfl (.tmp 11) (.tmp 49) rfl (w.heap.size + 1) x rfl rfl 54 (List.replicate 32 0) HG1.out rfl HXL.out ?_; intro W2 HR2 HX2))
      have HB2 : Hid (Below w.heap.size w W2) := Lib.hid (below_but ((HB1.out.alloc HB1.out.size _)) HX2.out (by omega))
      have HZ2 : Hid (BAt W2 w.heap.size 54 (List.replicate 32 0)) := Lib.hid (((HR1.out.below ((Below.refl _ _).alloc (Nat.le_refl _) (Obj.cells G 54)) (by omega))).but HX2.out (by omega))
      have HX2s : w.heap.size + 2 ≤ W2.heap.size := by have := HX2.out.2.2.2.1; have := HSZ1.out; omega
      have HF0 : Hid (x = Tr.fold1 (nhK ks) ((hs.take np).drop (np - 1))) := Lib.hid (by
        rw [List.drop_eq_getElem_cons (by simp; omega), show np - 1 + 1 = np by omega, List.drop_eq_nil_of_le (by simp; omega)]
        have h := HX.out
        rw [List.getElem?_eq_getElem (by omega)] at h
        simp [Tr.fold1]
        exact (Option.some.inj h).symm)
      clear h11 HG1 HXR HXI
      go_loopw [12] (fun c wr => ∃ (m : Nat) (cur : List Int), c = .int .i64 ((m : Int) - 1) ∧ m ≤ np - 1 ∧ Hid (cur.length = 32) ∧ Hid (cur = Tr.fold1 (nhK ks) ((hs.take np).drop m)) ∧ Hid (BAt wr (w.heap.size + 1) 54 cur) ∧ Hid (But (w.heap.size + 1) W2 wr)) (fun c _ => (intOf c + 1).toNat)
      case atStart => exact ⟨np - 1, x, by go_num, Nat.le_refl _, HXL, HF0, HR2, Lib.hid (But.refl _ _)⟩
      case round =>
        obtain ⟨m, cur, rfl, hmn, hCL, hCF, hCR, hCB⟩ := hrel
        by_cases hm0 : 1 ≤ m
        · have hg0 : decide ((0 : Int) ≤ (m : Int) - 1) = true := by simp; omega
          have hi0 : (0 : Int) ≤ (m : Int) - 1 := by omega
          have hi1 : (m : Int) - 1 < hs.length := by omega
          have hi2 : ((m : Int) - 1).toNat = m - 1 := by omega
          obtain ⟨y, hy⟩ : ∃ y, hs[m - 1]? = some y := ⟨_, List.getElem?_eq_getElem (by omega)⟩
          have HY := Lib.hid hy
          have HYL : Hid (y.length = 32) := Lib.hid (H32.out y (List.mem_of_getElem? hy))
          have HYI : Hid ((Tryd.prog.info? 54).map (·.size) = some (hcs y).length) := Lib.hid (by rw [hcs_len, HYL.out, size_hh])
          have HCI : Hid ((Tryd.prog.info? 54).map (·.size) = some (hcs cur).length) := Lib.hid (by rw [hcs_len, hCL.out, size_hh])
          have HBr : Hid (Below w.heap.size w wr) := Lib.hid (below_but HB2.out hCB.out (by omega))
          have HYR : Hid (wr.rangeAt b (off + (m - 1) * 32) (hcs y)) := Lib.hid (rangeAt_block (HRNG.out _ _ hy) (HBr.out.block b hblt))
          have HCR : Hid (wr.rangeAt (w.heap.size + 1) 0 (hcs cur)) := Lib.hid (b_range hCR.out)
          have HN := Lib.hid (fun w' h => nodeHash_any ks y cur HYL.out hCL.out w' h)
          clear hy
          go_upto_region 14 with fail
          refine wp_region_still_tail 5 (by kernel_rfl) (by kernel_rfl) ?_
          simp only [List.take_succ_cons, List.take_zero, List.drop_succ_cons, List.drop_zero]
          change wpStill _ _ wr.drew (fun a' => wpList _ _ _ _ a' wr.drew) _ _
          obtain ⟨wd, hwd⟩ : ∃ wd, wd = wr.drew := ⟨_, rfl⟩
          have HD : Hid (Below wr.heap.size wr wd) := Lib.hid (by rw [hwd]; exact (Below.refl _ wr).drew)
          have HYD : Hid (wd.rangeAt b (off + (m - 1) * 32) (hcs y)) := Lib.hid (by rw [hwd]; simpa using HYR.out)
          have HCD : Hid (wd.rangeAt (w.heap.size + 1) 0 (hcs cur)) := Lib.hid (by rw [hwd]; simpa using HCR.out)
          have HRD : Hid (BAt wd (w.heap.size + 1) 54 cur) := Lib.hid (by rw [hwd]; exact hCR.out)
          have HBD : Hid (But (w.heap.size + 1) W2 wd) := Lib.hid (by rw [hwd]; exact hCB.out)
          rw [← hwd]
          clear hwd
          still_step
          still_step
          still_step
          refine wpStill_load_mid rfl 54 (.tmp 58) rfl b (off + (m - 1) * 32) rfl (hcs y) _ HYD.out Tryd.underlying54 rfl HYI.out ?_
          refine wpStill_load_mid rfl 54 (.tmp 11) rfl (w.heap.size + 1) 0 rfl (hcs cur) _ HCD.out Tryd.underlying54 rfl HCI.out ?_
          refine wpStill_nil ?_
          have HKD : Hid (WAt wd 4 ks) := Lib.hid ((HK.out.below HB2.out hk0).but HBD.out (by omega))
          have HNN := Lib.hid (HN.out wd HKD.out)
          obtain ⟨Z, hZ⟩ : ∃ Z, Z = sha ks (1 :: (y ++ cur)) := ⟨_, rfl⟩
          rw [← hZ] at HNN
          have HZL : Hid (Z.length = 32) := Lib.hid (by rw [hZ]; exact sha_len _ _)
          have HZF : Hid (Z = Tr.fold1 (nhK ks) ((hs.take np).drop (m - 1))) := Lib.hid (by
            have hy' := HY.out
            rw [List.getElem?_eq_getElem (by omega)] at hy'
            have hy'' := Option.some.inj hy'
            rw [List.drop_eq_getElem_cons (by simp; omega), show m - 1 + 1 = m by omega, Tr.fold1_cons _ _ (by
              intro e
              have := congrArg List.length e
              simp at this
              omega), ← hCF.out, hZ]
            simp only [List.getElem_take, hy'', nhK])
          clear hZ HN
          go_wp2_with fail
          refine HNN.out.mono ?_
          rintro e w3 ⟨rfl, hb3⟩
          have HB3 := Lib.hid hb3
          have HR3 : Hid (BAt w3 (w.heap.size + 1) 54 cur) := Lib.hid (HRD.out.below hb3 (Array.getElem?_eq_some_iff.1 HRD.out).1)
          clear hb3
          go_wp2_with (refine wpList_storeH rfl (.tmp 11) (.tmp 61) rfl (w.heap.size + 1) Z rfl rfl 54 cur HR3.out hCL.out HZL.out ?_; intro w4 HR4 HX4)
          go_roundw
          case rel =>
            refine ⟨m - 1, Z, by go_num, by omega, HZL, HZF, HR4, Lib.hid ?_⟩
            exact ((hBD_below HBD.out HB3.out).trans HX4.out)
          case measure => simp [intOf]; omega
        · obtain rfl : m = 0 := by omega
          have hg0 : decide ((0 : Int) ≤ ((0 : Nat) : Int) - 1) = false := by simp
          clear hm0 hmn
          go_upto_region 15 with fail
          have HBr : Hid (Below w.heap.size w wr) := Lib.hid (below_but HB2.out hCB.out (by omega))
          have hCR' : wr.rangeAt (w.heap.size + 1) 0 (hcs cur) := b_range hCR.out
          have hZR : BAt wr w.heap.size 54 (List.replicate 32 0) := HZ2.out.but hCB.out (by omega)
          have HCI : Hid ((Tryd.prog.info? 54).map (·.size) = some (hcs cur).length) := Lib.hid (by rw [hcs_len, hCL.out, size_hh])
          have hth : wr.there w.heap.size 0 (hcs cur).length := fun j hj => by
            rw [hcs_len, hCL.out] at hj
            rw [Nat.zero_add, hZR.cell (by simpa using hj)]
            exact ⟨rfl, hZR.frozen j⟩
          have hi3 : (0 : Int) ≤ (np : Int) := by omega
          have hi4 : (np : Int) ≤ hs.length := by omega
          have hi5 : (hs.length : Int) ≤ c := by omega
          have hu := Tryd.underlying54
          have hinf := HCI.out
          have hone : ∀ v ∈ hcs cur, v.oneCell' = true := fun v hv => by
            obtain ⟨z, _, rfl⟩ := List.mem_map.1 hv
            rfl
          have HTH := Lib.hid hth
          clear hz
          go_region_held3 (fun w' => w'.rangeAt (w.heap.size + 1) 0 (hcs cur) ∧ w'.there w.heap.size 0 (hcs cur).length) (go_keep_ranges) (fail)
          clear hu hinf hone hCR' hZR hth
          obtain ⟨A', hA'⟩ : ∃ A' : Option Addr, A' = (if c = np then some ⟨b, off, none⟩ else some ⟨b, off + np * 32, none⟩) := ⟨_, rfl⟩
          rw [← hA']
          have HA := Lib.hid hA'
          clear hA'
          go_wp2_with fail
          try simp only [Exit.inBlock, Exit.then]
          have HBF : Hid (Below w.heap.size w (wr.drew.setCells w.heap.size 0 (hcs cur))) := Lib.hid (below_but HBr.out (setCells_but (hcs cur) 0 _ (But.refl w.heap.size wr)) (Nat.le_refl _))
          refine bodyPost_ret (results_cell_tmp_mid rfl _ _ w.heap.size 0 (hcs cur) _ rfl (World.rangeAt_setCells_same _ _ _ _ (by simpa using HTH.out)) Tryd.underlying54 rfl HCI.out) rfl ?_
          rw [HSUB.out]
          refine ⟨⟨_, by rw [hCF.out, List.drop_zero], ?_⟩, HBF.out⟩
          intro w0 h0
          have hfin := HIn.cut h0 (k := np) (by omega)
          rw [← HA.out] at hfin
          exact hfin

end Go.Proofs.YtokopcbmpnnkcaaDoor
