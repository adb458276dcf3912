/- tlog.StoredHashes, impl.Stored, impl.StoredFor, impl.Store: the hashes that are stored with records. Conditions: the lists of bytes lie in memory; the variable errMissing holds an error; bits.deBruijn64tab holds its table; Store: at most 2 to the power of 20 records, each of fewer than 2 to the power of 50 bytes. -/
import Derived.Test.YtokopcbmpnnkcaaDoorT16
namespace Go.Proofs.YtokopcbmpnnkcaaDoor
open Go.RowKit
set_option linter.unusedVariables false

/-- the hash of a record -/
def rH (ks p : List Int) : List Int := sha ks (0 :: p)
theorem rH_len (ks p : List Int) : (rH ks p).length = 32 := sha_len _ _
set_option maxHeartbeats 2000000 in
set_option maxRecDepth 50000 in
theorem storedHashes_any (ks : List Int) (ls : List (List Int)) (g n : Nat) (p : List Int) (v : Value) (E0t : TypeId) (E0a : Addr) (w : World) (hn : n < 2199023255552) (hv : BIn w v p) (hp : p.length < 1125899906842624) (hs : Rdr w g ls (.iface E0t (.pointer (some E0a)))) (hK : WAt w 4 ks) (hT : Tab w) :
    Calls Tryd.prog 48 #[.int .i64 n, v, RV g] w fun e w' => PfOut (stH ks ls n (rH ks p)) w.heap.size e w' ∧ Below w.heap.size w w' := by
  have hk0 : 4 < w.heap.size := (Array.getElem?_eq_some_iff.1 hK.2.2).1
  have HR := Lib.hid (recordHash_any ks p v w hK hv hp)
  have HS := Lib.hid (fun w' (hb : Below w.heap.size w w') => storedHashesFor_any ks ls g n (rH ks p) E0t E0a w' hn (rH_len _ _) (hs.below hb) (hK.below hb hk0) (hT.below hb))
  rw [show (sha ks (0 :: p)).map (Value.int .u8) = hcs (rH ks p) from rfl] at HR
  clear hs hK hT hv
  generalize rH ks p = x at *
  generalize stH ks ls n x = r at *
  cases r with
  | none =>
    go_enter Tryd.func48, Tryd.ntmps48
    go_wp2_with fail
    refine HR.out.mono ?_
    rintro e w1 ⟨rfl, hb1⟩
    have HB1 := Lib.hid hb1
    clear hb1
    go_wp2_with fail
    refine (HS.out w1 HB1.out).mono ?_
    rintro e w2 ⟨⟨T', a', rfl⟩, hb2⟩
    have HB2 : Hid (Below w.heap.size w w2) := Lib.hid (bl_step HB1.out hb2 (Nat.le_refl _))
    clear hb2
    go_wp2_with fail
    go_ret2
    exact ⟨⟨_, _, rfl⟩, HB2.out⟩
  | some ps =>
    go_enter Tryd.func48, Tryd.ntmps48
    go_wp2_with fail
    refine HR.out.mono ?_
    rintro e w1 ⟨rfl, hb1⟩
    have HB1 := Lib.hid hb1
    clear hb1
    go_wp2_with fail
    refine (HS.out w1 HB1.out).mono ?_
    rintro e w2 ⟨⟨v2, rfl, ho2⟩, hb2⟩
    have HB2 : Hid (Below w.heap.size w w2) := Lib.hid (bl_step HB1.out hb2 (Nat.le_refl _))
    have HO2 := Lib.hid (ho2.mono HB1.out.size)
    clear hb2 ho2
    go_wp2_with fail
    go_ret2
    exact ⟨⟨_, rfl, HO2.out⟩, HB2.out⟩
set_option maxHeartbeats 4000000 in
set_option maxRecDepth 50000 in
theorem implStored_any (ks : List Int) (ls : List (List Int)) (p : List Int) (n : Int) (N : Nat) (v v2 : Value) (E0t : TypeId) (E0a : Addr) (w : World) (hN : n % 1099511627776 = (N : Int)) (hd : BIn w v p) (hp : p.length < 1125899906842624) (hv : RowsIn w v2 ls) (hK : WAt w 4 ks) (hT : Tab w)
    (hE : w.cell? ⟨0, 0, none⟩ = some (.iface E0t (.pointer (some E0a)))) (hE0 : 0 < w.heap.size) :
    Calls Tryd.prog 34 #[.int .i64 n, v, v2] w fun e w' => (∃ v', e = .returned (.tuple #[v', .bool (stH ks ls N (rH ks p)).isSome]) ∧ RB w' w.heap.size v' (stH ks ls N (rH ks p))) ∧ Below w.heap.size w w' := by
  have hN1 : N < 1099511627776 := by have := Int.emod_lt_of_pos n (b := 1099511627776) (by omega); omega
  have hk0 : 4 < w.heap.size := (Array.getElem?_eq_some_iff.1 hK.2.2).1
  have HS := Lib.hid (implSize_any n w)
  rw [hN] at HS
  have HR := Lib.hid (reader_any ls v2 _ w hv hE hE0)
  have HT := Lib.hid (fun w' hs (hb : Below w.heap.size w w') => storedHashes_any ks ls w.heap.size N p v E0t E0a w' (by omega) (hd.below hb) hp hs (hK.below hb hk0) (hT.below hb))
  have hlen : ∀ ps, stH ks ls N (rH ks p) = some ps → ps.length ≤ 1000 := fun ps h => by
    rw [stH_len h]
    have := Idx.ones_le_log (n := N) (k := 41) (by omega)
    omega
  clear hK hN hd hT
  generalize stH ks ls N (rH ks p) = r at *
  cases hr : r with
  | none =>
    subst hr
    clear hv hE
    go_enter Tryd.func34, Tryd.ntmps34
    go_wp2_with fail
    refine HS.out.mono ?_
    rintro e w' ⟨rfl, rfl⟩
    go_wp2_with fail
    refine HR.out.mono ?_
    rintro e w1 ⟨rfl, hr1, hb1⟩
    have HR1 := Lib.hid hr1
    have HB1 := Lib.hid hb1
    clear hr1 hb1
    go_wp2_with fail
    refine (HT.out w1 HR1.out HB1.out).mono ?_
    rintro e w2 ⟨⟨T', a', rfl⟩, hb2⟩
    have HB2 : Hid (Below w.heap.size w w2) := Lib.hid (bl_step HB1.out hb2 (Nat.le_refl _))
    clear hb2
    go_wp2_with fail
    go_ret2
    exact ⟨⟨_, rfl, _, rfl⟩, HB2.out.alloc HB2.out.size _⟩
  | some ps =>
    subst hr
    have HPL := Lib.hid (hlen ps rfl)
    have HF := Lib.hid (fun v w' (h : HIn w' v ps) => fromHashes_any ps v w' h HPL.out)
    clear hv hE
    go_enter Tryd.func34, Tryd.ntmps34
    go_wp2_with fail
    refine HS.out.mono ?_
    rintro e w' ⟨rfl, rfl⟩
    go_wp2_with fail
    refine HR.out.mono ?_
    rintro e w1 ⟨rfl, hr1, hb1⟩
    have HR1 := Lib.hid hr1
    have HB1 := Lib.hid hb1
    clear hr1 hb1
    go_wp2_with fail
    refine (HT.out w1 HR1.out HB1.out).mono ?_
    rintro e w2 ⟨⟨v2, rfl, ho2⟩, hb2⟩
    have HB2 : Hid (Below w.heap.size w w2) := Lib.hid (bl_step HB1.out hb2 (Nat.le_refl _))
    have HO2 := Lib.hid ho2.in_
    clear hb2 ho2
    go_wp2_with fail
    refine (HF.out v2 w2 HO2.out).mono ?_
    rintro e w3 ⟨⟨v3, us, rfl, ho3, hf3⟩, hb3⟩
    have HF3 := Lib.hid (hf3.mono HB2.out.size)
    have HO3 := Lib.hid (ho3.mono HB2.out.size)
    have HB3 : Hid (Below w.heap.size w w3) := Lib.hid (bl_step HB2.out hb3 (Nat.le_refl _))
    clear hb3 ho3 hf3
    go_wp2_with fail
    go_ret2
    exact ⟨⟨_, rfl, us, HO3.out, HF3.out⟩, HB3.out⟩

/-- the hashes of records -/
def recF (ks : List Int) (rs : List (List Int)) (i : Nat) : List Int := rH ks (rs.getD i [])
theorem recF_len (ks : List Int) (rs : List (List Int)) (i : Nat) : (recF ks rs i).length = 32 := rH_len _ _
/-- what is stored for records -/
def stored (ks : List Int) (rs : List (List Int)) : List (List Int) := Tr.St (nhK ks) (recF ks rs) rs.length
theorem stH_St (ks : List Int) {f : Nat → List Int} (hf : ∀ n, (f n).length = 32) (k : Nat) : stH ks (Tr.St (nhK ks) f k) k (f k) = some (Tr.chain (nhK ks) (f k) ((Tr.beside k).map (Tr.Rc (nhK ks) f))) := by
  have hx : besideX k = ixs (Tr.beside k).reverse := by unfold besideX ixs; rw [List.map_reverse]
  unfold stH
  rw [hx, rd_St hf (fun c hc => beside_in (by simpa using hc))]
  simp
theorem St_step {ks : List Int} {f : Nat → List Int} (k : Nat) : Tr.St (nhK ks) f (k + 1) = Tr.St (nhK ks) f k ++ Tr.chain (nhK ks) (f k) ((Tr.beside k).map (Tr.Rc (nhK ks) f)) := rfl
set_option maxHeartbeats 4000000 in
set_option maxRecDepth 50000 in
theorem implStore_any (ks : List Int) (rs : List (List Int)) (v : Value) (E0t : TypeId) (E0a : Addr) (w : World) (hv : RowsIn w v rs) (hr : rs.length ≤ 1048576) (hp : ∀ p ∈ rs, p.length < 1125899906842624) (hK : WAt w 4 ks) (hT : Tab w)
    (hE : w.cell? ⟨0, 0, none⟩ = some (.iface E0t (.pointer (some E0a)))) (hE0 : 0 < w.heap.size) :
    Calls Tryd.prog 20 #[v] w fun e w' => (∃ v' us, e = .returned v' ∧ BRow w' w.heap.size v' us (stored ks rs) ∧ Fresh w.heap.size us) ∧ Below w.heap.size w w' := by
  have hk0 : 4 < w.heap.size := (Array.getElem?_eq_some_iff.1 hK.2.2).1
  obtain ⟨A, c, rfl, hc1, hc2, hc3⟩ := hv
  have HC3 := Lib.hid hc3
  have HS := Lib.hid (fun (k : Nat) (p : List Int) u s w' (hb : Below w.heap.size w w') (hk : k ≤ 1048576) hd hpl hs => implStored_any ks (Tr.St (nhK ks) (recF ks rs) k) p (k : Int) k u s E0t E0a w' (Int.emod_eq_of_lt (by omega) (by omega)) hd hpl hs (hK.below hb hk0) (hT.below hb) ((hb.cell (p := ⟨0, 0, none⟩) hE0).trans hE) (Nat.lt_of_lt_of_le hE0 hb.size))
  have HP := Lib.hid hp
  clear hK hT hE hc3 hp
  go_enter Tryd.func20, Tryd.ntmps20
  go_wp2
  go_loopw [11, 3] (fun i o wr => ∃ (k : Nat) (us : List Value), i = .int .i64 k ∧ k ≤ rs.length ∧ Hid (BRow wr w.heap.size o us (Tr.St (nhK ks) (recF ks rs) k)) ∧ Hid (Fresh w.heap.size us) ∧ Hid (Below w.heap.size w wr)) (fun i _ _ => rs.length - (intOf i).toNat)
  case atStart => exact ⟨0, [], rfl, Nat.zero_le _, Lib.hid (BRow.new_ w), Lib.hid (fun u hu => by simp at hu), Lib.hid ((Below.refl _ _).alloc (Nat.le_refl _) _)⟩
  case round =>
    obtain ⟨k, us, rfl, hk, hO, hF, hB⟩ := hrel
    by_cases hlt : k < rs.length
    · obtain ⟨b, off, rfl, hblt, hcell⟩ := HC3.out.resolve_left (by omega)
      obtain ⟨u, hu, hui⟩ := hcell k rs[k] (List.getElem?_eq_getElem hlt)
      have cu : wr.cell? ⟨b, off + k, none⟩ = some u := (hB.out.cell (p := ⟨b, off + k, none⟩) hblt).trans hu
      have hfk : recF ks rs k = rH ks rs[k] := by unfold recF; simp [List.getD, hlt]
      have HSK := Lib.hid (fun s hs => HS.out k rs[k] u s wr hB.out (by omega) (hui.below hB.out) (HP.out _ (List.getElem_mem hlt)) hs)
      rw [← hfk, stH_St ks (recF_len ks rs) k] at HSK
      have HST := Lib.hid (St_step (ks := ks) (f := recF ks rs) k)
      have HLN : Hid ((Tr.St (nhK ks) (recF ks rs) k).length ≤ 2097152) := Lib.hid (by rw [Tr.St_len]; have := Idx.wh_le k; omega)
      have HLC : Hid ((Tr.chain (nhK ks) (recF ks rs k) ((Tr.beside k).map (Tr.Rc (nhK ks) (recF ks rs)))).length ≤ 100) := Lib.hid (by
        rw [Tr.chain_len, List.length_map, Tr.beside_len]
        have := Idx.ones_le_log (n := k) (k := 41) (by omega)
        omega)
      have HOI := Lib.hid hO.out.in_
      generalize Tr.chain (nhK ks) (recF ks rs k) ((Tr.beside k).map (Tr.Rc (nhK ks) (recF ks rs))) = ch at *
      generalize Tr.St (nhK ks) (recF ks rs) k = st at *
      clear hcell hu hui hfk
      go_wp2_with fail
      refine (HSK.out _ HOI.out).mono ?_
      rintro e w1 ⟨⟨v1, rfl, us1, ho1, hf1⟩, hb1⟩
      have HO1 := Lib.hid ho1
      have HF1 := Lib.hid hf1
      have HB1 := Lib.hid hb1
      obtain ⟨A1, c1, rfl⟩ := HO1.out.in_.form
      clear ho1 hf1 hb1
      have HO0 : Hid (BRow w1 w.heap.size u3 us st) := Lib.hid (hO.out.below HB1.out)
      have HSB : Hid (w.heap.size ≤ wr.heap.size) := Lib.hid hB.out.size
      go_wp2_with (at_builtin; (refine app_rows rfl (.tmp 23) (.tmp 24) rfl w.heap.size u3 us st rfl HO0.out _ us1 ch rfl HO1.out.at_ (fun g hg u hu => HF1.out u hu g (hO.out.1.lt g hg).2) (by have := HLN.out; have := HLC.out; omega) (by have := HB1.out.size; have := HSB.out; omega) ?_); intro v2 w2 hown2 hgrow2; have HO2 := Lib.hid hown2; have HG2 := Lib.hid hgrow2; clear hown2 hgrow2)
      go_roundw
      case rel =>
        refine ⟨k + 1, us ++ us1, by go_num, by omega, Lib.hid (by rw [HST.out]; exact HO2.out), Lib.hid (hF.out.app (HF1.out.mono HSB.out)), Lib.hid ?_⟩
        have hbw : Below w.heap.size w w1 := hB.out.trans (HB1.out.mono HSB.out)
        exact hbw.grown HG2.out hbw.size (fun j hj => (HO0.out.1.lt j hj).1)
      case measure => simp [intOf]; omega
    · obtain rfl : k = rs.length := by omega
      go_wp2
      go_ret
      exact ⟨⟨_, us, rfl, hO.out, hF.out⟩, hB.out⟩

end Go.Proofs.YtokopcbmpnnkcaaDoor
