/- Rows of lists of bytes of one's own: what an append leaves of them. No condition. -/
import Derived.Test.YtokopcbmpnnkcaaDoorT5
import Derived.Maps.AppendAt
import Derived.Test.YtokopcbmpnnkcaaDoorBwt
namespace Go.Proofs.YtokopcbmpnnkcaaDoor
open Go.RowKit
set_option linter.unusedVariables false

/-- a row of lists of bytes of one's own; no list lies in the row's own block -/
def BRow (w : World) (base : Nat) (v : Value) (us : List Value) (ls : List (List Int)) : Prop :=
  w.ownsRow base 23 1 v ls.length us ∧ ∀ (j : Nat) u l, us[j]? = some u → ls[j]? = some l → BIn w u l ∧ ∀ g, v.ownBlock = some g → BOff u g
theorem BRow.len {w : World} {base : Nat} {v : Value} {us : List Value} {ls : List (List Int)} (h : BRow w base v us ls) : us.length = ls.length := by simpa using h.1.1
theorem BRow.in_ {w : World} {base : Nat} {v : Value} {us : List Value} {ls : List (List Int)} (h : BRow w base v us ls) : RowsIn w v ls := by
  have hl := h.len
  have ho := h.1
  rcases h.1.2 with ⟨rfl, h0⟩ | ⟨g, cap, cur, rfl, hb, hh, hnc, hm, hcs', htk⟩
  · exact ⟨none, 0, by rw [h0], by omega, by omega, .inl rfl⟩
  · refine ⟨_, cap, rfl, hnc, by simpa [maxLen] using hm, .inr ⟨g, 0, rfl, (ho.lt g rfl).2, fun j l hj => ?_⟩⟩
    have hj' : j < us.length := by have := (List.getElem?_eq_some_iff.1 hj).1; omega
    refine ⟨us[j], ?_, (h.2 j us[j] l (List.getElem?_eq_getElem hj') hj).1⟩
    rw [Nat.zero_add, ho.cellAt j (by omega)]
    exact List.getElem?_eq_getElem hj'
theorem BRow.below {w w' : World} {base : Nat} {v : Value} {us : List Value} {ls : List (List Int)} (h : BRow w base v us ls) (hb : Below w.heap.size w w') : BRow w' base v us ls :=
  ⟨owns_below h.1 hb, fun j u l hu hl => ⟨(h.2 j u l hu hl).1.below hb, (h.2 j u l hu hl).2⟩⟩
theorem BRow.mono {w : World} {base base' : Nat} {v : Value} {us : List Value} {ls : List (List Int)} (h : BRow w base v us ls) (hb : base' ≤ base) : BRow w base' v us ls := ⟨owns_mono h.1 hb, h.2⟩
theorem BRow.new_ (w : World) : BRow (w.alloc (Obj.cells #[] 23)) w.heap.size (.slice (some ⟨w.heap.size, 0, none⟩) 0 0) [] [] :=
  ⟨⟨rfl, .inr ⟨w.heap.size, 0, #[], rfl, Nat.le_refl _, heap_alloc_new w _, Nat.le_refl _, by simp [maxLen], rfl, rfl⟩⟩, fun j u l hu => by simp at hu⟩
theorem BRow.nil_ (w : World) (base : Nat) : BRow w base (.slice none 0 0) [] [] := ⟨World.ownsRow_nil _ _ _ _, fun j u l hu => by simp at hu⟩
theorem BIn.but {w w' : World} {u : Value} {l : List Int} {r : Option Nat} (h : BIn w u l) (hg : w.grownBy w' r) (ho : ∀ g, r = some g → BOff u g) : BIn w' u l := by
  obtain ⟨A, c, rfl, h1, h2, h3⟩ := h
  refine ⟨A, c, rfl, h1, h2, ?_⟩
  by_cases hc : c = 0
  · exact .inl hc
  · obtain ⟨b, off, rfl, hlt, hcell⟩ := h3.resolve_left hc
    refine .inr ⟨b, off, rfl, Nat.lt_of_lt_of_le hlt hg.size, fun j hj => ?_⟩
    rw [← hcell j hj]
    exact World.cell?_of_block (w := w) (hg.block b hlt (fun e => ho b e.symm b off _ c rfl (by omega) rfl))
/-- what an append leaves -/
theorem BRow.app {w w' : World} {base : Nat} {v v' : Value} {us us' : List Value} {ls ls' : List (List Int)} (h : BRow w base v us ls) (hown : w'.ownsRow base 23 1 v' (ls.length + ls'.length) (us ++ us')) (hg : w.grownBy w' v.ownBlock)
    (hat : v'.ownBlock = v.ownBlock ∨ v'.ownBlock = some w.heap.size) (hn : ∀ (j : Nat) u l, us'[j]? = some u → ls'[j]? = some l → BIn w u l ∧ ∀ g, v.ownBlock = some g → BOff u g) : BRow w' base v' (us ++ us') (ls ++ ls') := by
  have hl := h.len
  refine ⟨by rw [List.length_append]; exact hown, fun j u l hu hlj => ?_⟩
  have key : BIn w u l ∧ ∀ g, v.ownBlock = some g → BOff u g := by
    by_cases hj : j < us.length
    · rw [List.getElem?_append_left hj] at hu
      rw [List.getElem?_append_left (by omega)] at hlj
      exact h.2 j u l hu hlj
    · rw [List.getElem?_append_right (by omega)] at hu hlj
      rw [← hl] at hlj
      exact hn _ u l hu hlj
  refine ⟨key.1.but hg key.2, fun g hgv => ?_⟩
  rcases hat with e | e
  · exact key.2 g (e.symm.trans hgv)
  · obtain rfl : w.heap.size = g := Option.some.inj (e.symm.trans hgv)
    exact key.1.off (Nat.le_refl _)
theorem info_bytes_row : (Tryd.prog.info? 23).map (fun i => (i.zero, i.size, i.bytes)) = some (some (.slice none 0 0), 1, 24) := by kernel_rfl
theorem BRow.drew {w : World} {base : Nat} {v : Value} {us : List Value} {ls : List (List Int)} (h : BRow w base v us ls) : BRow w.drew base v us ls := h.below (Below.refl _ _).drew
theorem BRow.alloc {w : World} {base : Nat} {v : Value} {us : List Value} {ls : List (List Int)} (h : BRow w base v us ls) (o : Obj) : BRow (w.alloc o) base v us ls := h.below ((Below.refl _ _).alloc (Nat.le_refl _) _)
theorem own_in {w : World} {base g c : Nat} {p : List Int} {t : TypeId} (h : w.ownsRow base t 1 (.slice (some ⟨g, 0, none⟩) 32 c) 32 (p.map (Value.int .u8))) : BIn w (.slice (some ⟨g, 0, none⟩) 32 c) p := row_in h
theorem own_off {w : World} {base g c d : Nat} {xs : List Value} {t : TypeId} (h : w.ownsRow base t 1 (.slice (some ⟨g, 0, none⟩) 32 c) 32 xs) (hd : d < base) : BOff (.slice (some ⟨g, 0, none⟩) 32 c) d := by
  rintro b off n cap e _
  cases e
  have := (h.lt g rfl).1
  omega
/-- the lists lie in memory of one's own -/
def Fresh (base : Nat) (us : List Value) : Prop := ∀ u ∈ us, ∀ d, d < base → BOff u d
theorem Fresh.mono {base base' : Nat} {us : List Value} (h : Fresh base us) (hb : base' ≤ base) : Fresh base' us := fun u hu d hd => h u hu d (by omega)
theorem Fresh.app {base : Nat} {us vs : List Value} (h : Fresh base us) (k : Fresh base vs) : Fresh base (us ++ vs) := fun u hu d hd => (List.mem_append.1 hu).elim (fun hu => h u hu d hd) (fun hu => k u hu d hd)
set_option maxHeartbeats 4000000 in
set_option maxRecDepth 50000 in
theorem fromHashes_any (hs : List (List Int)) (v : Value) (w : World) (hv : HIn w v hs) (hl : hs.length ≤ 1000) :
    Calls Tryd.prog 28 #[v] w fun e w' => (∃ v' us, e = .returned v' ∧ BRow w' w.heap.size v' us hs ∧ Fresh w.heap.size us) ∧ Below w.heap.size w w' := by
  obtain ⟨i0, hi0, hz0, hz1, hz2⟩ := info_parts info_bytes_row
  have HI0 := Lib.hid hi0
  have HZ0 := Lib.hid hz0
  have HZ1 := Lib.hid hz1
  have HZ2 := Lib.hid hz2
  have hz := zh_zero
  rw [show ((List.replicate 32 (0 : Int)).map (Value.int .u8)).toArray = (hcs z32).toArray from rfl] at hz
  obtain ⟨zs, hzs⟩ : ∃ zs, zs = z32 := ⟨_, rfl⟩
  rw [← hzs] at hz
  have HZL : Hid (zs.length = 32) := Lib.hid (by rw [hzs]; rfl)
  obtain ⟨h32', A, c, rfl, hc1, hc2, hc3⟩ := hv
  have H32 := Lib.hid h32'
  have HC3 := Lib.hid hc3
  clear hi0 hz0 hz1 hz2 hc3 h32' hzs
  go_enter Tryd.func28, Tryd.ntmps28
  go_wp2
  go_loopw [9, 3] (fun i o wr => ∃ (k : Nat) (us : List Value), i = .int .i64 k ∧ k ≤ hs.length ∧ Hid (BRow wr w.heap.size o us (hs.take k)) ∧ Hid (Below w.heap.size w wr) ∧ Hid (Fresh w.heap.size us)) (fun i _ _ => hs.length - (intOf i).toNat)
  case atStart => exact ⟨0, [], rfl, Nat.zero_le _, Lib.hid (BRow.new_ w), Lib.hid ((Below.refl _ _).alloc (Nat.le_refl _) _), Lib.hid (fun u hu => by simp at hu)⟩
  case round =>
    obtain ⟨k, us, rfl, hk, hO, hB, hF⟩ := hrel
    by_cases hlt : k < hs.length
    · obtain ⟨b, off, rfl, hblt, hrng⟩ := HC3.out.resolve_left (by omega)
      obtain ⟨x, hx⟩ : ∃ x, hs[k]? = some x := ⟨_, List.getElem?_eq_getElem hlt⟩
      have HXL : Hid (x.length = 32) := Lib.hid (H32.out x (List.mem_of_getElem? hx))
      have HXI := Lib.hid (info_hcs HXL.out)
      have HXR : Hid (wr.rangeAt b (off + k * 32) (hcs x)) := Lib.hid (rangeAt_block (hrng k x hx) (hB.out.block b hblt))
      have HTK : Hid (hs.take (k + 1) = hs.take k ++ [x]) := Lib.hid (by rw [List.take_succ_eq_append_getElem hlt, (List.getElem?_eq_some_iff.1 hx).2])
      have HG1 : Hid (BAt (wr.alloc (Obj.cells (hcs zs).toArray 54)) wr.heap.size 54 zs) := Lib.hid (heap_alloc_new wr _)
      have HKL : Hid ((hs.take k).length = k) := Lib.hid (by simp; omega)
      have HBT := Lib.hid (fun w' => bytesOf_any x w' HXL.out)
      rw [show (x.map (Value.int .u8)) = hcs x from rfl] at HBT
      generalize hs.take k = ts at *
      clear hx hrng
      go_wp2_with (first
        | (refine wpList_load_mid rfl 54 (.tmp 11) rfl b (off + k * 32) rfl (hcs x) _ HXR.out Tryd.underlying54 rfl HXI.out ?_)
        | (refine wpList_storeH rfl (.tmp 5) (.tmp 12) rfl wr.heap.size x rfl rfl 54 zs HG1.out HZL.out HXL.out ?_; intro w2 HR2 HX2; have hsz2 : wr.heap.size + 1 ≤ w2.heap.size := by have := HX2.out.2.2.2.1; simpa using this)
        | (refine wpList_load_mid rfl 54 (.tmp 5) rfl wr.heap.size 0 rfl (hcs x) _ (b_range HR2.out) Tryd.underlying54 rfl HXI.out ?_)
        | (go_at_call 37; (with_reducible refine (HBT.out w2).mono ?_); rintro e w3 ⟨⟨g3, c3, rfl, ho3⟩, hb3⟩; have HO3 := Lib.hid ho3; have HB3 : Hid (Below wr.heap.size wr w3) := Lib.hid (bl_step (below_but ((Below.refl wr.heap.size wr).alloc (Nat.le_refl _) (Obj.cells (hcs zs).toArray 54)) HX2.out (Nat.le_refl _)) hb3 (by simp)); clear ho3 hb3)
        | (at_builtin; (refine wpList_append_own_at _ rfl (.tmp 13) (.tmp 16) 22 rfl w.heap.size 23 i0 (.slice none 0 0) 1 24 Tryd.underlying22 HI0.out HZ0.out HZ1.out HZ2.out rfl (by decide) _ ts.length us rfl ((hO.out.below HB3.out).alloc _).1 ⟨w3.heap.size, 0, none⟩ 1 1 [.slice (some ⟨g3, 0, none⟩) 32 c3] rfl rfl (one_src _ _ _) (fun u hu => by obtain rfl : u = .slice (some ⟨g3, 0, none⟩) 32 c3 := (by simpa using hu); rfl) (by rw [HKL.out]; unfold maxLen; omega) (by rw [HKL.out]; omega) (by have := hB.out.size; have := HB3.out.size; simp; omega) ?_); intro v4 w4 hown4 hgrow4 hnil4 hat4; have HO4 := Lib.hid hown4; have HG4 := Lib.hid hgrow4; have HA4 := Lib.hid hat4; clear hown4 hgrow4 hnil4 hat4))
      go_roundw
      case rel =>
        have hbw : Below w.heap.size w w3 := hB.out.trans (HB3.out.mono hB.out.size)
        refine ⟨k + 1, us ++ [.slice (some ⟨g3, 0, none⟩) 32 c3], by go_num, by omega, Lib.hid ?_, Lib.hid ?_, Lib.hid (hF.out.app (fun u hu d hd => by obtain rfl : u = .slice (some ⟨g3, 0, none⟩) 32 c3 := (by simpa using hu); exact own_off HO3.out (by have := hB.out.size; omega)))⟩
        · rw [HTK.out]
          refine BRow.app ((hO.out.below HB3.out).alloc _) HO4.out HG4.out HA4.out (fun j u l hu hl => ?_)
          match j, hu, hl with
          | 0, hu, hl =>
            obtain rfl : .slice (some ⟨g3, 0, none⟩) 32 c3 = u := by simpa using hu
            obtain rfl : x = l := by simpa using hl
            refine ⟨(own_in HO3.out).below ((Below.refl _ _).alloc (Nat.le_refl _) _), fun g hg => own_off HO3.out ?_⟩
            have := (hO.out.1.lt g hg).2
            omega
          | j + 1, hu, hl => simp at hu
        · exact (hbw.alloc hbw.size _).grown HG4.out (by have := hbw.size; simp; omega) (fun j hj => (hO.out.1.lt j hj).1)
      case measure => simp [intOf]; omega
    · obtain rfl : k = hs.length := by omega
      go_wp2
      go_ret
      exact ⟨⟨_, us, rfl, by have := hO.out; rwa [List.take_length] at this, hF.out⟩, hB.out⟩

end Go.Proofs.YtokopcbmpnnkcaaDoor
