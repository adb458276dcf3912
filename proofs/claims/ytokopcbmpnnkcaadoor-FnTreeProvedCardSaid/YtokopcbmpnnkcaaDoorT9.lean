/- impl.TreeHash: the hash of a tree out of stored hashes, or that one is missing. Conditions: at least one record; the stored hashes lie in memory; the variable errMissing holds an error. -/
import Derived.Test.YtokopcbmpnnkcaaDoorT8
namespace Go.Proofs.YtokopcbmpnnkcaaDoor
open Go.RowKit
set_option linter.unusedVariables false

/-- the bytes of a hash in memory of their own, or none -/
def HB (w : World) (base : Nat) (v : Value) : Option (List Int) → Prop
  | some x => ∃ g c, v = .slice (some ⟨g, 0, none⟩) 32 c ∧ x.length = 32 ∧ w.ownsRow base 5 1 v 32 (x.map (Value.int .u8))
  | none => v = .slice (some ⟨base, 0, none⟩) 0 0 ∨ ∃ A, v = .slice A 0 0
theorem HB.below {w w' : World} {base : Nat} {v : Value} {r : Option (List Int)} (h : HB w base v r) (hb : Below w.heap.size w w') : HB w' base v r := by
  cases r with
  | none => exact h
  | some x =>
    obtain ⟨g, c, e, h1, h2⟩ := h
    exact ⟨g, c, e, h1, owns_below h2 hb⟩
theorem HB.in_ {w : World} {base : Nat} {v : Value} {r : Option (List Int)} (h : HB w base v r) : BIn w v (r.getD []) := by
  cases r with
  | none =>
    obtain ⟨A, rfl⟩ : ∃ A, v = .slice A 0 0 := by rcases h with h | h; exact ⟨_, h⟩; exact h
    exact ⟨A, 0, rfl, Nat.le_refl _, by omega, .inl rfl⟩
  | some x =>
    obtain ⟨g, c, rfl, h1, h2⟩ := h
    exact row_in h2
theorem HB.off {w : World} {base : Nat} {v : Value} {r : Option (List Int)} (h : HB w base v r) {d : Nat} (hd : d < base) : BOff v d := by
  cases r with
  | none =>
    obtain ⟨A, rfl⟩ : ∃ A, v = .slice A 0 0 := by rcases h with h | h; exact ⟨_, h⟩; exact h
    rintro b off n cap e hc
    cases e
    omega
  | some x =>
    obtain ⟨g, c, rfl, h1, h2⟩ := h
    exact own_off h2 hd
set_option maxHeartbeats 4000000 in
set_option maxRecDepth 50000 in
theorem implTreeHash_any (ks : List Int) (ls : List (List Int)) (n : Int) (N : Nat) (v : Value) (E0t : TypeId) (E0a : Addr) (w : World) (hN : n % 1099511627776 = (N : Int)) (hN0 : N ≠ 0) (hv : RowsIn w v ls) (hK : WAt w 4 ks)
    (hE : w.cell? ⟨0, 0, none⟩ = some (.iface E0t (.pointer (some E0a)))) (hE0 : 0 < w.heap.size) :
    Calls Tryd.prog 22 #[.int .i64 n, v] w fun e w' => (∃ v', e = .returned (.tuple #[v', .bool (treeH ks ls N).isSome]) ∧ HB w' w.heap.size v' (treeH ks ls N)) ∧ Below w.heap.size w w' := by
  have hN1 : N < 1099511627776 := by have := Int.emod_lt_of_pos n (b := 1099511627776) (by omega); omega
  have hk0 : 4 < w.heap.size := (Array.getElem?_eq_some_iff.1 hK.2.2).1
  have HS := Lib.hid (implSize_any n w)
  rw [hN] at HS
  have HR := Lib.hid (reader_any ls v _ w hv hE hE0)
  have HT := Lib.hid (fun w' hs hk => treeHash_any ks ls w.heap.size N E0t E0a w' hN0 (by omega) hs hk)
  have HLN := Lib.hid (fun x (h : treeH ks ls N = some x) => treeH_len hN0 h)
  have HK := Lib.hid hK
  have hz := zh_zero
  rw [show ((List.replicate 32 (0 : Int)).map (Value.int .u8)).toArray = (hcs z32).toArray from rfl] at hz
  obtain ⟨zs, hzs⟩ : ∃ zs, zs = z32 := ⟨_, rfl⟩
  rw [← hzs] at hz
  have HZL : Hid (zs.length = 32) := Lib.hid (by rw [hzs]; rfl)
  cases hr : treeH ks ls N with
  | none =>
    rw [hr] at HT
    simp only [recOut] at HT
    rw [← hzs] at HT
    clear hv hK hE hr hzs hN
    go_enter Tryd.func22, Tryd.ntmps22
    go_wp2_with fail
    refine HS.out.mono ?_
    rintro e w' ⟨rfl, rfl⟩
    go_wp2_with fail
    refine HR.out.mono ?_
    rintro e w1 ⟨rfl, hr1, hb1⟩
    have HR1 := Lib.hid hr1
    have HB1 := Lib.hid hb1
    clear hr1 hb1
    go_wp2_with fail
    refine (HT.out w1 HR1.out (HK.out.below HB1.out hk0)).mono ?_
    rintro e w2 ⟨rfl, hb2⟩
    have HB2 : Hid (Below w.heap.size w w2) := Lib.hid (bl_step HB1.out hb2 (Nat.le_refl _))
    have HG2 : Hid (BAt (w2.alloc (Obj.cells (hcs zs).toArray 54)) w2.heap.size 54 zs) := Lib.hid (heap_alloc_new w2 _)
    clear hb2
    go_wp2_with (refine wpList_storeH rfl (.tmp 6) (.tmp 14) rfl w2.heap.size zs rfl rfl 54 zs HG2.out HZL.out HZL.out ?_; intro w3 HR3 HX3)
    go_ret2
    have hb3 : Below w.heap.size w w3 := below_but (HB2.out.alloc HB2.out.size _) HX3.out HB2.out.size
    exact ⟨⟨_, rfl, .inr ⟨_, rfl⟩⟩, hb3.alloc hb3.size _⟩
  | some x =>
    rw [hr] at HT
    simp only [recOut] at HT
    have HXL : Hid (x.length = 32) := Lib.hid (HLN.out x hr)
    have HXI := Lib.hid (info_hcs HXL.out)
    have HBT := Lib.hid (fun w' => bytesOf_any x w' HXL.out)
    rw [show (x.map (Value.int .u8)) = hcs x from rfl] at HBT
    clear hv hK hE hr hzs hN
    go_enter Tryd.func22, Tryd.ntmps22
    go_wp2_with fail
    refine HS.out.mono ?_
    rintro e w' ⟨rfl, rfl⟩
    go_wp2_with fail
    refine HR.out.mono ?_
    rintro e w1 ⟨rfl, hr1, hb1⟩
    have HR1 := Lib.hid hr1
    have HB1 := Lib.hid hb1
    clear hr1 hb1
    go_wp2_with fail
    refine (HT.out w1 HR1.out (HK.out.below HB1.out hk0)).mono ?_
    rintro e w2 ⟨rfl, hb2⟩
    have HB2 : Hid (Below w.heap.size w w2) := Lib.hid (bl_step HB1.out hb2 (Nat.le_refl _))
    have HG2 : Hid (BAt (w2.alloc (Obj.cells (hcs zs).toArray 54)) w2.heap.size 54 zs) := Lib.hid (heap_alloc_new w2 _)
    clear hb2
    go_wp2_with (first
      | (refine wpList_storeH rfl (.tmp 6) (.tmp 14) rfl w2.heap.size x rfl rfl 54 zs HG2.out HZL.out HXL.out ?_; intro w3 HR3 HX3)
      | (refine wpList_load_mid rfl 54 (.tmp 6) rfl w2.heap.size 0 rfl (hcs x) _ (b_range HR3.out) Tryd.underlying54 rfl HXI.out ?_)
      | (go_at_call 37; (with_reducible refine (HBT.out w3).mono ?_); rintro e w4 ⟨⟨g4, c4, rfl, ho4⟩, hb4⟩; have HO4 := Lib.hid ho4; have HB4 := Lib.hid hb4; clear ho4 hb4))
    go_ret2
    have hb3 : Below w.heap.size w w3 := below_but (HB2.out.alloc HB2.out.size _) HX3.out HB2.out.size
    exact ⟨⟨_, rfl, g4, c4, rfl, HXL.out, owns_mono HO4.out (by have := hb3.size; omega)⟩, bl_step hb3 HB4.out (Nat.le_refl _)⟩

end Go.Proofs.YtokopcbmpnnkcaaDoor
