/- SHA-256's Write of no bytes, and checkSum: the hash as a function of the table's words and of the bytes. Condition: the digest lies in one block. -/
import Derived.Test.YtokopcbmpnnkcaaDoorSha4
namespace Go.Proofs.YtokopcbmpnnkcaaDoor
open Go.RowKit

set_option maxHeartbeats 2000000 in
set_option maxRecDepth 20000 in
theorem write_none (A : Option Addr) (d : Nat) (ks msg : List Int) (L : Nat) (hL : msg.length = L) (w : World) (h : DigFor w d ks msg) (_ : L < 1152921504606846976) :
    Calls Tryd.prog 84 #[.pointer (some ⟨d, 0, none⟩), .slice A 0 0] w fun e w' => e = .returned (.tuple #[.int .i64 0, .nilIface]) ∧ DigFor w' d ks msg ∧ But d w w' := by
  obtain ⟨xs, hdig, hxs⟩ := h
  rw [hL] at hdig hxs
  obtain ⟨t2, t3, t4⟩ := dig_tail (nx := ((L % 64 : Nat) : Int)) (len := (L : Int)) hdig.1 hdig.2.1
  have c72 := (hdig.cell 72).1.trans t2
  have c73 := (hdig.cell 73).1.trans t3
  have fz : ∀ k, w.frozen? ⟨d, k, none⟩ = false := fun k => (hdig.cell k).2
  have HFIN : Hid (∀ wx, DigAt wx d (sh ks msg ini (L / 64)).list xs ((L % 64 : Nat) : Int) (L : Int) → DigFor wx d ks msg) := Lib.hid (fun wx hx => ⟨xs, by rw [hL]; exact hx, by rw [hL]; exact hxs⟩)
  have HD2 : Hid (DigAt (w.setCell ⟨d, 73, none⟩ (.int .u64 (L : Int))) d (sh ks msg ini (L / 64)).list xs ((L % 64 : Nat) : Int) (L : Int)) := Lib.hid (hdig.setLen _)
  have HB2 : Hid (But d w (w.setCell ⟨d, 73, none⟩ (.int .u64 (L : Int)))) := Lib.hid ((But.refl d w).set 73 _)
  obtain ⟨nx, hnx⟩ : ∃ nx, nx = L % 64 := ⟨_, rfl⟩
  rw [← hnx] at c72 HFIN HD2
  have hnx64 : nx < 64 := by omega
  clear hL hdig hxs t2 t3 t4 hnx
  go_enter Tryd.func84, Tryd.ntmps84
  go_upto_if 23 with fail
  by_cases h0 : 0 < nx
  · generalize w.setCell ⟨d, 73, none⟩ (.int .u64 (L : Int)) = w2 at *
    obtain ⟨t2, _, _⟩ := dig_tail (nx := (nx : Int)) (len := (L : Int)) HD2.out.1 HD2.out.2.1
    have d72 : w2.drew.cell? ⟨d, 72, none⟩ = some (.int .i64 (nx : Int)) := (HD2.out.cell 72).1.trans t2
    have f72 : w2.drew.frozen? ⟨d, 72, none⟩ = false := (HD2.out.cell 72).2
    have HD3 : Hid (DigAt (w2.drew.setCell ⟨d, 72, none⟩ (.int .i64 (nx : Int))) d (sh ks msg ini (L / 64)).list xs (nx : Int) (L : Int)) := Lib.hid (HD2.out.drew.setNx _)
    have HB3 : Hid (But d w (w2.drew.setCell ⟨d, 72, none⟩ (.int .i64 (nx : Int)))) := Lib.hid (HB2.out.drew.set 72 _)
    have s1 : (nx : Int) ≤ 64 := by omega
    have s2 : ¬ 64 = nx := by omega
    have s3 : ¬ nx = 64 := by omega
    have s4 : nx ≤ 64 := by omega
    have s5 : ¬ (nx : Int) = 64 := by omega
    have s6 : ((nx : Int) == 64) = false := by simp [s5]
    clear t2
    go_wp2_with fail
    go_still_tail 9, (by kernel_rfl)
    change wpList _ _ _ _ _ w2.drew
    generalize w2.drew = w3 at *
    refine wpList_copy_nothing rfl (.tmp 31) (.tmp 32) 23 23 rfl 5 Tryd.underlying23 size_byte (some ⟨d, 8 + nx, none⟩) A (64 - nx) (64 - nx) 0 0 rfl rfl (Nat.zero_min _) ?_
    go_wp2_with fail
    go_ret2
    exact ⟨rfl, HFIN.out _ HD3.out, HB3.out⟩
  · go_wp2_with fail
    go_ret2
    exact ⟨rfl, HFIN.out _ HD2.out, HB2.out⟩

/-- bytes that lie in a block from its head on -/
def BAt (w : World) (g : Nat) (t : TypeId) (ys : List Int) : Prop := w.heap[g]? = some (.cells (ys.map (Value.int .u8)).toArray t (0, 0))
theorem BAt.cell {w : World} {g : Nat} {t : TypeId} {ys : List Int} (h : BAt w g t ys) {j : Nat} (hj : j < ys.length) : w.cell? ⟨g, j, none⟩ = some (.int .u8 (ys.getD j 0)) := by
  unfold BAt at h
  simp [World.cell?, h, hj]
theorem BAt.frozen {w : World} {g : Nat} {t : TypeId} {ys : List Int} (h : BAt w g t ys) (j : Nat) : w.frozen? ⟨g, j, none⟩ = false := by
  unfold BAt at h
  simp [World.frozen?, h]
theorem BAt.set {w : World} {g : Nat} {t : TypeId} {ys : List Int} (h : BAt w g t ys) (i : Nat) (v : Int) : BAt (w.setCell ⟨g, i, none⟩ (.int .u8 v)) g t (ys.set i v) := by
  unfold BAt at h ⊢
  rw [heap_setCell_same _ _ _ _ _ _ h]
  congr 2
  rw [List.setIfInBounds_toArray, List.map_set]
theorem BAt.below {w w' : World} {g B : Nat} {t : TypeId} {ys : List Int} (h : BAt w g t ys) (hb : Below B w w') (hg : g < B) : BAt w' g t ys := (hb.block g hg).trans h
theorem BAt.but {w w' : World} {g d : Nat} {t : TypeId} {ys : List Int} (h : BAt w g t ys) (hb : But d w w') (hne : g ≠ d) : BAt w' g t ys :=
  (hb.2.2.2.2 g (Array.getElem?_eq_some_iff.1 h).1 hne).trans h
theorem z32_info : (Tryd.prog.info? 53).map (fun i => i.zero) = some (some (.agg ((List.replicate 32 (0 : Int)).map (Value.int .u8)).toArray)) := by kernel_rfl
theorem z32_zero (w : World) : (zeroValue 53).run Tryd.prog w = .ok (.agg ((List.replicate 32 (0 : Int)).map (Value.int .u8)).toArray) w := by
  obtain ⟨i, hi, hz⟩ := Option.map_eq_some_iff.1 z32_info
  simp [zeroValue, typeInfo, hi, hz]
theorem z72_info : (Tryd.prog.info? 125).map (fun i => i.zero) = some (some (.agg ((List.replicate 72 (0 : Int)).map (Value.int .u8)).toArray)) := by kernel_rfl
theorem z72_zero (w : World) : (zeroValue 125).run Tryd.prog w = .ok (.agg ((List.replicate 72 (0 : Int)).map (Value.int .u8)).toArray) w := by
  obtain ⟨i, hi, hz⟩ := Option.map_eq_some_iff.1 z72_info
  simp [zeroValue, typeInfo, hi, hz]
theorem fput32_any (b off n cap : Nat) (x v0 v1 v2 v3 : Int) (w : World) (hn : 4 ≤ n) (h2 : n ≤ cap) (h3 : cap ≤ 9223372036854775807) (h0 : 0 ≤ x) (h1 : x < 4294967296)
    (c0 : w.cell? ⟨b, off, none⟩ = some (.int .u8 v0)) (c1 : w.cell? ⟨b, off + 1, none⟩ = some (.int .u8 v1)) (c2 : w.cell? ⟨b, off + 2, none⟩ = some (.int .u8 v2)) (c3 : w.cell? ⟨b, off + 3, none⟩ = some (.int .u8 v3))
    (fz : ∀ k, w.frozen? ⟨b, k, none⟩ = false) :
    Calls Tryd.prog 91 #[.slice (some ⟨b, off, none⟩) n cap, .int .u32 x] w fun e w' => e = .returned (.tuple #[]) ∧
      w' = (((w.setCell ⟨b, off, none⟩ (.int .u8 (x / 16777216))).setCell ⟨b, off + 1, none⟩ (.int .u8 (x / 65536 % 256))).setCell ⟨b, off + 2, none⟩ (.int .u8 (x / 256 % 256))).setCell ⟨b, off + 3, none⟩ (.int .u8 (x % 256)) := by
  have HC := Lib.hid (bePut32_any b off n cap x v0 v1 v2 v3 w hn h2 h3 h0 h1 c0 c1 c2 c3 fz)
  clear c0 c1 c2 c3 fz
  go_enter Tryd.func91, Tryd.ntmps91
  go_wp2_with fail
  refine HC.out.mono ?_
  rintro e w' ⟨rfl, rfl⟩
  go_wp2_with fail
  go_end0
  exact ⟨rfl, rfl⟩
theorem fput64_any (b off n cap : Nat) (x v0 v1 v2 v3 v4 v5 v6 v7 : Int) (w : World) (hn : 8 ≤ n) (h2 : n ≤ cap) (h3 : cap ≤ 9223372036854775807) (h0 : 0 ≤ x) (h1 : x < 18446744073709551616)
    (c0 : w.cell? ⟨b, off, none⟩ = some (.int .u8 v0)) (c1 : w.cell? ⟨b, off + 1, none⟩ = some (.int .u8 v1)) (c2 : w.cell? ⟨b, off + 2, none⟩ = some (.int .u8 v2)) (c3 : w.cell? ⟨b, off + 3, none⟩ = some (.int .u8 v3))
    (c4 : w.cell? ⟨b, off + 4, none⟩ = some (.int .u8 v4)) (c5 : w.cell? ⟨b, off + 5, none⟩ = some (.int .u8 v5)) (c6 : w.cell? ⟨b, off + 6, none⟩ = some (.int .u8 v6)) (c7 : w.cell? ⟨b, off + 7, none⟩ = some (.int .u8 v7))
    (fz : ∀ k, w.frozen? ⟨b, k, none⟩ = false) :
    Calls Tryd.prog 90 #[.slice (some ⟨b, off, none⟩) n cap, .int .u64 x] w fun e w' => e = .returned (.tuple #[]) ∧
      w' = (((((((w.setCell ⟨b, off, none⟩ (.int .u8 (x / 72057594037927936))).setCell ⟨b, off + 1, none⟩ (.int .u8 (x / 281474976710656 % 256))).setCell ⟨b, off + 2, none⟩ (.int .u8 (x / 1099511627776 % 256))).setCell ⟨b, off + 3, none⟩ (.int .u8 (x / 4294967296 % 256))).setCell
        ⟨b, off + 4, none⟩ (.int .u8 (x / 16777216 % 256))).setCell ⟨b, off + 5, none⟩ (.int .u8 (x / 65536 % 256))).setCell ⟨b, off + 6, none⟩ (.int .u8 (x / 256 % 256))).setCell ⟨b, off + 7, none⟩ (.int .u8 (x % 256)) := by
  have HC := Lib.hid (bePut64_any b off n cap x v0 v1 v2 v3 v4 v5 v6 v7 w hn h2 h3 h0 h1 c0 c1 c2 c3 c4 c5 c6 c7 fz)
  clear c0 c1 c2 c3 c4 c5 c6 c7 fz
  go_enter Tryd.func90, Tryd.ntmps90
  go_wp2_with fail
  refine HC.out.mono ?_
  rintro e w' ⟨rfl, rfl⟩
  go_wp2_with fail
  go_end0
  exact ⟨rfl, rfl⟩

end Go.Proofs.YtokopcbmpnnkcaaDoor
