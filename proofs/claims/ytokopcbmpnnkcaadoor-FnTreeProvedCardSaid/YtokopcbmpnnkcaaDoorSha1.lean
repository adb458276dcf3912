/- The digest of the library's SHA-256 in memory, and the contract of its Reset. Condition: the digest lies in one block. -/
import Derived.Test.YtokopcbmpnnkcaaDoorRows
import Derived.WalkKit
import Derived.WalkSpells
import Derived.WalkLawsBesides
import Derived.Lib.Hide
import Derived.Below
namespace Go.Proofs.YtokopcbmpnnkcaaDoor
open Go.RowKit

/-- the cells of a digest: eight words, 64 bytes, how many of them count, the length, no SHA-224 -/
def digCells (hs : List Int) (xs : List Int) (nx len : Int) : List Value := hs.map (Value.int .u32) ++ (xs.map (Value.int .u8) ++ [.int .i64 nx, .int .u64 len, .bool false])
def DigAt (w : World) (d : Nat) (hs xs : List Int) (nx len : Int) : Prop :=
  hs.length = 8 ∧ xs.length = 64 ∧ w.heap[d]? = some (.cells (digCells hs xs nx len).toArray 105 (0, 0))
theorem DigAt.below {w w' : World} {d : Nat} {hs xs : List Int} {nx len : Int} (h : DigAt w d hs xs nx len) (hb : Below w.heap.size w w') : DigAt w' d hs xs nx len := by
  refine ⟨h.1, h.2.1, (hb.block d ?_).trans h.2.2⟩
  have := h.2.2
  exact (Array.getElem?_eq_some_iff.1 this).1
theorem DigAt.cell {w : World} {d : Nat} {hs xs : List Int} {nx len : Int} (h : DigAt w d hs xs nx len) (k : Nat) : w.cell? ⟨d, k, none⟩ = (digCells hs xs nx len)[k]? ∧ w.frozen? ⟨d, k, none⟩ = false := by
  simp [World.cell?, World.frozen?, h.2.2]

theorem dig_tail {hs xs : List Int} {nx len : Int} (h1 : hs.length = 8) (h2 : xs.length = 64) : (digCells hs xs nx len)[72]? = some (.int .i64 nx) ∧ (digCells hs xs nx len)[73]? = some (.int .u64 len) ∧ (digCells hs xs nx len)[74]? = some (.bool false) := by
  unfold digCells
  refine ⟨?_, ?_, ?_⟩ <;> simp [h1, h2]
theorem dig_word {hs xs : List Int} {nx len : Int} {k : Nat} {a : Int} (h : hs[k]? = some a) : (digCells hs xs nx len)[k]? = some (.int .u32 a) := by
  unfold digCells
  have hk : k < hs.length := (List.getElem?_eq_some_iff.1 h).1
  rw [List.getElem?_append_left (by simpa using hk), List.getElem?_map, h]; rfl
/-- a word is set -/
theorem DigAt.setWord {w : World} {d : Nat} {hs xs : List Int} {nx len : Int} (h : DigAt w d hs xs nx len) {k : Nat} (hk : k < 8) (a : Int) : DigAt (w.setCell ⟨d, k, none⟩ (.int .u32 a)) d (hs.set k a) xs nx len := by
  obtain ⟨h1, h2, h3⟩ := h
  refine ⟨by simpa using h1, h2, ?_⟩
  rw [heap_setCell_same _ _ _ _ _ _ h3]
  congr 2
  unfold digCells
  rw [List.setIfInBounds_toArray, List.set_append_left _ _ (by simp; omega), List.map_set]
theorem DigAt.setNx {w : World} {d : Nat} {hs xs : List Int} {nx len : Int} (h : DigAt w d hs xs nx len) (a : Int) : DigAt (w.setCell ⟨d, 72, none⟩ (.int .i64 a)) d hs xs a len := by
  obtain ⟨h1, h2, h3⟩ := h
  refine ⟨h1, h2, ?_⟩
  rw [heap_setCell_same _ _ _ _ _ _ h3]
  congr 2
  unfold digCells
  rw [List.setIfInBounds_toArray, List.set_append_right _ _ (by simp; omega), List.set_append_right _ _ (by simp; omega)]
  simp [h1, h2]
theorem DigAt.setLen {w : World} {d : Nat} {hs xs : List Int} {nx len : Int} (h : DigAt w d hs xs nx len) (a : Int) : DigAt (w.setCell ⟨d, 73, none⟩ (.int .u64 a)) d hs xs nx a := by
  obtain ⟨h1, h2, h3⟩ := h
  refine ⟨h1, h2, ?_⟩
  rw [heap_setCell_same _ _ _ _ _ _ h3]
  congr 2
  unfold digCells
  rw [List.setIfInBounds_toArray, List.set_append_right _ _ (by simp; omega), List.set_append_right _ _ (by simp; omega)]
  simp [h1, h2]

/-- all but one block as it was -/
def But (g : Nat) (w w' : World) : Prop := w'.os = w.os ∧ w'.tape = w.tape ∧ w'.output = w.output ∧ w.heap.size ≤ w'.heap.size ∧ ∀ b, b < w.heap.size → b ≠ g → w'.heap[b]? = w.heap[b]?
theorem But.refl (g : Nat) (w : World) : But g w w := ⟨rfl, rfl, rfl, Nat.le_refl _, fun _ _ _ => rfl⟩
theorem But.set {g : Nat} {w w1 : World} (h : But g w w1) (k : Nat) (v : Value) : But g w (w1.setCell ⟨g, k, none⟩ v) :=
  ⟨h.1, h.2.1, h.2.2.1, by simpa using h.2.2.2.1, fun b hlt hne => by rw [heap_setCell_other _ _ _ _ (fun e => hne (by simpa using e))]; exact h.2.2.2.2 b hlt hne⟩

def init256 : List Int := [1779033703, 3144134277, 1013904242, 2773480762, 1359893119, 2600822924, 528734635, 1541459225]

set_option maxHeartbeats 2000000 in
theorem reset_any (d : Nat) (hs xs : List Int) (nx len : Int) (w : World) (h : DigAt w d hs xs nx len) :
    Calls Tryd.prog 61 #[.pointer (some ⟨d, 0, none⟩)] w fun e w' => e = .returned (.tuple #[]) ∧ DigAt w' d init256 xs 0 0 ∧ But d w w' := by
  obtain ⟨a0, a1, a2, a3, a4, a5, a6, a7, rfl⟩ : ∃ a0 a1 a2 a3 a4 a5 a6 a7, hs = [a0, a1, a2, a3, a4, a5, a6, a7] := by
    match hs, h.1 with
    | [a0, a1, a2, a3, a4, a5, a6, a7], _ => exact ⟨_, _, _, _, _, _, _, _, rfl⟩
  obtain ⟨t2, t3, t4⟩ := dig_tail (nx := nx) (len := len) h.1 h.2.1
  have c0 := (h.cell 0).1.trans (dig_word (k := 0) rfl)
  have c1 := (h.cell 1).1.trans (dig_word (k := 1) rfl)
  have c2 := (h.cell 2).1.trans (dig_word (k := 2) rfl)
  have c3 := (h.cell 3).1.trans (dig_word (k := 3) rfl)
  have c4 := (h.cell 4).1.trans (dig_word (k := 4) rfl)
  have c5 := (h.cell 5).1.trans (dig_word (k := 5) rfl)
  have c6 := (h.cell 6).1.trans (dig_word (k := 6) rfl)
  have c7 := (h.cell 7).1.trans (dig_word (k := 7) rfl)
  have c72 := (h.cell 72).1.trans t2
  have c73 := (h.cell 73).1.trans t3
  have c74 := (h.cell 74).1.trans t4
  have fz : ∀ k, w.frozen? ⟨d, k, none⟩ = false := fun k => (h.cell k).2
  have HD : Hid (DigAt ((((((((((w.setCell ⟨d, 0, none⟩ (.int .u32 1779033703)).setCell ⟨d, 1, none⟩ (.int .u32 3144134277)).setCell ⟨d, 2, none⟩ (.int .u32 1013904242)).setCell ⟨d, 3, none⟩ (.int .u32 2773480762)).setCell ⟨d, 4, none⟩ (.int .u32 1359893119)).setCell ⟨d, 5, none⟩ (.int .u32 2600822924)).setCell ⟨d, 6, none⟩ (.int .u32 528734635)).setCell ⟨d, 7, none⟩ (.int .u32 1541459225)).setCell ⟨d, 72, none⟩ (.int .i64 0)).setCell ⟨d, 73, none⟩ (.int .u64 0)) d init256 xs 0 0) := Lib.hid
    ((((((((((h.setWord (k := 0) (by omega) _).setWord (k := 1) (by omega) _).setWord (k := 2) (by omega) _).setWord (k := 3) (by omega) _).setWord (k := 4) (by omega) _).setWord (k := 5) (by omega) _).setWord (k := 6) (by omega) _).setWord (k := 7) (by omega) _).setNx _).setLen _)
  have HB : Hid (But d w ((((((((((w.setCell ⟨d, 0, none⟩ (.int .u32 1779033703)).setCell ⟨d, 1, none⟩ (.int .u32 3144134277)).setCell ⟨d, 2, none⟩ (.int .u32 1013904242)).setCell ⟨d, 3, none⟩ (.int .u32 2773480762)).setCell ⟨d, 4, none⟩ (.int .u32 1359893119)).setCell ⟨d, 5, none⟩ (.int .u32 2600822924)).setCell ⟨d, 6, none⟩ (.int .u32 528734635)).setCell ⟨d, 7, none⟩ (.int .u32 1541459225)).setCell ⟨d, 72, none⟩ (.int .i64 0)).setCell ⟨d, 73, none⟩ (.int .u64 0))) := Lib.hid
    ((((((((((But.refl d w).set 0 _).set 1 _).set 2 _).set 3 _).set 4 _).set 5 _).set 6 _).set 7 _).set 72 _ |>.set 73 _)
  clear h t2 t3 t4
  go_enter Tryd.func61, Tryd.ntmps61
  go_wp2
  go_end0
  exact ⟨rfl, HD.out, HB.out⟩

theorem dig_info : (Tryd.prog.info? 105).map (fun i => i.zero) = some (some (.agg (digCells (List.replicate 8 0) (List.replicate 64 0) 0 0).toArray)) := by kernel_rfl
theorem dig_zero (w : World) : (zeroValue 105).run Tryd.prog w = .ok (.agg (digCells (List.replicate 8 0) (List.replicate 64 0) 0 0).toArray) w := by
  obtain ⟨i, hi, hz⟩ := Option.map_eq_some_iff.1 dig_info
  simp [zeroValue, typeInfo, hi, hz]
set_option maxHeartbeats 2000000 in
theorem fnew_any (w : World) :
    Calls Tryd.prog 57 #[] w fun e w' => e = .returned (.pointer (some ⟨w.heap.size, 0, none⟩)) ∧ DigAt w' w.heap.size init256 (List.replicate 64 0) 0 0 ∧ Below w.heap.size w w' := by
  have hz := dig_zero
  have HD : Hid (DigAt (w.alloc (Obj.cells (digCells (List.replicate 8 0) (List.replicate 64 0) 0 0).toArray 105)) w.heap.size (List.replicate 8 0) (List.replicate 64 0) 0 0) := Lib.hid ⟨rfl, rfl, heap_alloc_new w _⟩
  generalize hG : (digCells (List.replicate 8 0) (List.replicate 64 0) 0 0).toArray = G at *
  clear hG
  go_enter Tryd.func57, Tryd.ntmps57
  go_wp2_with fail
  refine (reset_any w.heap.size _ _ _ _ _ HD.out).mono ?_
  rintro e w' ⟨rfl, hd, hb⟩
  go_wp2_with fail
  go_ret
  refine ⟨rfl, hd, ?_⟩
  exact ⟨hb.1, hb.2.1, hb.2.2.1, by have := hb.2.2.2.1; simp at this; omega, fun k hk => (hb.2.2.2.2 k (by simp; omega) (by omega)).trans ((Below.refl w.heap.size w).alloc (Nat.le_refl _) _ |>.block k hk)⟩

/-- 32 bits turned to the left -/
def rot (x : Int) (r : Nat) : Int := bits BinOp.or IntKind.u32 (x * 2 ^ r % 4294967296) (x / 2 ^ (32 - r))
theorem ret_u32 {a b : Int} (h : a = b) : Ending.returned (.int .u32 a) = .returned (.int .u32 b) := by rw [h]
theorem rot_any (x k : Int) (r : Nat) (w : World) (_ : 0 ≤ x) (_ : x < 4294967296) (hr : bits BinOp.and IntKind.u64 (IntKind.u64.wrap k) 31 = r) (hr0 : 0 < r) (hr1 : r < 32) :
    Calls Tryd.prog 92 #[.int .u32 x, .int .i64 k] w fun e w' => e = .returned (.int .u32 (rot x r)) ∧ w = w' := by
  have hs : (32 : Int) - r = ((32 - r : Nat) : Int) := by omega
  have HR : Hid (rot x r = bits BinOp.or IntKind.u32 (x * 2 ^ r % 4294967296) (x / 2 ^ (32 - r))) := Lib.hid rfl
  obtain ⟨q, hq⟩ : ∃ q : Nat, 32 - r = q := ⟨_, rfl⟩
  rw [hq] at hs HR
  have hq1 : q < 32 := by omega
  clear hq
  go_enter Tryd.func92, Tryd.ntmps92
  go_wp2
  go_ret
  exact ⟨ret_u32 HR.out.symm, rfl⟩

theorem bePut32_any (b off n cap : Nat) (x v0 v1 v2 v3 : Int) (w : World) (hn : 4 ≤ n) (_ : n ≤ cap) (_ : cap ≤ 9223372036854775807) (h0 : 0 ≤ x) (h1 : x < 4294967296)
    (c0 : w.cell? ⟨b, off, none⟩ = some (.int .u8 v0)) (c1 : w.cell? ⟨b, off + 1, none⟩ = some (.int .u8 v1)) (c2 : w.cell? ⟨b, off + 2, none⟩ = some (.int .u8 v2)) (c3 : w.cell? ⟨b, off + 3, none⟩ = some (.int .u8 v3))
    (fz : ∀ k, w.frozen? ⟨b, k, none⟩ = false) :
    Calls Tryd.prog 94 #[.slice (some ⟨b, off, none⟩) n cap, .int .u32 x] w fun e w' => e = .returned (.tuple #[]) ∧
      w' = (((w.setCell ⟨b, off, none⟩ (.int .u8 (x / 16777216))).setCell ⟨b, off + 1, none⟩ (.int .u8 (x / 65536 % 256))).setCell ⟨b, off + 2, none⟩ (.int .u8 (x / 256 % 256))).setCell ⟨b, off + 3, none⟩ (.int .u8 (x % 256)) := by
  go_enter Tryd.func94, Tryd.ntmps94
  go_wp2
  go_end0
  exact ⟨rfl, rfl⟩

set_option maxHeartbeats 1000000 in
theorem cnew_any (w : World) :
    Calls Tryd.prog 51 #[] w fun e w' => e = .returned (.iface 95 (.pointer (some ⟨w.heap.size, 0, none⟩))) ∧ DigAt w' w.heap.size init256 (List.replicate 64 0) 0 0 ∧ Below w.heap.size w w' := by
  go_enter Tryd.func51, Tryd.ntmps51
  go_wp2_with fail
  refine (fnew_any w).mono ?_
  rintro e w' ⟨rfl, hd, hb⟩
  go_wp2_with fail
  go_ret
  exact ⟨rfl, hd, hb⟩

set_option maxHeartbeats 1000000 in
theorem bePut64_any (b off n cap : Nat) (x v0 v1 v2 v3 v4 v5 v6 v7 : Int) (w : World) (hn : 8 ≤ n) (_ : n ≤ cap) (_ : cap ≤ 9223372036854775807) (h0 : 0 ≤ x) (h1 : x < 18446744073709551616)
    (c0 : w.cell? ⟨b, off, none⟩ = some (.int .u8 v0)) (c1 : w.cell? ⟨b, off + 1, none⟩ = some (.int .u8 v1)) (c2 : w.cell? ⟨b, off + 2, none⟩ = some (.int .u8 v2)) (c3 : w.cell? ⟨b, off + 3, none⟩ = some (.int .u8 v3))
    (c4 : w.cell? ⟨b, off + 4, none⟩ = some (.int .u8 v4)) (c5 : w.cell? ⟨b, off + 5, none⟩ = some (.int .u8 v5)) (c6 : w.cell? ⟨b, off + 6, none⟩ = some (.int .u8 v6)) (c7 : w.cell? ⟨b, off + 7, none⟩ = some (.int .u8 v7))
    (fz : ∀ k, w.frozen? ⟨b, k, none⟩ = false) :
    Calls Tryd.prog 93 #[.slice (some ⟨b, off, none⟩) n cap, .int .u64 x] w fun e w' => e = .returned (.tuple #[]) ∧
      w' = (((((((w.setCell ⟨b, off, none⟩ (.int .u8 (x / 72057594037927936))).setCell ⟨b, off + 1, none⟩ (.int .u8 (x / 281474976710656 % 256))).setCell ⟨b, off + 2, none⟩ (.int .u8 (x / 1099511627776 % 256))).setCell ⟨b, off + 3, none⟩ (.int .u8 (x / 4294967296 % 256))).setCell
        ⟨b, off + 4, none⟩ (.int .u8 (x / 16777216 % 256))).setCell ⟨b, off + 5, none⟩ (.int .u8 (x / 65536 % 256))).setCell ⟨b, off + 6, none⟩ (.int .u8 (x / 256 % 256))).setCell ⟨b, off + 7, none⟩ (.int .u8 (x % 256)) := by
  go_enter Tryd.func93, Tryd.ntmps93
  go_wp2
  go_end0
  exact ⟨rfl, rfl⟩

theorem approved_any (w : World) : Calls Tryd.prog 85 #[] w fun e w' => e = .returned (.tuple #[]) ∧ w = w' := by
  go_enter Tryd.func85, Tryd.ntmps85
  go_wp2
  rw [run_callFunc_extern Tryd.func88 (by kernel_rfl) (by kernel_rfl) (by kernel_rfl) (e := fun _ => pure (.int .u8 0)) (by kernel_rfl)]
  simp only [Sem.run_pure, Result.andThen]
  rw [Oper.upon_value]
  go_wp2
  rw [run_callFunc_extern Tryd.func89 (by kernel_rfl) (by kernel_rfl) (by kernel_rfl) (e := fun _ => pure (.tuple #[])) (by kernel_rfl)]
  simp only [Sem.run_pure, Result.andThen]
  rw [Oper.upon_value]
  go_wp2
  go_end0
  exact ⟨rfl, rfl⟩

end Go.Proofs.YtokopcbmpnnkcaaDoor
