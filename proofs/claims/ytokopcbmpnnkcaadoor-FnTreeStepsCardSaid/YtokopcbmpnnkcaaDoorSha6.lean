/- SHA-256's checkSum: the hash as a function of the table's words and of the bytes. Condition: the digest lies in one block. -/
import Derived.Test.YtokopcbmpnnkcaaDoorSha5
namespace Go.Proofs.YtokopcbmpnnkcaaDoor
open Go.RowKit

def padT (L : Nat) : Nat := if L % 64 < 56 then 56 - L % 64 else 120 - L % 64
def put8 (ys : List Int) (i : Nat) (x : Int) : List Int := (((((((ys.set i (x / 72057594037927936)).set (i + 1) (x / 281474976710656 % 256)).set (i + 2) (x / 1099511627776 % 256)).set (i + 3) (x / 4294967296 % 256)).set (i + 4) (x / 16777216 % 256)).set (i + 5) (x / 65536 % 256)).set (i + 6) (x / 256 % 256)).set (i + 7) (x % 256)
def put4 (ys : List Int) (i : Nat) (x : Int) : List Int := (((ys.set i (x / 16777216)).set (i + 1) (x / 65536 % 256)).set (i + 2) (x / 256 % 256)).set (i + 3) (x % 256)
/-- the padding behind a message of L bytes -/
def padRow (L : Nat) : List Int := put8 ((List.replicate 72 0).set 0 128) (padT L) ((L : Int) * 8)
def padL (L : Nat) : List Int := (padRow L).take (padT L + 8)
theorem padRow_len (L : Nat) : (padRow L).length = 72 := by simp [padRow, put8]
theorem padT_le (L : Nat) : 1 ≤ padT L ∧ padT L ≤ 64 ∧ (L + (padT L + 8)) % 64 = 0 := by unfold padT; split <;> omega
theorem padL_len (L : Nat) : (padL L).length = padT L + 8 := by have := (padT_le L).2.1; simp [padL, padRow_len]; omega
/-- the eight words as 32 bytes -/
def shaOut (s : R8) : List Int := put4 (put4 (put4 (put4 (put4 (put4 (put4 (put4 (List.replicate 32 0) 0 s.a) 4 s.b) 8 s.c) 12 s.d) 16 s.e) 20 s.f) 24 s.g) 28 s.h
/-- SHA-256 over a table of words -/
def sha (ks msg : List Int) : List Int := shaOut (sh ks (msg ++ padL msg.length) ini ((msg ++ padL msg.length).length / 64))
theorem sha_len (ks msg : List Int) : (sha ks msg).length = 32 := by simp [sha, shaOut, put4]

theorem put8_at {w : World} {g : Nat} {t : TypeId} {ys : List Int} (h : BAt w g t ys) (i : Nat) (x : Int) : BAt ((((((((w.setCell ⟨g, i, none⟩ (.int .u8 (x / 72057594037927936))).setCell ⟨g, i + 1, none⟩ (.int .u8 (x / 281474976710656 % 256))).setCell ⟨g, i + 2, none⟩ (.int .u8 (x / 1099511627776 % 256))).setCell ⟨g, i + 3, none⟩ (.int .u8 (x / 4294967296 % 256))).setCell
        ⟨g, i + 4, none⟩ (.int .u8 (x / 16777216 % 256))).setCell ⟨g, i + 5, none⟩ (.int .u8 (x / 65536 % 256))).setCell ⟨g, i + 6, none⟩ (.int .u8 (x / 256 % 256))).setCell ⟨g, i + 7, none⟩ (.int .u8 (x % 256))) g t (put8 ys i x) :=
  (((((((h.set _ _).set _ _).set _ _).set _ _).set _ _).set _ _).set _ _).set _ _
theorem put8_but (w : World) (g i : Nat) (x : Int) : But g w ((((((((w.setCell ⟨g, i, none⟩ (.int .u8 (x / 72057594037927936))).setCell ⟨g, i + 1, none⟩ (.int .u8 (x / 281474976710656 % 256))).setCell ⟨g, i + 2, none⟩ (.int .u8 (x / 1099511627776 % 256))).setCell ⟨g, i + 3, none⟩ (.int .u8 (x / 4294967296 % 256))).setCell
        ⟨g, i + 4, none⟩ (.int .u8 (x / 16777216 % 256))).setCell ⟨g, i + 5, none⟩ (.int .u8 (x / 65536 % 256))).setCell ⟨g, i + 6, none⟩ (.int .u8 (x / 256 % 256))).setCell ⟨g, i + 7, none⟩ (.int .u8 (x % 256))) :=
  ((((((((But.refl g w).set _ _).set _ _).set _ _).set _ _).set _ _).set _ _).set _ _).set _ _
theorem put4_at {w : World} {g : Nat} {t : TypeId} {ys : List Int} (h : BAt w g t ys) (i : Nat) (x : Int) : BAt ((((w.setCell ⟨g, i, none⟩ (.int .u8 (x / 16777216))).setCell ⟨g, i + 1, none⟩ (.int .u8 (x / 65536 % 256))).setCell ⟨g, i + 2, none⟩ (.int .u8 (x / 256 % 256))).setCell ⟨g, i + 3, none⟩ (.int .u8 (x % 256))) g t (put4 ys i x) :=
  (((h.set _ _).set _ _).set _ _).set _ _
theorem put4_but (w : World) (g i : Nat) (x : Int) : But g w ((((w.setCell ⟨g, i, none⟩ (.int .u8 (x / 16777216))).setCell ⟨g, i + 1, none⟩ (.int .u8 (x / 65536 % 256))).setCell ⟨g, i + 2, none⟩ (.int .u8 (x / 256 % 256))).setCell ⟨g, i + 3, none⟩ (.int .u8 (x % 256))) :=
  ((((But.refl g w).set _ _).set _ _).set _ _).set _ _
theorem DigAt.but {w w' : World} {d g : Nat} {hs xs : List Int} {nx len : Int} (h : DigAt w d hs xs nx len) (hb : But g w w') (hne : d ≠ g) : DigAt w' d hs xs nx len :=
  ⟨h.1, h.2.1, (hb.2.2.2.2 d (Array.getElem?_eq_some_iff.1 h.2.2).1 hne).trans h.2.2⟩
theorem DigFor.but {w w' : World} {d g : Nat} {ks msg : List Int} (h : DigFor w d ks msg) (hb : But g w w') (hne : d ≠ g) : DigFor w' d ks msg := by
  obtain ⟨xs, h1, h2⟩ := h
  exact ⟨xs, h1.but hb hne, h2⟩
theorem DigFor.below {w w' : World} {d : Nat} {ks msg : List Int} (h : DigFor w d ks msg) (hb : Below w.heap.size w w') : DigFor w' d ks msg := by
  obtain ⟨xs, h1, h2⟩ := h
  exact ⟨xs, h1.below hb, h2⟩
/-- a change to a new block is none to the old ones -/
theorem But.new {d g : Nat} {w w1 w2 : World} (h : But d w w1) (hb : But g w1 w2) (hg : w.heap.size ≤ g) : But d w w2 :=
  ⟨hb.1.trans h.1, hb.2.1.trans h.2.1, hb.2.2.1.trans h.2.2.1, Nat.le_trans h.2.2.2.1 hb.2.2.2.1, fun x hx hne => (hb.2.2.2.2 x (Nat.lt_of_lt_of_le hx h.2.2.2.1) (by omega)).trans (h.2.2.2.2 x hx hne)⟩
theorem But.alloc {d : Nat} {w w1 : World} (h : But d w w1) (o : Obj) : But d w (w1.alloc o) :=
  ⟨h.1, h.2.1, h.2.2.1, by have := h.2.2.2.1; simp; omega, fun x hx hne => (Below.heap_alloc w1 o x (Nat.lt_of_lt_of_le hx h.2.2.2.1)).trans (h.2.2.2.2 x hx hne)⟩

theorem fin_dig {w : World} {d : Nat} {ks m : List Int} (h : DigFor w d ks m) (h0 : m.length % 64 = 0) : ∃ (xs : List Int) (S : R8) (n : Int), DigAt w d S.list xs 0 n ∧ S = sh ks m ini (m.length / 64) ∧ S.ok := by
  obtain ⟨xs, h1, _⟩ := h
  rw [h0] at h1
  exact ⟨xs, _, _, h1, rfl, sh_ok ini_ok _⟩
theorem dig_flag {hs xs : List Int} {nx len : Int} (h1 : hs.length = 8) (h2 : xs.length = 64) : (digCells hs xs nx len)[74]? = some (.bool false) := (dig_tail h1 h2).2.2

theorem size_h32 : (Tryd.prog.info? 53).map (·.size) = some 32 := by kernel_rfl
theorem arr_h32 (ys : List Int) (h : ys.length = 32) : (Tryd.prog.info? 53).map (·.size) = some ((ys.map (Value.int .u8)).toArray.size) := by rw [size_h32]; simp [h]
theorem wpList_load32 {ops : Array Oper} {rest : List Oper} {o : Oper} {a : Act} {w : World} {Q : Exit → Act → World → Prop} (hgd : o.guard = none) (x : Operand) (ho : o.op = .load 53 x)
    (g : Nat) (hx : a.eval x = .pointer (some ⟨g, 0, none⟩)) (t : TypeId) (ys : List Int) (hB : BAt w g t ys) (hl : ys.length = 32) (h : wpList Tryd.prog ops Q rest (a.put o.dst (.agg (ys.map (Value.int .u8)).toArray)) w) : wpList Tryd.prog ops Q (o :: rest) a w :=
  wpList_load_row hgd 53 x ho g hx t _ (0, 0) _ hB Tryd.underlying53 rfl (arr_h32 ys hl) h

theorem wpList_store32 {ops : Array Oper} {rest : List Oper} {o : Oper} {a : Act} {w : World} {Q : Exit → Act → World → Prop} (hgd : o.guard = none) (x y : Operand) (ho : o.op = .store 53 x y)
    (g : Nat) (ys : List Int) (hx : a.eval x = .pointer (some ⟨g, 0, none⟩)) (hy : a.eval y = .agg (ys.map (Value.int .u8)).toArray) (t : TypeId) (old : List Int) (hB : BAt w g t old) (hlo : old.length = 32) (hl : ys.length = 32)
    (h : ∀ w', Hid (BAt w' g t ys) → Hid (But g w w') → wpList Tryd.prog ops Q rest (a.put o.dst undef) w') : wpList Tryd.prog ops Q (o :: rest) a w :=
  wpList_store_row hgd 53 x y ho g _ hx hy t _ hB (arr_h32 ys hl) (by simp [hl, hlo]) (by
    rw [Array.all_eq_true_iff_forall_mem]
    intro v hv
    obtain ⟨z, _, rfl⟩ := List.mem_map.1 (by simpa using hv)
    rfl) (h _ (Lib.hid (setRow_heap w g _ _ t _ hB)) (Lib.hid ((But.refl g w).setRow _)))

set_option maxHeartbeats 8000000 in
set_option maxRecDepth 20000 in
theorem checkSum_any (d : Nat) (ks msg : List Int) (L : Nat) (hL : msg.length = L) (w : World) (h : DigFor w d ks msg) (hK : WAt w 4 ks) (hdK : d ≠ 4) (hL60 : L < 1152921504606840000) :
    Calls Tryd.prog 86 #[.pointer (some ⟨d, 0, none⟩)] w fun e w' => e = .returned (.agg ((sha ks msg).map (Value.int .u8)).toArray) ∧ But d w w' ∧ ∃ hs xs nx len, DigAt w' d hs xs nx len := by
  have HF := Lib.hid h
  obtain ⟨xs, hdig, hxs⟩ := h
  rw [hL] at hdig hxs
  obtain ⟨t2, t3, t4⟩ := dig_tail (nx := ((L % 64 : Nat) : Int)) (len := (L : Int)) hdig.1 hdig.2.1
  have c73 := (hdig.cell 73).1.trans t3
  have hd : d < w.heap.size := (Array.getElem?_eq_some_iff.1 hdig.2.2).1
  have HK := Lib.hid hK
  have HL := Lib.hid hL
  have hz1 := z32_zero
  have hz2 := z72_zero
  have c0 : ((w.alloc (Obj.cells ((List.replicate 32 (0 : Int)).map (Value.int .u8)).toArray 53)).alloc (Obj.cells ((List.replicate 72 (0 : Int)).map (Value.int .u8)).toArray 125)).cell? ⟨w.heap.size + 1, 0, none⟩ = some (.int .u8 0) := by
    have := heap_alloc_new (w.alloc (Obj.cells ((List.replicate 32 (0 : Int)).map (Value.int .u8)).toArray 53)) (Obj.cells ((List.replicate 72 (0 : Int)).map (Value.int .u8)).toArray 125)
    have h2 : BAt ((w.alloc (Obj.cells ((List.replicate 32 (0 : Int)).map (Value.int .u8)).toArray 53)).alloc (Obj.cells ((List.replicate 72 (0 : Int)).map (Value.int .u8)).toArray 125)) (w.heap.size + 1) 125 (List.replicate 72 0) := by
      unfold BAt
      simpa using this
    exact h2.cell (j := 0) (by simp)
  have HG2 : Hid (((List.replicate 72 (0 : Int)).map (Value.int .u8)).toArray.setIfInBounds 0 (.int .u8 128) = (((List.replicate 72 (0 : Int)).set 0 128).map (Value.int .u8)).toArray) := Lib.hid (by rw [List.setIfInBounds_toArray, List.map_set])
  have HG1 : Hid (BAt (w.alloc (Obj.cells ((List.replicate 32 (0 : Int)).map (Value.int .u8)).toArray 53)) w.heap.size 53 (List.replicate 32 0)) := Lib.hid (heap_alloc_new w _)
  obtain ⟨T, hT⟩ : ∃ T, T = padT L := ⟨_, rfl⟩
  have HTT := Lib.hid hT
  have hT2 : T = if L % 64 < 56 then 56 - L % 64 else 120 - L % 64 := hT
  generalize hG1 : ((List.replicate 32 (0 : Int)).map (Value.int .u8)).toArray = G1 at *
  have HGG := Lib.hid hG1
  clear hG1
  generalize ((List.replicate 72 (0 : Int)).map (Value.int .u8)).toArray = G2 at *
  clear hdig hxs t2 t3 t4 hL hK hT
  go_enter Tryd.func86, Tryd.ntmps86
  go_upto_if 15 with fail
  have HT1 : Hid (BAt ((w.alloc (Obj.cells G1 53)).alloc (Obj.cells (G2.setIfInBounds 0 (.int .u8 128)) 125)) (w.heap.size + 1) 125 ((List.replicate 72 (0 : Int)).set 0 128)) := Lib.hid (by
    rw [HG2.out]
    have := heap_alloc_new (w.alloc (Obj.cells G1 53)) (Obj.cells (((List.replicate 72 (0 : Int)).set 0 128).map (Value.int .u8)).toArray 125)
    unfold BAt
    simpa using this)
  have HR1 : Hid (BAt ((w.alloc (Obj.cells G1 53)).alloc (Obj.cells (G2.setIfInBounds 0 (.int .u8 128)) 125)) w.heap.size 53 (List.replicate 32 0)) := Lib.hid (HG1.out.below ((Below.refl (w.heap.size + 1) _).alloc (by simp) _) (by omega))
  have HB1 : Hid (Below w.heap.size w ((w.alloc (Obj.cells G1 53)).alloc (Obj.cells (G2.setIfInBounds 0 (.int .u8 128)) 125))) := Lib.hid (((Below.refl w.heap.size w).alloc (Nat.le_refl _) _).alloc (by simp) _)
  have hs1 : ((w.alloc (Obj.cells G1 53)).alloc (Obj.cells (G2.setIfInBounds 0 (.int .u8 128)) 125)).heap.size = w.heap.size + 2 := by simp
  generalize (w.alloc (Obj.cells G1 53)).alloc (Obj.cells (G2.setIfInBounds 0 (.int .u8 128)) 125) = w1 at *
  have HS1 := Lib.hid hs1
  clear hs1 HG2 HG1
  go_cut [5] from 15 to 103 (fun tv wx => tv = .int .u64 (T : Int) ∧ wx = w1)
  case first =>
    by_cases h56 : L % 64 < 56
    · have h56I : (L : Int) % 64 < 56 := by omega
      rw [if_pos h56] at hT2
      go_wp2_with fail
      go_meet
      exact ⟨congrArg (Value.int .u64) (by omega), rfl⟩
    · have h56I : ¬ (L : Int) % 64 < 56 := by omega
      rw [if_neg h56] at hT2
      go_wp2_with fail
      go_meet
      exact ⟨congrArg (Value.int .u64) (by omega), rfl⟩
  case rest =>
    obtain ⟨rfl, rfl⟩ := hcut
    have hTb := padT_le L
    rw [← HTT.out] at hTb
    obtain ⟨hTa, hTb, hTc⟩ := hTb
    have HTC := Lib.hid hTc
    clear hT2 hTc
    have cz : ∀ j, j < 72 → wc.cell? ⟨w.heap.size + 1, j, none⟩ = some (.int .u8 (((List.replicate 72 (0 : Int)).set 0 128).getD j 0)) := fun j hj => HT1.out.cell (by simpa using hj)
    have HC := Lib.hid (fput64_any (w.heap.size + 1) T 8 (72 - T) ((L : Int) * 8) _ _ _ _ _ _ _ _ wc (Nat.le_refl _) (by omega) (by omega) (by omega) (by omega) (cz T (by omega)) (cz (T + 1) (by omega)) (cz (T + 2) (by omega)) (cz (T + 3) (by omega)) (cz (T + 4) (by omega)) (cz (T + 5) (by omega)) (cz (T + 6) (by omega)) (cz (T + 7) (by omega)) (fun k => HT1.out.frozen k))
    clear cz
    have v1 : (T : Int) + 8 ≤ 72 := by omega
    have v2 : (0 : Int) ≤ (T : Int) + 8 := by omega
    have v3 : ((T : Int) + 8).toNat = T + 8 := by omega
    have v4 : T + 8 ≤ 72 := by omega
    have v5 : ¬ T = 72 := by omega
    have v6 : ¬ 72 = T := by omega
    go_wp2_with fail
    refine HC.out.mono ?_
    rintro e w2 ⟨rfl, hw2⟩
    have HT2 : Hid (BAt w2 (w.heap.size + 1) 125 (padRow L)) := Lib.hid (by rw [hw2, padRow, ← HTT.out]; exact put8_at HT1.out _ _)
    have HBX : Hid (But (w.heap.size + 1) wc w2) := Lib.hid (by rw [hw2]; exact put8_but _ _ _ _)
    have HR2 : Hid (BAt w2 w.heap.size 53 (List.replicate 32 0)) := Lib.hid (HR1.out.but HBX.out (by omega))
    have HB2 : Hid (But d w w2) := Lib.hid ((But.of_below HB1.out).new HBX.out (by omega))
    have HF2 : Hid (DigFor w2 d ks msg) := Lib.hid ((HF.out.below HB1.out).but HBX.out (by omega))
    have HS2 : Hid (w.heap.size + 2 ≤ w2.heap.size) := Lib.hid (by have := HBX.out.2.2.2.1; have := HS1.out; omega)
    have HPL : Hid ((padL L).length = T + 8) := Lib.hid (by rw [padL_len, ← HTT.out])
    have HW := Lib.hid (write_some d ks msg (padL L) L (T + 8) HL.out HPL.out (w.heap.size + 1) 0 72 w2 HF2.out (HK.out.but HB2.out (fun e => hdK e.symm)) hdK (by omega) (by omega) (by have := HS2.out; omega) (by omega) (fun j hj => by
      rw [Nat.zero_add, HT2.out.cell (by rw [padRow_len]; omega)]
      unfold padL
      rw [← HTT.out]
      simp [hj]) (by omega))
    clear hw2 HT1 HBX HC HR1 HB1
    have HM0 : Hid ((msg ++ padL L).length % 64 = 0) := Lib.hid (by rw [List.length_append, HL.out, HPL.out]; exact HTC.out)
    go_wp2_with (go_at_call 84; refine HW.out.mono ?_; rintro e w3 ⟨rfl, HF3, HB3⟩; obtain ⟨xs3, S, n3, hd3, hS, hok⟩ := fin_dig HF3 HM0.out; have c72 := (hd3.cell 72).1.trans (dig_tail hd3.1 hd3.2.1).1; have HD3 := Lib.hid hd3; have HSS := Lib.hid hS; have HOK := Lib.hid hok; have HB3' := Lib.hid HB3; clear hd3 hS hok HF3 HB3)
    have HD4 : Hid (DigAt (w3.alloc (Obj.cells G1 53)) d S.list xs3 0 n3) := Lib.hid (HD3.out.below ((Below.refl w3.heap.size w3).alloc (Nat.le_refl _) _))
    have HR4 : Hid (BAt (w3.alloc (Obj.cells G1 53)) w.heap.size 53 (List.replicate 32 0)) := Lib.hid ((HR2.out.but HB3'.out (by omega)).below ((Below.refl w3.heap.size w3).alloc (Nat.le_refl _) _) (by have := HB3'.out.2.2.2.1; have := HS2.out; omega))
    have HG4 : Hid (BAt (w3.alloc (Obj.cells G1 53)) w3.heap.size 53 (List.replicate 32 0)) := Lib.hid (by rw [← HGG.out]; exact heap_alloc_new w3 _)
    have HB4 : Hid (But d w (w3.alloc (Obj.cells G1 53))) := Lib.hid ((HB2.out.trans HB3'.out).alloc _)
    have hg3 : w.heap.size + 2 ≤ w3.heap.size := by have := HB3'.out.2.2.2.1; have := HS2.out; omega
    generalize w3.heap.size = g at *
    generalize w3.alloc (Obj.cells G1 53) = w4 at *
    obtain ⟨Y0, hY0⟩ : ∃ Y0 : List Int, Y0 = List.replicate 32 0 := ⟨_, rfl⟩
    have HL0 : Hid (Y0.length = 32) := Lib.hid (by rw [hY0]; rfl)
    rw [← hY0] at HG4
    have HY0 := Lib.hid hY0
    clear hY0 HW HT2 HF2 HB2 HR2 HD3 HB3'
    have e0 : w4.drew.cell? ⟨d, 0, none⟩ = some (.int .u32 S.a) := (HD4.out.cell 0).1.trans (dig_word (k := 0) rfl)
    go_still_tail 6, (by kernel_rfl)
    change wpList _ _ _ _ _ w4.drew
    have hd4 : Hid (DigAt w4.drew d S.list xs3 0 n3) := HD4
    have hr4 : Hid (BAt w4.drew w.heap.size 53 (List.replicate 32 0)) := HR4
    have hg4 : Hid (BAt w4.drew g 53 Y0) := HG4
    have hb4 : Hid (But d w w4.drew) := HB4
    clear HD4 HR4 HG4 HB4 e0
    generalize w4.drew = w4 at *
    have HC4 := Lib.hid (fput32_any g 0 32 32 S.a _ _ _ _ w4 (by omega) (Nat.le_refl _) (by omega) (HOK.out.1).1 (HOK.out.1).2 (hg4.out.cell (j := 0) (by rw [HL0.out]; omega)) (hg4.out.cell (j := 1) (by rw [HL0.out]; omega)) (hg4.out.cell (j := 2) (by rw [HL0.out]; omega)) (hg4.out.cell (j := 3) (by rw [HL0.out]; omega)) (fun j => hg4.out.frozen j))
    go_wp2_with fail
    refine HC4.out.mono ?_
    rintro e w5 ⟨rfl, hw5⟩
    have HX4 : Hid (But g w4 w5) := Lib.hid (by rw [hw5]; exact put4_but _ _ _ _)
    have HD5 : Hid (DigAt w5 d S.list xs3 0 n3) := Lib.hid (hd4.out.but HX4.out (by omega))
    have HR5 : Hid (BAt w5 w.heap.size 53 (List.replicate 32 0)) := Lib.hid (hr4.out.but HX4.out (by omega))
    have HB5 : Hid (But d w w5) := Lib.hid (hb4.out.new HX4.out (by omega))
    have hg4' : BAt w5 g 53 (put4 Y0 0 S.a) := by rw [hw5]; exact put4_at hg4.out _ _
    obtain ⟨Y1, hY1⟩ : ∃ Y, Y = put4 Y0 0 S.a := ⟨_, rfl⟩
    rw [← hY1] at hg4'
    have HG5 := Lib.hid hg4'
    have HY1 := Lib.hid hY1
    have HL1 : Hid (Y1.length = 32) := Lib.hid (by rw [hY1]; simp [put4, HL0.out])
    clear hw5 hY1 hg4' hd4 hr4 hg4 hb4 HC4 HX4
    go_wp2_with fail
    have e1 : w5.drew.cell? ⟨d, 1, none⟩ = some (.int .u32 S.b) := (HD5.out.cell 1).1.trans (dig_word (k := 1) rfl)
    go_still_tail 6, (by kernel_rfl)
    change wpList _ _ _ _ _ w5.drew
    have hd5 : Hid (DigAt w5.drew d S.list xs3 0 n3) := HD5
    have hr5 : Hid (BAt w5.drew w.heap.size 53 (List.replicate 32 0)) := HR5
    have hg5 : Hid (BAt w5.drew g 53 Y1) := HG5
    have hb5 : Hid (But d w w5.drew) := HB5
    clear HD5 HR5 HG5 HB5 e1
    generalize w5.drew = w5 at *
    have HC5 := Lib.hid (fput32_any g 4 28 28 S.b _ _ _ _ w5 (by omega) (Nat.le_refl _) (by omega) (HOK.out.2.1).1 (HOK.out.2.1).2 (hg5.out.cell (j := 4) (by rw [HL1.out]; omega)) (hg5.out.cell (j := 5) (by rw [HL1.out]; omega)) (hg5.out.cell (j := 6) (by rw [HL1.out]; omega)) (hg5.out.cell (j := 7) (by rw [HL1.out]; omega)) (fun j => hg5.out.frozen j))
    go_wp2_with fail
    refine HC5.out.mono ?_
    rintro e w6 ⟨rfl, hw6⟩
    have HX5 : Hid (But g w5 w6) := Lib.hid (by rw [hw6]; exact put4_but _ _ _ _)
    have HD6 : Hid (DigAt w6 d S.list xs3 0 n3) := Lib.hid (hd5.out.but HX5.out (by omega))
    have HR6 : Hid (BAt w6 w.heap.size 53 (List.replicate 32 0)) := Lib.hid (hr5.out.but HX5.out (by omega))
    have HB6 : Hid (But d w w6) := Lib.hid (hb5.out.new HX5.out (by omega))
    have hg5' : BAt w6 g 53 (put4 Y1 4 S.b) := by rw [hw6]; exact put4_at hg5.out _ _
    obtain ⟨Y2, hY2⟩ : ∃ Y, Y = put4 Y1 4 S.b := ⟨_, rfl⟩
    rw [← hY2] at hg5'
    have HG6 := Lib.hid hg5'
    have HY2 := Lib.hid hY2
    have HL2 : Hid (Y2.length = 32) := Lib.hid (by rw [hY2]; simp [put4, HL1.out])
    clear hw6 hY2 hg5' hd5 hr5 hg5 hb5 HC5 HX5
    go_wp2_with fail
    have e2 : w6.drew.cell? ⟨d, 2, none⟩ = some (.int .u32 S.c) := (HD6.out.cell 2).1.trans (dig_word (k := 2) rfl)
    go_still_tail 6, (by kernel_rfl)
    change wpList _ _ _ _ _ w6.drew
    have hd6 : Hid (DigAt w6.drew d S.list xs3 0 n3) := HD6
    have hr6 : Hid (BAt w6.drew w.heap.size 53 (List.replicate 32 0)) := HR6
    have hg6 : Hid (BAt w6.drew g 53 Y2) := HG6
    have hb6 : Hid (But d w w6.drew) := HB6
    clear HD6 HR6 HG6 HB6 e2
    generalize w6.drew = w6 at *
    have HC6 := Lib.hid (fput32_any g 8 24 24 S.c _ _ _ _ w6 (by omega) (Nat.le_refl _) (by omega) (HOK.out.2.2.1).1 (HOK.out.2.2.1).2 (hg6.out.cell (j := 8) (by rw [HL2.out]; omega)) (hg6.out.cell (j := 9) (by rw [HL2.out]; omega)) (hg6.out.cell (j := 10) (by rw [HL2.out]; omega)) (hg6.out.cell (j := 11) (by rw [HL2.out]; omega)) (fun j => hg6.out.frozen j))
    go_wp2_with fail
    refine HC6.out.mono ?_
    rintro e w7 ⟨rfl, hw7⟩
    have HX6 : Hid (But g w6 w7) := Lib.hid (by rw [hw7]; exact put4_but _ _ _ _)
    have HD7 : Hid (DigAt w7 d S.list xs3 0 n3) := Lib.hid (hd6.out.but HX6.out (by omega))
    have HR7 : Hid (BAt w7 w.heap.size 53 (List.replicate 32 0)) := Lib.hid (hr6.out.but HX6.out (by omega))
    have HB7 : Hid (But d w w7) := Lib.hid (hb6.out.new HX6.out (by omega))
    have hg6' : BAt w7 g 53 (put4 Y2 8 S.c) := by rw [hw7]; exact put4_at hg6.out _ _
    obtain ⟨Y3, hY3⟩ : ∃ Y, Y = put4 Y2 8 S.c := ⟨_, rfl⟩
    rw [← hY3] at hg6'
    have HG7 := Lib.hid hg6'
    have HY3 := Lib.hid hY3
    have HL3 : Hid (Y3.length = 32) := Lib.hid (by rw [hY3]; simp [put4, HL2.out])
    clear hw7 hY3 hg6' hd6 hr6 hg6 hb6 HC6 HX6
    go_wp2_with fail
    have e3 : w7.drew.cell? ⟨d, 3, none⟩ = some (.int .u32 S.d) := (HD7.out.cell 3).1.trans (dig_word (k := 3) rfl)
    go_still_tail 6, (by kernel_rfl)
    change wpList _ _ _ _ _ w7.drew
    have hd7 : Hid (DigAt w7.drew d S.list xs3 0 n3) := HD7
    have hr7 : Hid (BAt w7.drew w.heap.size 53 (List.replicate 32 0)) := HR7
    have hg7 : Hid (BAt w7.drew g 53 Y3) := HG7
    have hb7 : Hid (But d w w7.drew) := HB7
    clear HD7 HR7 HG7 HB7 e3
    generalize w7.drew = w7 at *
    have HC7 := Lib.hid (fput32_any g 12 20 20 S.d _ _ _ _ w7 (by omega) (Nat.le_refl _) (by omega) (HOK.out.2.2.2.1).1 (HOK.out.2.2.2.1).2 (hg7.out.cell (j := 12) (by rw [HL3.out]; omega)) (hg7.out.cell (j := 13) (by rw [HL3.out]; omega)) (hg7.out.cell (j := 14) (by rw [HL3.out]; omega)) (hg7.out.cell (j := 15) (by rw [HL3.out]; omega)) (fun j => hg7.out.frozen j))
    go_wp2_with fail
    refine HC7.out.mono ?_
    rintro e w8 ⟨rfl, hw8⟩
    have HX7 : Hid (But g w7 w8) := Lib.hid (by rw [hw8]; exact put4_but _ _ _ _)
    have HD8 : Hid (DigAt w8 d S.list xs3 0 n3) := Lib.hid (hd7.out.but HX7.out (by omega))
    have HR8 : Hid (BAt w8 w.heap.size 53 (List.replicate 32 0)) := Lib.hid (hr7.out.but HX7.out (by omega))
    have HB8 : Hid (But d w w8) := Lib.hid (hb7.out.new HX7.out (by omega))
    have hg7' : BAt w8 g 53 (put4 Y3 12 S.d) := by rw [hw8]; exact put4_at hg7.out _ _
    obtain ⟨Y4, hY4⟩ : ∃ Y, Y = put4 Y3 12 S.d := ⟨_, rfl⟩
    rw [← hY4] at hg7'
    have HG8 := Lib.hid hg7'
    have HY4 := Lib.hid hY4
    have HL4 : Hid (Y4.length = 32) := Lib.hid (by rw [hY4]; simp [put4, HL3.out])
    clear hw8 hY4 hg7' hd7 hr7 hg7 hb7 HC7 HX7
    go_wp2_with fail
    have e4 : w8.drew.cell? ⟨d, 4, none⟩ = some (.int .u32 S.e) := (HD8.out.cell 4).1.trans (dig_word (k := 4) rfl)
    go_still_tail 6, (by kernel_rfl)
    change wpList _ _ _ _ _ w8.drew
    have hd8 : Hid (DigAt w8.drew d S.list xs3 0 n3) := HD8
    have hr8 : Hid (BAt w8.drew w.heap.size 53 (List.replicate 32 0)) := HR8
    have hg8 : Hid (BAt w8.drew g 53 Y4) := HG8
    have hb8 : Hid (But d w w8.drew) := HB8
    clear HD8 HR8 HG8 HB8 e4
    generalize w8.drew = w8 at *
    have HC8 := Lib.hid (fput32_any g 16 16 16 S.e _ _ _ _ w8 (by omega) (Nat.le_refl _) (by omega) (HOK.out.2.2.2.2.1).1 (HOK.out.2.2.2.2.1).2 (hg8.out.cell (j := 16) (by rw [HL4.out]; omega)) (hg8.out.cell (j := 17) (by rw [HL4.out]; omega)) (hg8.out.cell (j := 18) (by rw [HL4.out]; omega)) (hg8.out.cell (j := 19) (by rw [HL4.out]; omega)) (fun j => hg8.out.frozen j))
    go_wp2_with fail
    refine HC8.out.mono ?_
    rintro e w9 ⟨rfl, hw9⟩
    have HX8 : Hid (But g w8 w9) := Lib.hid (by rw [hw9]; exact put4_but _ _ _ _)
    have HD9 : Hid (DigAt w9 d S.list xs3 0 n3) := Lib.hid (hd8.out.but HX8.out (by omega))
    have HR9 : Hid (BAt w9 w.heap.size 53 (List.replicate 32 0)) := Lib.hid (hr8.out.but HX8.out (by omega))
    have HB9 : Hid (But d w w9) := Lib.hid (hb8.out.new HX8.out (by omega))
    have hg8' : BAt w9 g 53 (put4 Y4 16 S.e) := by rw [hw9]; exact put4_at hg8.out _ _
    obtain ⟨Y5, hY5⟩ : ∃ Y, Y = put4 Y4 16 S.e := ⟨_, rfl⟩
    rw [← hY5] at hg8'
    have HG9 := Lib.hid hg8'
    have HY5 := Lib.hid hY5
    have HL5 : Hid (Y5.length = 32) := Lib.hid (by rw [hY5]; simp [put4, HL4.out])
    clear hw9 hY5 hg8' hd8 hr8 hg8 hb8 HC8 HX8
    go_wp2_with fail
    have e5 : w9.drew.cell? ⟨d, 5, none⟩ = some (.int .u32 S.f) := (HD9.out.cell 5).1.trans (dig_word (k := 5) rfl)
    go_still_tail 6, (by kernel_rfl)
    change wpList _ _ _ _ _ w9.drew
    have hd9 : Hid (DigAt w9.drew d S.list xs3 0 n3) := HD9
    have hr9 : Hid (BAt w9.drew w.heap.size 53 (List.replicate 32 0)) := HR9
    have hg9 : Hid (BAt w9.drew g 53 Y5) := HG9
    have hb9 : Hid (But d w w9.drew) := HB9
    clear HD9 HR9 HG9 HB9 e5
    generalize w9.drew = w9 at *
    have HC9 := Lib.hid (fput32_any g 20 12 12 S.f _ _ _ _ w9 (by omega) (Nat.le_refl _) (by omega) (HOK.out.2.2.2.2.2.1).1 (HOK.out.2.2.2.2.2.1).2 (hg9.out.cell (j := 20) (by rw [HL5.out]; omega)) (hg9.out.cell (j := 21) (by rw [HL5.out]; omega)) (hg9.out.cell (j := 22) (by rw [HL5.out]; omega)) (hg9.out.cell (j := 23) (by rw [HL5.out]; omega)) (fun j => hg9.out.frozen j))
    go_wp2_with fail
    refine HC9.out.mono ?_
    rintro e w10 ⟨rfl, hw10⟩
    have HX9 : Hid (But g w9 w10) := Lib.hid (by rw [hw10]; exact put4_but _ _ _ _)
    have HD10 : Hid (DigAt w10 d S.list xs3 0 n3) := Lib.hid (hd9.out.but HX9.out (by omega))
    have HR10 : Hid (BAt w10 w.heap.size 53 (List.replicate 32 0)) := Lib.hid (hr9.out.but HX9.out (by omega))
    have HB10 : Hid (But d w w10) := Lib.hid (hb9.out.new HX9.out (by omega))
    have hg9' : BAt w10 g 53 (put4 Y5 20 S.f) := by rw [hw10]; exact put4_at hg9.out _ _
    obtain ⟨Y6, hY6⟩ : ∃ Y, Y = put4 Y5 20 S.f := ⟨_, rfl⟩
    rw [← hY6] at hg9'
    have HG10 := Lib.hid hg9'
    have HY6 := Lib.hid hY6
    have HL6 : Hid (Y6.length = 32) := Lib.hid (by rw [hY6]; simp [put4, HL5.out])
    clear hw10 hY6 hg9' hd9 hr9 hg9 hb9 HC9 HX9
    go_wp2_with fail
    have e6 : w10.drew.cell? ⟨d, 6, none⟩ = some (.int .u32 S.g) := (HD10.out.cell 6).1.trans (dig_word (k := 6) rfl)
    go_still_tail 6, (by kernel_rfl)
    change wpList _ _ _ _ _ w10.drew
    have hd10 : Hid (DigAt w10.drew d S.list xs3 0 n3) := HD10
    have hr10 : Hid (BAt w10.drew w.heap.size 53 (List.replicate 32 0)) := HR10
    have hg10 : Hid (BAt w10.drew g 53 Y6) := HG10
    have hb10 : Hid (But d w w10.drew) := HB10
    clear HD10 HR10 HG10 HB10 e6
    generalize w10.drew = w10 at *
    have HC10 := Lib.hid (fput32_any g 24 8 8 S.g _ _ _ _ w10 (by omega) (Nat.le_refl _) (by omega) (HOK.out.2.2.2.2.2.2.1).1 (HOK.out.2.2.2.2.2.2.1).2 (hg10.out.cell (j := 24) (by rw [HL6.out]; omega)) (hg10.out.cell (j := 25) (by rw [HL6.out]; omega)) (hg10.out.cell (j := 26) (by rw [HL6.out]; omega)) (hg10.out.cell (j := 27) (by rw [HL6.out]; omega)) (fun j => hg10.out.frozen j))
    go_wp2_with fail
    refine HC10.out.mono ?_
    rintro e w11 ⟨rfl, hw11⟩
    have HX10 : Hid (But g w10 w11) := Lib.hid (by rw [hw11]; exact put4_but _ _ _ _)
    have HD11 : Hid (DigAt w11 d S.list xs3 0 n3) := Lib.hid (hd10.out.but HX10.out (by omega))
    have HR11 : Hid (BAt w11 w.heap.size 53 (List.replicate 32 0)) := Lib.hid (hr10.out.but HX10.out (by omega))
    have HB11 : Hid (But d w w11) := Lib.hid (hb10.out.new HX10.out (by omega))
    have hg10' : BAt w11 g 53 (put4 Y6 24 S.g) := by rw [hw11]; exact put4_at hg10.out _ _
    obtain ⟨Y7, hY7⟩ : ∃ Y, Y = put4 Y6 24 S.g := ⟨_, rfl⟩
    rw [← hY7] at hg10'
    have HG11 := Lib.hid hg10'
    have HY7 := Lib.hid hY7
    have HL7 : Hid (Y7.length = 32) := Lib.hid (by rw [hY7]; simp [put4, HL6.out])
    clear hw11 hY7 hg10' hd10 hr10 hg10 hb10 HC10 HX10
    have u74 := (HD11.out.cell 74).1.trans (dig_flag HD11.out.1 HD11.out.2.1)
    go_wp2_with fail
    have e7 : w11.drew.cell? ⟨d, 7, none⟩ = some (.int .u32 S.h) := (HD11.out.cell 7).1.trans (dig_word (k := 7) rfl)
    go_still_tail 6, (by kernel_rfl)
    change wpList _ _ _ _ _ w11.drew
    have hd11 : Hid (DigAt w11.drew d S.list xs3 0 n3) := HD11
    have hr11 : Hid (BAt w11.drew w.heap.size 53 (List.replicate 32 0)) := HR11
    have hg11 : Hid (BAt w11.drew g 53 Y7) := HG11
    have hb11 : Hid (But d w w11.drew) := HB11
    clear HD11 HR11 HG11 HB11 e7
    generalize w11.drew = w11 at *
    have HC11 := Lib.hid (fput32_any g 28 4 4 S.h _ _ _ _ w11 (by omega) (Nat.le_refl _) (by omega) (HOK.out.2.2.2.2.2.2.2).1 (HOK.out.2.2.2.2.2.2.2).2 (hg11.out.cell (j := 28) (by rw [HL7.out]; omega)) (hg11.out.cell (j := 29) (by rw [HL7.out]; omega)) (hg11.out.cell (j := 30) (by rw [HL7.out]; omega)) (hg11.out.cell (j := 31) (by rw [HL7.out]; omega)) (fun j => hg11.out.frozen j))
    go_wp2_with fail
    refine HC11.out.mono ?_
    rintro e w12 ⟨rfl, hw12⟩
    have HX11 : Hid (But g w11 w12) := Lib.hid (by rw [hw12]; exact put4_but _ _ _ _)
    have HD12 : Hid (DigAt w12 d S.list xs3 0 n3) := Lib.hid (hd11.out.but HX11.out (by omega))
    have HR12 : Hid (BAt w12 w.heap.size 53 (List.replicate 32 0)) := Lib.hid (hr11.out.but HX11.out (by omega))
    have HB12 : Hid (But d w w12) := Lib.hid (hb11.out.new HX11.out (by omega))
    have hg11' : BAt w12 g 53 (put4 Y7 28 S.h) := by rw [hw12]; exact put4_at hg11.out _ _
    obtain ⟨Y8, hY8⟩ : ∃ Y, Y = put4 Y7 28 S.h := ⟨_, rfl⟩
    rw [← hY8] at hg11'
    have HG12 := Lib.hid hg11'
    have HY8 := Lib.hid hY8
    have HL8 : Hid (Y8.length = 32) := Lib.hid (by rw [hY8]; simp [put4, HL7.out])
    clear hw12 hY8 hg11' hd11 hr11 hg11 hb11 HC11 HX11
    have HFIN : Hid (sha ks msg = Y8) := Lib.hid (by
      unfold sha
      rw [HL.out, ← HSS.out]
      unfold shaOut
      rw [HY8.out, HY7.out, HY6.out, HY5.out, HY4.out, HY3.out, HY2.out, HY1.out, HY0.out])
    go_upto_region 24 with fail
    go_step
    refine wpList_load32 rfl (.tmp 7) rfl g rfl 53 Y8 HG12.out HL8.out ?_
    refine wpList_store32 rfl (.tmp 2) (.tmp 103) rfl w.heap.size Y8 rfl rfl 53 (List.replicate 32 0) HR12.out rfl HL8.out ?_
    intro w13 HR13 HX13
    have HB13 : Hid (But d w w13) := Lib.hid (HB12.out.new HX13.out (Nat.le_refl _))
    go_wp2_with fail
    try simp only [Exit.inBlock, Exit.then]
    refine bodyPost_ret (results_cell_row rfl _ _ w.heap.size 53 _ (0, 0) _ rfl HR13.out Tryd.underlying53 rfl (arr_h32 _ HL8.out)) rfl ?_
    exact ⟨by rw [HFIN.out], HB13.out, _, _, _, _, HD12.out.but HX13.out (by omega)⟩

end Go.Proofs.YtokopcbmpnnkcaaDoor
