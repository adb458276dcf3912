/- The contract of SHA-256's blockGeneric: the digest's words become the function 'sh' of the table's words, of the bytes and of the words before. Condition: the digest lies in one block. -/
import Derived.Test.YtokopcbmpnnkcaaDoorSha1
import Derived.BigQuiet
import Derived.BigRegion
import Derived.StillTailTactics
import Derived.Deep.CutRange
namespace Go.Proofs.YtokopcbmpnnkcaaDoor
open Go.RowKit

theorem arr64_info : (Tryd.prog.info? 128).map (fun i => i.zero) = some (some (.agg ((List.replicate 64 (0 : Int)).map (Value.int .u32)).toArray)) := by kernel_rfl
theorem arr64_zero (w : World) : (zeroValue 128).run Tryd.prog w = .ok (.agg ((List.replicate 64 (0 : Int)).map (Value.int .u32)).toArray) w := by
  obtain ⟨i, hi, hz⟩ := Option.map_eq_some_iff.1 arr64_info
  simp [zeroValue, typeInfo, hi, hz]

/-- a word of 32 bits -/
def W32 (x : Int) : Prop := 0 ≤ x ∧ x < 4294967296
structure R8 where
  a : Int
  b : Int
  c : Int
  d : Int
  e : Int
  f : Int
  g : Int
  h : Int
def R8.list (s : R8) : List Int := [s.a, s.b, s.c, s.d, s.e, s.f, s.g, s.h]
def R8.ok (s : R8) : Prop := W32 s.a ∧ W32 s.b ∧ W32 s.c ∧ W32 s.d ∧ W32 s.e ∧ W32 s.f ∧ W32 s.g ∧ W32 s.h
/-- how far RotateLeft32 turns -/
def rk (k : Int) : Nat := (bits BinOp.and IntKind.u64 (IntKind.u64.wrap k) 31).toNat
def rkOk (k : Int) : Bool := decide (bits BinOp.and IntKind.u64 (IntKind.u64.wrap k) 31 = ((rk k : Nat) : Int) ∧ 0 < rk k ∧ rk k < 32)
theorem rot_gen (x k : Int) (w : World) (h : W32 x) (hk : rkOk k = true) : Calls Tryd.prog 92 #[.int .u32 x, .int .i64 k] w fun e w' => e = .returned (.int .u32 (rot x (rk k))) ∧ w = w' := by
  obtain ⟨h1, h2, h3⟩ := of_decide_eq_true hk
  exact rot_any x k (rk k) w h.1 h.2 h1 h2 h3
/-- the words that a row of 64 holds -/
def WAt (w : World) (g : Nat) (ws : List Int) : Prop := ws.length = 64 ∧ (∀ x ∈ ws, W32 x) ∧ w.heap[g]? = some (.cells (ws.map (Value.int .u32)).toArray 128 (0, 0))
theorem WAt.cell {w : World} {g : Nat} {ws : List Int} (h : WAt w g ws) {i : Nat} (hi : i < 64) : w.cell? ⟨g, i, none⟩ = some (.int .u32 (ws.getD i 0)) ∧ w.frozen? ⟨g, i, none⟩ = false := by
  have : i < ws.length := by rw [h.1]; exact hi
  simp [World.cell?, World.frozen?, h.2.2, this]
theorem WAt.ok {w : World} {g : Nat} {ws : List Int} (h : WAt w g ws) {i : Nat} (hi : i < 64) : W32 (ws.getD i 0) := by
  have : i < ws.length := by rw [h.1]; exact hi
  simp [this]
  exact h.2.1 _ (List.getElem_mem _)

theorem wr64 {n : Int} (h : -9223372036854775808 ≤ n) (h' : n ≤ 9223372036854775807) : IntKind.i64.wrap n = n := by rw [IntKind.wrap_i64]; omega
/-- four bytes as a word -/
def wLoad (x0 x1 x2 x3 : Int) : Int := bits BinOp.or IntKind.u32 (bits BinOp.or IntKind.u32 (bits BinOp.or IntKind.u32 (x0 % 4294967296 * 16777216 % 4294967296) (x1 % 4294967296 * 65536 % 4294967296)) (x2 % 4294967296 * 256 % 4294967296)) (x3 % 4294967296)
def wMix (x2 x15 x7 x16 : Int) : Int := (((bits BinOp.xor IntKind.u32 (bits BinOp.xor IntKind.u32 (rot x2 (rk (-17))) (rot x2 (rk (-19)))) (x2 / 1024) + x7) % 4294967296 + bits BinOp.xor IntKind.u32 (bits BinOp.xor IntKind.u32 (rot x15 (rk (-7))) (rot x15 (rk (-18)))) (x15 / 8)) % 4294967296 + x16) % 4294967296
/-- the next word of the schedule -/
def wNew (bs ws : List Int) (i : Nat) : Int := if i < 16 then wLoad (bs.getD (i * 4) 0) (bs.getD (i * 4 + 1) 0) (bs.getD (i * 4 + 2) 0) (bs.getD (i * 4 + 3) 0) else wMix (ws.getD (i - 2) 0) (ws.getD (i - 15) 0) (ws.getD (i - 7) 0) (ws.getD (i - 16) 0)
theorem wLoad_fold (x0 x1 x2 x3 : Int) : bits BinOp.or IntKind.u32 (bits BinOp.or IntKind.u32 (bits BinOp.or IntKind.u32 (x0 % 4294967296 * 16777216 % 4294967296) (x1 % 4294967296 * 65536 % 4294967296)) (x2 % 4294967296 * 256 % 4294967296)) (x3 % 4294967296) = wLoad x0 x1 x2 x3 := rfl
theorem wMix_fold (x2 x15 x7 x16 : Int) : (((bits BinOp.xor IntKind.u32 (bits BinOp.xor IntKind.u32 (rot x2 (rk (-17))) (rot x2 (rk (-19)))) (x2 / 1024) + x7) % 4294967296 + bits BinOp.xor IntKind.u32 (bits BinOp.xor IntKind.u32 (rot x15 (rk (-7))) (rot x15 (rk (-18)))) (x15 / 8)) % 4294967296 + x16) % 4294967296 = wMix x2 x15 x7 x16 := rfl
theorem wNew_ok (bs ws : List Int) (i : Nat) : W32 (wNew bs ws i) := by
  unfold wNew
  split
  · exact ⟨bits_lo_u32 _ _ _, by have := bits_hi_u32 BinOp.or (bits BinOp.or IntKind.u32 (bits BinOp.or IntKind.u32 (bs.getD (i * 4) 0 % 4294967296 * 16777216 % 4294967296) (bs.getD (i * 4 + 1) 0 % 4294967296 * 65536 % 4294967296)) (bs.getD (i * 4 + 2) 0 % 4294967296 * 256 % 4294967296)) (bs.getD (i * 4 + 3) 0 % 4294967296); unfold wLoad; omega⟩
  · unfold wMix; exact ⟨by omega, by omega⟩
def t1Of (r : R8) (Ki V : Int) : Int := (r.h + bits BinOp.xor IntKind.u32 (bits BinOp.xor IntKind.u32 (rot r.e (rk (-6))) (rot r.e (rk (-11)))) (rot r.e (rk (-25))) + bits BinOp.xor IntKind.u32 (bits BinOp.and IntKind.u32 r.e r.f) (bits BinOp.and IntKind.u32 (bits BinOp.xor IntKind.u32 IntKind.u32.max r.e) r.g) + Ki + V) % 4294967296
def t2Of (r : R8) : Int := (bits BinOp.xor IntKind.u32 (bits BinOp.xor IntKind.u32 (rot r.a (rk (-2))) (rot r.a (rk (-13)))) (rot r.a (rk (-22))) + bits BinOp.xor IntKind.u32 (bits BinOp.xor IntKind.u32 (bits BinOp.and IntKind.u32 r.a r.b) (bits BinOp.and IntKind.u32 r.a r.c)) (bits BinOp.and IntKind.u32 r.b r.c)) % 4294967296
/-- one round -/
def rStep (r : R8) (Ki V : Int) : R8 := ⟨(t1Of r Ki V + t2Of r) % 4294967296, r.a, r.b, r.c, (r.d + t1Of r Ki V) % 4294967296, r.e, r.f, r.g⟩
theorem m32 (x : Int) : W32 (x % 4294967296) := ⟨by omega, by omega⟩
theorem rStep_ok {r : R8} (h : r.ok) (Ki V : Int) : (rStep r Ki V).ok := ⟨m32 _, h.1, h.2.1, h.2.2.1, m32 _, h.2.2.2.2.1, h.2.2.2.2.2.1, h.2.2.2.2.2.2.1⟩
/-- the registers and the schedule after i rounds -/
def canon (ks bs : List Int) (s : R8) : Nat → R8 × List Int
  | 0 => (s, List.replicate 64 0)
  | i + 1 => (rStep (canon ks bs s i).1 (ks.getD i 0) (wNew bs (canon ks bs s i).2 i), (canon ks bs s i).2.set i (wNew bs (canon ks bs s i).2 i))
theorem canon_len (ks bs : List Int) (s : R8) (i : Nat) : (canon ks bs s i).2.length = 64 := by
  induction i with
  | zero => rfl
  | succ i ih => simp [canon, ih]
theorem wNew_congr {bs bs' ws ws' : List Int} {i : Nat} (hb : i < 16 → ∀ j, j < 64 → bs.getD j 0 = bs'.getD j 0) (hw : ∀ j, j < i → ws.getD j 0 = ws'.getD j 0) : wNew bs ws i = wNew bs' ws' i := by
  unfold wNew
  split
  · next h => rw [hb h _ (by omega), hb h _ (by omega), hb h _ (by omega), hb h _ (by omega)]
  · next h => rw [hw _ (by omega), hw _ (by omega), hw _ (by omega), hw _ (by omega)]
theorem set_agree {ws ws' : List Int} {i : Nat} (hi : i < 64) (h1 : ws.length = 64) (h2 : ws'.length = 64) (h : ∀ j, j < i → ws.getD j 0 = ws'.getD j 0) (v : Int) : ∀ j, j < i + 1 → (ws.set i v).getD j 0 = (ws'.set i v).getD j 0 := by
  intro j hj
  by_cases hji : j = i
  · subst hji; simp [h1, h2, hi]
  · have := h j (by omega)
    simp only [List.getD_eq_getElem?_getD] at this ⊢
    rw [List.getElem?_set_ne (by omega), List.getElem?_set_ne (by omega)]
    exact this
theorem canon_congr {ks bs bs' : List Int} {s : R8} (h : ∀ j, j < 64 → bs.getD j 0 = bs'.getD j 0) (i : Nat) : canon ks bs s i = canon ks bs' s i := by
  induction i with
  | zero => rfl
  | succ i ih => simp only [canon, ih, wNew_congr (bs := bs) (bs' := bs') (ws := (canon ks bs' s i).2) (fun _ => h) (fun _ _ => rfl)]
/-- one block of 64 bytes -/
def blk (ks bs : List Int) (s : R8) : R8 := ⟨(s.a + (canon ks bs s 64).1.a) % 4294967296, (s.b + (canon ks bs s 64).1.b) % 4294967296, (s.c + (canon ks bs s 64).1.c) % 4294967296, (s.d + (canon ks bs s 64).1.d) % 4294967296, (s.e + (canon ks bs s 64).1.e) % 4294967296, (s.f + (canon ks bs s 64).1.f) % 4294967296, (s.g + (canon ks bs s 64).1.g) % 4294967296, (s.h + (canon ks bs s 64).1.h) % 4294967296⟩
theorem blk_ok (ks bs : List Int) (s : R8) : (blk ks bs s).ok := ⟨m32 _, m32 _, m32 _, m32 _, m32 _, m32 _, m32 _, m32 _⟩
/-- some blocks -/
def sh (ks bs : List Int) (s : R8) : Nat → R8
  | 0 => s
  | k + 1 => blk ks (bs.drop (64 * k)) (sh ks bs s k)
theorem bl_drewN {B : Nat} {w w' : World} (h : Below B w w') (n : Nat) : Below B w (w'.drewN n) := ⟨h.os, h.tape, h.output, h.size, h.block⟩
theorem getD_drop (bs : List Int) (n k : Nat) : (bs.drop n).getD k 0 = bs.getD (n + k) 0 := by simp [List.getD, List.getElem?_drop]
theorem WAt.set {w : World} {g : Nat} {ws : List Int} (h : WAt w g ws) {i : Nat} {v : Int} (hv : W32 v) : WAt (w.setCell ⟨g, i, none⟩ (.int .u32 v)) g (ws.set i v) := by
  refine ⟨by simpa using h.1, fun x hx => ?_, ?_⟩
  · rcases List.mem_or_eq_of_mem_set hx with hx | rfl
    · exact h.2.1 x hx
    · exact hv
  · rw [heap_setCell_same _ _ _ _ _ _ h.2.2]
    congr 2
    rw [List.setIfInBounds_toArray, List.map_set]
theorem WAt.below {w w' : World} {g B : Nat} {ws : List Int} (h : WAt w g ws) (hb : Below B w w') (hg : g < B) : WAt w' g ws := ⟨h.1, h.2.1, (hb.block g hg).trans h.2.2⟩

theorem But.drew {d : Nat} {w w' : World} (h : But d w w') : But d w w'.drew := h
theorem DigAt.drew {w : World} {d : Nat} {hs xs : List Int} {nx len : Int} (h : DigAt w d hs xs nx len) : DigAt w.drew d hs xs nx len := h
theorem But.of_below {d : Nat} {w w' : World} (h : Below w.heap.size w w') : But d w w' := ⟨h.os, h.tape, h.output, h.size, fun b hb _ => h.block b hb⟩

set_option maxHeartbeats 40000000 in
set_option maxRecDepth 100000 in
theorem block_any (d : Nat) (s0 : R8) (xs : List Int) (nx len : Int) (b off n cap : Nat) (ks bs : List Int) (w : World) (h : DigAt w d s0.list xs nx len) (hs0 : s0.ok) (hK : WAt w 4 ks)
    (_ : n ≤ cap) (_ : cap ≤ 9223372036854775807) (hb : b < w.heap.size) (hbl : bs.length = n) (hbs : ∀ j, j < n → w.cell? ⟨b, off + j, none⟩ = some (.int .u8 (bs.getD j 0))) :
    Calls Tryd.prog 60 #[.pointer (some ⟨d, 0, none⟩), .slice (some ⟨b, off, none⟩) n cap] w fun e w' => e = .returned (.tuple #[]) ∧ DigAt w' d (sh ks bs s0 (n / 64)).list xs nx len ∧ But d w w' := by
  have hd : d < w.heap.size := (Array.getElem?_eq_some_iff.1 h.2.2).1
  have c0 := (h.cell 0).1.trans (dig_word (k := 0) rfl)
  have c1 := (h.cell 1).1.trans (dig_word (k := 1) rfl)
  have c2 := (h.cell 2).1.trans (dig_word (k := 2) rfl)
  have c3 := (h.cell 3).1.trans (dig_word (k := 3) rfl)
  have c4 := (h.cell 4).1.trans (dig_word (k := 4) rfl)
  have c5 := (h.cell 5).1.trans (dig_word (k := 5) rfl)
  have c6 := (h.cell 6).1.trans (dig_word (k := 6) rfl)
  have c7 := (h.cell 7).1.trans (dig_word (k := 7) rfl)
  have hz := arr64_zero
  have HW : Hid (WAt (w.alloc (Obj.cells ((List.replicate 64 (0 : Int)).map (Value.int .u32)).toArray 128)) w.heap.size (List.replicate 64 0)) := Lib.hid ⟨rfl, fun x hx => by obtain rfl := (List.mem_replicate.1 hx).2; exact ⟨by omega, by omega⟩, heap_alloc_new w _⟩
  have hK0 : 4 < w.heap.size := (Array.getElem?_eq_some_iff.1 hK.2.2).1
  have HK := Lib.hid hK
  have HD := Lib.hid h
  have HBS := Lib.hid hbs
  have HS0 := Lib.hid hs0
  generalize hG : ((List.replicate 64 (0 : Int)).map (Value.int .u32)).toArray = G at *
  clear hG h hK hbs hs0
  go_enter Tryd.func60, Tryd.ntmps60
  go_wp2_with fail
  go_quiet (fail)
  go_wp2_with fail
  go_loopw [1, 5, 6, 7, 8, 9, 10, 11, 12] (fun p v0 v1 v2 v3 v4 v5 v6 v7 wr => ∃ (k o : Nat) (s : R8) (ws : List Int), p = .slice (some ⟨b, o, none⟩) (n - 64 * k) (cap - 64 * k) ∧ 64 * k ≤ n ∧ (64 * k < n → o = off + 64 * k) ∧ v0 = .int .u32 s.a ∧ v1 = .int .u32 s.b ∧ v2 = .int .u32 s.c ∧ v3 = .int .u32 s.d ∧ v4 = .int .u32 s.e ∧ v5 = .int .u32 s.f ∧ v6 = .int .u32 s.g ∧ v7 = .int .u32 s.h ∧ Hid s.ok ∧ Hid (WAt wr w.heap.size ws) ∧ Hid (Below w.heap.size w wr) ∧ Hid (s = sh ks bs s0 k)) (fun p _ _ _ _ _ _ _ _ _ => match p with | .slice _ m _ => m | _ => 0)
  case atStart => exact ⟨0, off, s0, List.replicate 64 0, rfl, Nat.zero_le _, fun _ => rfl, rfl, rfl, rfl, rfl, rfl, rfl, rfl, rfl, HS0, HW, Lib.hid (bl_drewN ((Below.refl _ _).alloc (Nat.le_refl _) _) nq), Lib.hid rfl⟩
  case round =>
    obtain ⟨k, o, s, ws, rfl, hk, ho, rfl, rfl, rfl, rfl, rfl, rfl, rfl, rfl, hsok, hws, hbw, hsh⟩ := hrel
    by_cases hlt : 64 ≤ n - 64 * k
    · obtain ⟨wo, hwo⟩ : ∃ wo, wo = wr := ⟨_, rfl⟩
      subst hwo
      have hltI : (64 : Int) ≤ ((n - 64 * k : Nat) : Int) := by omega
      have hltB : decide ((64 : Int) ≤ ((n - 64 * k : Nat) : Int)) = true := decide_eq_true hltI
      go_wp2_with fail
      go_loopw [13, 14, 15, 16, 17, 18, 19, 20, 80] (fun v0 v1 v2 v3 v4 v5 v6 v7 q wr => ∃ (i : Nat) (r : R8) (ws : List Int), q = .int .i64 i ∧ i ≤ 64 ∧ v0 = .int .u32 r.a ∧ v1 = .int .u32 r.b ∧ v2 = .int .u32 r.c ∧ v3 = .int .u32 r.d ∧ v4 = .int .u32 r.e ∧ v5 = .int .u32 r.f ∧ v6 = .int .u32 r.g ∧ v7 = .int .u32 r.h ∧ Hid r.ok ∧ Hid (WAt wr w.heap.size ws) ∧ Hid (Below w.heap.size w wr) ∧ Hid (r = (canon ks (bs.drop (64 * k)) s i).1 ∧ ∀ j, j < i → ws.getD j 0 = (canon ks (bs.drop (64 * k)) s i).2.getD j 0)) (fun _ _ _ _ _ _ _ _ q _ => 64 - (intOf q).toNat)
      case atStart => exact ⟨0, s, ws, rfl, by omega, rfl, rfl, rfl, rfl, rfl, rfl, rfl, rfl, hsok, hws, hbw, Lib.hid ⟨rfl, fun j hj => absurd hj (Nat.not_lt_zero j)⟩⟩
      case round =>
        obtain ⟨i, r, ws, rfl, hi, rfl, rfl, rfl, rfl, rfl, rfl, rfl, rfl, hrok, hws, hbw, hcan⟩ := hrel
        by_cases hi64 : i < 64
        · have cw := (hws.out.cell hi64).1
          have fzw := (hws.out.cell hi64).2
          obtain rfl : o = off + 64 * k := ho (by omega)
          go_upto_if 84 with fail
          go_cut [22, 23, 24, 25, 26] from 81 to 216 (fun _ _ _ _ _ wx => Hid (WAt wx w.heap.size (ws.set i (wNew (bs.drop (64 * k)) ws i))) ∧ Hid (Below w.heap.size w wx))
          case first =>
            by_cases hi16 : i < 16
            ·
              as_aux_lemma =>
                go_wp2_with fail
                obtain ⟨q, hq⟩ : ∃ q : Nat, (i : Int) * 4 = q := ⟨i * 4, by omega⟩
                have hqi : q = i * 4 := by omega
                have hby : ∀ j, j < 4 → wr.cell? ⟨b, off + 64 * k + (q + j), none⟩ = some (.int .u8 (bs.getD (64 * k + (q + j)) 0)) := fun j hj => by
                  have hx := HBS.out (64 * k + (q + j)) (by omega)
                  rw [Nat.add_assoc]
                  exact (hbw.out.cell (p := ⟨b, off + (64 * k + (q + j)), none⟩) hb).trans hx
                have e0 := hby 0 (by omega)
                have e1 := hby 1 (by omega)
                have e2 := hby 2 (by omega)
                have e3 := hby 3 (by omega)
                have HWN : Hid (wNew (bs.drop (64 * k)) ws i = wLoad (bs.getD (64 * k + (q + 0)) 0) (bs.getD (64 * k + (q + 1)) 0) (bs.getD (64 * k + (q + 2)) 0) (bs.getD (64 * k + (q + 3)) 0)) := Lib.hid (by unfold wNew; rw [if_pos hi16, getD_drop, getD_drop, getD_drop, getD_drop, hqi]; rfl)
                generalize bs.getD (64 * k + (q + 0)) 0 = x0 at *
                generalize bs.getD (64 * k + (q + 1)) 0 = x1 at *
                generalize bs.getD (64 * k + (q + 2)) 0 = x2 at *
                generalize bs.getD (64 * k + (q + 3)) 0 = x3 at *
                rw [Nat.add_zero] at e0
                have l0 : (q : Int) < ((n - 64 * k : Nat) : Int) := by omega
                have l1 : (q : Int) + 1 < ((n - 64 * k : Nat) : Int) := by omega
                have l2 : (q : Int) + 2 < ((n - 64 * k : Nat) : Int) := by omega
                have l3 : (q : Int) + 3 < ((n - 64 * k : Nat) : Int) := by omega
                have p1 : (0 : Int) ≤ (q : Int) + 1 := by omega
                have p2 : (0 : Int) ≤ (q : Int) + 2 := by omega
                have p3 : (0 : Int) ≤ (q : Int) + 3 := by omega
                have n1 : ((q : Int) + 1).toNat = q + 1 := by omega
                have n2 : ((q : Int) + 2).toNat = q + 2 := by omega
                have n3 : ((q : Int) + 3).toNat = q + 3 := by omega
                have r1 : IntKind.i64.wrap ((q : Int) + 1) = (q : Int) + 1 := wr64 (by omega) (by omega)
                have r2 : IntKind.i64.wrap ((q : Int) + 2) = (q : Int) + 2 := wr64 (by omega) (by omega)
                have r3 : IntKind.i64.wrap ((q : Int) + 3) = (q : Int) + 3 := wr64 (by omega) (by omega)
                clear hby
                rw [hq]
                clear hq hqi
                refine wp_region_still_tail 31 (by kernel_rfl) (by kernel_rfl) ?_
                simp only [List.take_succ_cons, List.take_zero, List.drop_succ_cons, List.drop_zero]
                repeat still_step
                refine wpStill_nil ?_
                change wpList _ _ _ _ _ wr.drew
                have H9 : Hid (WAt wr.drew w.heap.size ws) := hws
                have hb9 : Hid (Below w.heap.size w wr.drew) := Lib.hid hbw.out.drew
                have cw9 : wr.drew.cell? ⟨w.heap.size, i, none⟩ = some (.int .u32 (ws.getD i 0)) := cw
                have fz9 : wr.drew.frozen? ⟨w.heap.size, i, none⟩ = false := fzw
                generalize wr.drew = w9 at *
                clear l0 l1 l2 l3 p1 p2 p3 n1 n2 n3 r1 r2 r3 e0 e1 e2 e3 cw fzw
                go_wp2_with fail
                rw [wLoad_fold, ← HWN.out]
                go_meet
                exact ⟨Lib.hid (H9.out.set (wNew_ok _ _ _)), Lib.hid (hb9.out.setCell (Nat.le_refl _) _)⟩
            ·
              as_aux_lemma =>
                obtain ⟨j2, hj2⟩ : ∃ j : Nat, j = i - 2 := ⟨_, rfl⟩
                obtain ⟨j15, hj15⟩ : ∃ j : Nat, j = i - 15 := ⟨_, rfl⟩
                obtain ⟨j7, hj7⟩ : ∃ j : Nat, j = i - 7 := ⟨_, rfl⟩
                obtain ⟨j16, hj16⟩ : ∃ j : Nat, j = i - 16 := ⟨_, rfl⟩
                have c2 := (hws.out.cell (i := j2) (by omega)).1
                have c15 := (hws.out.cell (i := j15) (by omega)).1
                have c7' : wr.drew.cell? ⟨w.heap.size, j7, none⟩ = some (.int .u32 (ws.getD j7 0)) := (hws.out.cell (i := j7) (by omega)).1
                have c16 : wr.drew.cell? ⟨w.heap.size, j16, none⟩ = some (.int .u32 (ws.getD j16 0)) := (hws.out.cell (i := j16) (by omega)).1
                have k2 := hws.out.ok (i := j2) (by omega)
                have k15 := hws.out.ok (i := j15) (by omega)
                have HWN : Hid (wNew (bs.drop (64 * k)) ws i = wMix (ws.getD j2 0) (ws.getD j15 0) (ws.getD j7 0) (ws.getD j16 0)) := Lib.hid (by unfold wNew; rw [if_neg hi16, hj2, hj15, hj7, hj16])
                generalize ws.getD j2 0 = x2 at *
                generalize ws.getD j15 0 = x15 at *
                generalize ws.getD j7 0 = x7 at *
                generalize ws.getD j16 0 = x16 at *
                have a2 : (i : Int) - 2 = (j2 : Int) := by omega
                have a15 : (i : Int) - 15 = (j15 : Int) := by omega
                have a7 : (i : Int) - 7 = (j7 : Int) := by omega
                have a16 : (i : Int) - 16 = (j16 : Int) := by omega
                have m2 : IntKind.i64.wrap (j2 : Int) = j2 := wr64 (by omega) (by omega)
                have m15 : IntKind.i64.wrap (j15 : Int) = j15 := wr64 (by omega) (by omega)
                have m7 : IntKind.i64.wrap (j7 : Int) = j7 := wr64 (by omega) (by omega)
                have m16 : IntKind.i64.wrap (j16 : Int) = j16 := wr64 (by omega) (by omega)
                have l2 : (j2 : Int) < 64 := by omega
                have l15 : (j15 : Int) < 64 := by omega
                have l7 : (j7 : Int) < 64 := by omega
                have l16 : (j16 : Int) < 64 := by omega
                clear hj2 hj15 hj7 hj16
                go_wp2_with (go_at_call 92; refine (rot_gen _ _ _ (by assumption) (by kernel_rfl)).mono ?_; rintro e w' ⟨rfl, rfl⟩)
                go_still_tail 15, (by kernel_rfl)
                change wpList _ _ _ _ _ wr.drew
                have H9 : Hid (WAt wr.drew w.heap.size ws) := hws
                have hb9 : Hid (Below w.heap.size w wr.drew) := Lib.hid hbw.out.drew
                have cw9 : wr.drew.cell? ⟨w.heap.size, i, none⟩ = some (.int .u32 (ws.getD i 0)) := cw
                have fz9 : wr.drew.frozen? ⟨w.heap.size, i, none⟩ = false := fzw
                generalize wr.drew = w9 at *
                clear c2 c15 c7' c16 k2 k15 a2 a15 a7 a16 m2 m15 m7 m16 l2 l15 l7 l16 cw fzw
                go_wp2_with fail
                rw [wMix_fold, ← HWN.out]
                go_meet
                exact ⟨Lib.hid (H9.out.set (wNew_ok _ _ _)), Lib.hid (hb9.out.setCell (Nat.le_refl _) _)⟩
          case rest =>
            obtain ⟨HW10, hb10⟩ := hcut
            have hvok := wNew_ok (bs.drop (64 * k)) ws i
            obtain ⟨V, hV⟩ : ∃ V, V = wNew (bs.drop (64 * k)) ws i := ⟨_, rfl⟩
            rw [← hV] at hvok HW10
            have HV := Lib.hid hV
            clear hV cw fzw
            have cK : wc.cell? ⟨4, i, none⟩ = some (.int .u32 (ks.getD i 0)) := (hb10.out.cell (p := ⟨4, i, none⟩) hK0).trans (HK.out.cell hi64).1
            have cV : wc.cell? ⟨w.heap.size, i, none⟩ = some (.int .u32 V) := by
              rw [(HW10.out.cell hi64).1]
              have : i < ws.length := by rw [hws.out.1]; exact hi64
              simp [this]
            have hre : W32 r.e := hrok.out.2.2.2.2.1
            have hra : W32 r.a := hrok.out.1
            generalize hKi : ks.getD i 0 = Ki at *
            have HKi := Lib.hid hKi
            clear hKi
            obtain ⟨w10, hw10⟩ : ∃ w10, w10 = wc := ⟨_, rfl⟩
            subst hw10
            go_upto_region 15 with fail
            go_cut [27] from 81 to 216 (fun t wx => t = .int .u32 (t1Of r Ki V) ∧ Hid (WAt wx w.heap.size (ws.set i V)) ∧ Hid (Below w.heap.size w wx))
            case first =>
              as_aux_lemma =>
                go_quiet (first | (go_at_call 92; exact Calls.quiet_of_same ((rot_gen _ _ _ (by assumption) (by kernel_rfl)).mono (fun _ _ h => ⟨h.1, h.2.symm⟩))))
                go_wp2_with fail
                go_meet
                exact ⟨rfl, HW10, Lib.hid (bl_drewN hb10.out nq)⟩
            case rest =>
              obtain ⟨rfl, HW11, hb11⟩ := hcut
              clear HW10 hb10 cK cV
              obtain ⟨T1, hT1⟩ : ∃ T1, T1 = t1Of r Ki V := ⟨_, rfl⟩
              rw [← hT1]
              have HT1 := Lib.hid hT1
              clear hT1
              go_wp2_with (go_at_call 92; refine (rot_gen _ _ _ (by assumption) (by kernel_rfl)).mono ?_; rintro e w' ⟨rfl, rfl⟩)
              go_roundw
              case rel =>
                refine ⟨i + 1, rStep r Ki V, ws.set i V, by go_num, by omega, by rw [HT1.out]; rfl, rfl, rfl, rfl, by rw [HT1.out]; rfl, rfl, rfl, rfl, Lib.hid (rStep_ok hrok.out _ _), HW11, hb11, Lib.hid ⟨?_, ?_⟩⟩
                · show rStep r Ki V = rStep _ _ _
                  rw [← HKi.out, HV.out, ← hcan.out.1, wNew_congr (bs := bs.drop (64 * k)) (ws := ws) (fun _ _ _ => rfl) hcan.out.2]
                · show ∀ j, j < i + 1 → (ws.set i V).getD j 0 = (List.set _ i _).getD j 0
                  rw [HV.out, ← wNew_congr (bs := bs.drop (64 * k)) (ws := ws) (fun _ _ _ => rfl) hcan.out.2]
                  exact set_agree hi64 hws.out.1 (canon_len _ _ _ _) hcan.out.2 _
              case measure => simp [intOf]; omega
        · obtain rfl : i = 64 := by omega
          obtain rfl : o = off + 64 * k := ho (by omega)
          as_aux_lemma =>
            go_wp2_with fail
            go_roundw
            case rel =>
              have hs1 : (⟨(s.a + r.a) % 4294967296, (s.b + r.b) % 4294967296, (s.c + r.c) % 4294967296, (s.d + r.d) % 4294967296, (s.e + r.e) % 4294967296, (s.f + r.f) % 4294967296, (s.g + r.g) % 4294967296, (s.h + r.h) % 4294967296⟩ : R8) = sh ks bs s0 (k + 1) := by
                show _ = blk ks (bs.drop (64 * k)) (sh ks bs s0 k)
                rw [← hsh.out, blk, hcan.out.1]
              by_cases hc : cap - 64 * k = 64
              · exact ⟨k + 1, off + 64 * k, _, ws, by rw [if_pos hc, show n - 64 * k - 64 = n - 64 * (k + 1) by omega, show cap - 64 * k - 64 = cap - 64 * (k + 1) by omega], by omega, fun _ => by omega, rfl, rfl, rfl, rfl, rfl, rfl, rfl, rfl, Lib.hid ⟨m32 _, m32 _, m32 _, m32 _, m32 _, m32 _, m32 _, m32 _⟩, hws, hbw, Lib.hid hs1⟩
              · exact ⟨k + 1, off + 64 * k + 64, _, ws, by rw [if_neg hc, show n - 64 * k - 64 = n - 64 * (k + 1) by omega, show cap - 64 * k - 64 = cap - 64 * (k + 1) by omega], by omega, fun _ => by omega, rfl, rfl, rfl, rfl, rfl, rfl, rfl, rfl, Lib.hid ⟨m32 _, m32 _, m32 _, m32 _, m32 _, m32 _, m32 _, m32 _⟩, hws, hbw, Lib.hid hs1⟩
            case measure => simp only; omega
    · have hltI : ¬ (64 : Int) ≤ ((n - 64 * k : Nat) : Int) := by omega
      have hltB : decide ((64 : Int) ≤ ((n - 64 * k : Nat) : Int)) = false := decide_eq_false hltI
      have q0 : wr.cell? ⟨d, 0, none⟩ = some (.int .u32 s0.a) := (hbw.out.cell (p := ⟨d, 0, none⟩) hd).trans c0
      have q1 : wr.cell? ⟨d, 1, none⟩ = some (.int .u32 s0.b) := (hbw.out.cell (p := ⟨d, 1, none⟩) hd).trans c1
      have q2 : wr.cell? ⟨d, 2, none⟩ = some (.int .u32 s0.c) := (hbw.out.cell (p := ⟨d, 2, none⟩) hd).trans c2
      have q3 : wr.cell? ⟨d, 3, none⟩ = some (.int .u32 s0.d) := (hbw.out.cell (p := ⟨d, 3, none⟩) hd).trans c3
      have q4 : wr.cell? ⟨d, 4, none⟩ = some (.int .u32 s0.e) := (hbw.out.cell (p := ⟨d, 4, none⟩) hd).trans c4
      have q5 : wr.cell? ⟨d, 5, none⟩ = some (.int .u32 s0.f) := (hbw.out.cell (p := ⟨d, 5, none⟩) hd).trans c5
      have q6 : wr.cell? ⟨d, 6, none⟩ = some (.int .u32 s0.g) := (hbw.out.cell (p := ⟨d, 6, none⟩) hd).trans c6
      have q7 : wr.cell? ⟨d, 7, none⟩ = some (.int .u32 s0.h) := (hbw.out.cell (p := ⟨d, 7, none⟩) hd).trans c7
      have fz : ∀ j, wr.frozen? ⟨d, j, none⟩ = false := fun j => (hbw.out.frozen (p := ⟨d, j, none⟩) hd).trans (HD.out.cell j).2
      have HDW : Hid (DigAt ((((((((wr.setCell ⟨d, 0, none⟩ (.int .u32 s.a)).setCell ⟨d, 1, none⟩ (.int .u32 s.b)).setCell ⟨d, 2, none⟩ (.int .u32 s.c)).setCell ⟨d, 3, none⟩ (.int .u32 s.d)).setCell ⟨d, 4, none⟩ (.int .u32 s.e)).setCell ⟨d, 5, none⟩ (.int .u32 s.f)).setCell ⟨d, 6, none⟩ (.int .u32 s.g)).setCell ⟨d, 7, none⟩ (.int .u32 s.h)) d s.list xs nx len) := Lib.hid
        ((((((((HD.out.below hbw.out).setWord (k := 0) (by omega) s.a).setWord (k := 1) (by omega) s.b).setWord (k := 2) (by omega) s.c).setWord (k := 3) (by omega) s.d).setWord (k := 4) (by omega) s.e).setWord (k := 5) (by omega) s.f).setWord (k := 6) (by omega) s.g |>.setWord (k := 7) (by omega) s.h)
      have HBT : Hid (But d w ((((((((wr.setCell ⟨d, 0, none⟩ (.int .u32 s.a)).setCell ⟨d, 1, none⟩ (.int .u32 s.b)).setCell ⟨d, 2, none⟩ (.int .u32 s.c)).setCell ⟨d, 3, none⟩ (.int .u32 s.d)).setCell ⟨d, 4, none⟩ (.int .u32 s.e)).setCell ⟨d, 5, none⟩ (.int .u32 s.f)).setCell ⟨d, 6, none⟩ (.int .u32 s.g)).setCell ⟨d, 7, none⟩ (.int .u32 s.h))) := Lib.hid
        (((((((((But.of_below hbw.out).set 0 _).set 1 _).set 2 _).set 3 _).set 4 _).set 5 _).set 6 _).set 7 _)
      have HFIN : Hid (s = sh ks bs s0 (n / 64)) := Lib.hid (by have hk2 : n / 64 = k := by omega
                                                                rw [hk2]; exact hsh.out)
      clear hsh
      go_wp2_with fail
      go_region
      go_end0
      refine ⟨rfl, ?_, HBT.out.drew⟩
      rw [← HFIN.out]
      exact HDW.out.drew

end Go.Proofs.YtokopcbmpnnkcaaDoor
