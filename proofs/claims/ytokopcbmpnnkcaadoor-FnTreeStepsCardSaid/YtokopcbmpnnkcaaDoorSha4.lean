/- SHA-256's digest as a function of the bytes written to it, and the contract of its Write. Condition: the digest lies in one block, and the bytes do not lie in it. -/
import Derived.Test.YtokopcbmpnnkcaaDoorSha3
import Derived.Laws.CopyOwn
import Derived.OwnWalk
import Derived.Deep.CutRange
import Derived.StillTailTactics
namespace Go.Proofs.YtokopcbmpnnkcaaDoor
open Go.RowKit

def ini : R8 := ⟨1779033703, 3144134277, 1013904242, 2773480762, 1359893119, 2600822924, 528734635, 1541459225⟩
theorem ini_ok : ini.ok := by simp [ini, R8.ok, W32]
theorem sh_ok {ks bs : List Int} {s : R8} (h : s.ok) (k : Nat) : (sh ks bs s k).ok := by
  cases k with
  | zero => exact h
  | succ k => exact blk_ok _ _ _
theorem blk_congr {ks bs bs' : List Int} {s : R8} (h : ∀ j, j < 64 → bs.getD j 0 = bs'.getD j 0) : blk ks bs s = blk ks bs' s := by
  unfold blk; rw [canon_congr h]
theorem sh_congr {ks bs bs' : List Int} {s : R8} (k : Nat) (h : ∀ j, j < 64 * k → bs.getD j 0 = bs'.getD j 0) : sh ks bs s k = sh ks bs' s k := by
  induction k with
  | zero => rfl
  | succ k ih =>
    show blk _ _ _ = blk _ _ _
    rw [ih (fun j hj => h j (by omega)), blk_congr (bs := bs.drop (64 * k)) (bs' := bs'.drop (64 * k)) (fun j hj => by rw [getD_drop, getD_drop]; exact h _ (by omega))]
theorem sh_add (ks bs : List Int) (s : R8) (k m : Nat) : sh ks bs s (k + m) = sh ks (bs.drop (64 * k)) (sh ks bs s k) m := by
  induction m with
  | zero => rfl
  | succ m ih =>
    show blk ks (bs.drop (64 * (k + m))) (sh ks bs s (k + m)) = blk ks ((bs.drop (64 * k)).drop (64 * m)) (sh ks (bs.drop (64 * k)) (sh ks bs s k) m)
    rw [← ih, List.drop_drop, show 64 * k + 64 * m = 64 * (k + m) by omega]
theorem getD_app (a b : List Int) (j : Nat) (h : j < a.length) : (a ++ b).getD j 0 = a.getD j 0 := by
  simp [List.getD, List.getElem?_append_left h]
/-- more bytes behind: the first blocks stay -/
theorem sh_app (ks a b : List Int) (s : R8) (k : Nat) (h : 64 * k ≤ a.length) : sh ks (a ++ b) s k = sh ks a s k :=
  sh_congr k (fun j hj => getD_app a b j (by omega))
/-- whole blocks more -/
theorem sh_more (ks a b : List Int) (s : R8) (k m : Nat) (h : a.length = 64 * k) : sh ks (a ++ b) s (k + m) = sh ks b (sh ks a s k) m := by
  rw [sh_add, sh_app _ _ _ _ _ (by omega)]
  congr 1
  rw [← h]; simp

/-- the digest after some bytes; 'total' is what its length says -/
def DigMid (w : World) (d : Nat) (ks msg : List Int) (total : Int) : Prop := ∃ xs, DigAt w d (sh ks msg ini (msg.length / 64)).list xs ((msg.length % 64 : Nat) : Int) total ∧ xs.take (msg.length % 64) = msg.drop (64 * (msg.length / 64))
def DigFor (w : World) (d : Nat) (ks msg : List Int) : Prop := DigMid w d ks msg ((msg.length : Nat) : Int)

theorem andNot63 (x : Nat) (hx : x < 9223372036854775808) : bits BinOp.andNot IntKind.i64 (x : Int) 63 = ((64 * (x / 64) : Nat) : Int) := by
  show IntKind.i64.wrap ((BitVec.ofInt 64 (x : Int) &&& ~~~BitVec.ofInt 64 63).toNat : Int) = _
  have h1 : (~~~BitVec.ofInt 64 63).toNat = (2 ^ 58 - 1) <<< 6 := by decide
  have h2 : (BitVec.ofInt 64 (x : Int)).toNat = x := by
    rw [BitVec.toNat_ofInt]; omega
  have h3 : x &&& ((2 ^ 58 - 1) <<< 6) = 64 * (x / 64) := by
    rw [show 64 * (x / 64) = (x >>> 6) <<< 6 by rw [Nat.shiftLeft_eq, Nat.shiftRight_eq_div_pow]; omega]
    apply Nat.eq_of_testBit_eq
    intro i
    rw [Nat.testBit_and, Nat.testBit_shiftLeft, Nat.testBit_shiftLeft, Nat.testBit_shiftRight, Nat.testBit_two_pow_sub_one]
    by_cases hi : 6 ≤ i
    · rw [show 6 + (i - 6) = i by omega]
      by_cases hj : i < 64
      · simp [hi, show i - 6 < 58 by omega]
      · have : x.testBit i = false := Nat.testBit_lt_two_pow (Nat.lt_of_lt_of_le hx (by
          have : (2 : Nat) ^ 63 ≤ 2 ^ i := Nat.pow_le_pow_right (by omega) (by omega)
          omega))
        simp [this]
    · simp [hi]
  rw [BitVec.toNat_and, h1, h2, h3]
  exact wr64 (by omega) (by omega)

/-- bytes laid into the digest's buffer -/
def fillX (xs cs : List Int) (a : Nat) : List Int := xs.take a ++ (cs ++ xs.drop (a + cs.length))
theorem fill_cells (hs xs cs : List Int) (nx len : Int) (a : Nat) (h1 : hs.length = 8) (h2 : xs.length = 64) (h : a + cs.length ≤ 64) :
    (digCells hs xs nx len).take (8 + a) ++ (cs.map (Value.int .u8) ++ (digCells hs xs nx len).drop (8 + a + cs.length)) = digCells hs (fillX xs cs a) nx len := by
  unfold digCells fillX
  have e8 : (hs.map (Value.int .u32)).length = 8 := by simpa using h1
  rw [List.take_append, List.drop_append, e8, List.take_of_length_le (by rw [e8]; omega), List.drop_eq_nil_of_le (by rw [e8]; omega)]
  rw [show 8 + a - 8 = a by omega, show 8 + a + cs.length - 8 = a + cs.length by omega]
  rw [List.take_append_of_le_length (by simp [h2]; omega), List.drop_append_of_le_length (by simp [h2]; omega)]
  simp [List.map_take, List.map_drop]
theorem fill_len {xs cs : List Int} {a : Nat} (h2 : xs.length = 64) (h : a + cs.length ≤ 64) : (fillX xs cs a).length = 64 := by
  simp [fillX, h2]; omega
theorem DigAt.fill {w : World} {d : Nat} {hs xs : List Int} {nx len : Int} (h : DigAt w d hs xs nx len) (cs : List Int) (a : Nat) (hc : a + cs.length ≤ 64) :
    DigAt (w.setRow d ((digCells hs xs nx len).toArray.toList.take (8 + a) ++ ((cs.map (Value.int .u8)) ++ (digCells hs xs nx len).toArray.toList.drop (8 + a + (cs.map (Value.int .u8)).length))).toArray) d hs (fillX xs cs a) nx len := by
  refine ⟨h.1, fill_len h.2.1 hc, ?_⟩
  rw [setRow_heap w d _ _ _ _ h.2.2]
  congr 2
  rw [List.length_map]
  exact congrArg List.toArray (fill_cells hs xs cs nx len a h.1 h.2.1 hc)
theorem But.setRow {g : Nat} {w w1 : World} (h : But g w w1) (cs : Array Value) : But g w (w1.setRow g cs) :=
  ⟨h.1, h.2.1, h.2.2.1, by simpa [World.setRow] using h.2.2.2.1, fun b hlt hne => by rw [setRow_other _ _ _ _ (fun e => hne e)]; exact h.2.2.2.2 b hlt hne⟩

theorem fill_take {xs cs : List Int} {a : Nat} (h2 : xs.length = 64) (h : a + cs.length ≤ 64) : (fillX xs cs a).take (a + cs.length) = xs.take a ++ cs := by
  unfold fillX
  rw [← List.append_assoc, List.take_append_of_le_length (by simp [h2]; omega)]
  exact List.take_of_length_le (by simp [h2]; omega)
theorem mid_fill {w : World} {d : Nat} {ks msg xs cs : List Int} {L nx M : Nat} {a tot : Int} (hL : msg.length = L) (hnx : nx = L % 64) (hM : cs.length = M) (hlt : nx + M < 64) (hxs : xs.take (L % 64) = msg.drop (64 * (L / 64)))
    (ha : a = ((nx + M : Nat) : Int)) (hlx : xs.length = 64) (h : DigAt w d (sh ks msg ini (L / 64)).list (fillX xs cs nx) a tot) : DigMid w d ks (msg ++ cs) tot := by
  have e1 : (msg ++ cs).length = L + M := by simp [hL, hM]
  have e2 : (L + M) / 64 = L / 64 := by omega
  have e3 : (L + M) % 64 = nx + M := by omega
  refine ⟨fillX xs cs nx, ?_, ?_⟩
  · rw [e1, e2, e3, sh_app _ _ _ _ _ (by omega), ← ha]; exact h
  · rw [e1, e2, e3, ← hM, fill_take hlx (by omega), hnx, hxs, List.drop_append_of_le_length (by omega)]
theorem mid_block {w : World} {d : Nat} {ks msg xs cs : List Int} {L nx M : Nat} {tot : Int} (hL : msg.length = L) (hnx : nx = L % 64) (hM : cs.length = M) (hlt : nx + M = 64) (hxs : xs.take (L % 64) = msg.drop (64 * (L / 64)))
    (hlx : xs.length = 64) (h : DigAt w d (sh ks (fillX xs cs nx) (sh ks msg ini (L / 64)) (64 / 64)).list (fillX xs cs nx) 0 tot) : DigMid w d ks (msg ++ cs) tot := by
  have e1 : (msg ++ cs).length = L + M := by simp [hL, hM]
  have e2 : (L + M) / 64 = L / 64 + 1 := by omega
  have e3 : (L + M) % 64 = 0 := by omega
  have e4 : (msg ++ cs).drop (64 * (L / 64)) = fillX xs cs nx := by
    rw [List.drop_append_of_le_length (by omega), ← hxs]
    have := fill_take (xs := xs) (cs := cs) (a := nx) hlx (by omega)
    rw [hM, hlt, List.take_of_length_le (by rw [fill_len hlx (by omega)]; exact Nat.le_refl _)] at this
    rw [this, hnx]
  refine ⟨fillX xs cs nx, ?_, ?_⟩
  · rw [e1, e2, e3, sh_add, sh_app _ _ _ _ _ (by omega), e4]; exact h
  · rw [e1, e2, e3]; simp [hL, hM]; omega
theorem mid_blocks {w : World} {d : Nat} {ks msg xs cs : List Int} {L n : Nat} {tot : Int} (hL : msg.length = L) (h64 : L % 64 = 0) (hM : cs.length = n) (hn : n % 64 = 0)
    (h : DigAt w d (sh ks cs (sh ks msg ini (L / 64)) (n / 64)).list xs ((L % 64 : Nat) : Int) tot) : DigMid w d ks (msg ++ cs) tot := by
  have e1 : (msg ++ cs).length = L + n := by simp [hL, hM]
  have e2 : (L + n) / 64 = L / 64 + n / 64 := by omega
  have e3 : (L + n) % 64 = 0 := by omega
  refine ⟨xs, ?_, ?_⟩
  · rw [e1, e2, e3, sh_more _ _ _ _ _ _ (by omega)]
    rw [h64] at h; exact h
  · rw [e1, e2, e3]; simp; omega
theorem dig_byte {hs xs : List Int} {nx len : Int} {j : Nat} (h1 : hs.length = 8) (h2 : xs.length = 64) (hj : j < 64) : (digCells hs xs nx len)[8 + j]? = some (.int .u8 (xs.getD j 0)) := by
  have hj' : j < xs.length := by omega
  unfold digCells
  rw [List.getElem?_append_right (by simp; omega), List.getElem?_append_left (by simp; omega)]
  simp [h1, hj']
theorem WAt.but {w w' : World} {g d : Nat} {ws : List Int} (h : WAt w g ws) (hb : But d w w') (hg : g ≠ d) : WAt w' g ws :=
  ⟨h.1, h.2.1, (hb.2.2.2.2 g (Array.getElem?_eq_some_iff.1 h.2.2).1 hg).trans h.2.2⟩
theorem But.trans {d : Nat} {a b c : World} (h : But d a b) (k : But d b c) : But d a c :=
  ⟨k.1.trans h.1, k.2.1.trans h.2.1, k.2.2.1.trans h.2.2.1, Nat.le_trans h.2.2.2.1 k.2.2.2.1, fun x hx hne => (k.2.2.2.2 x (Nat.lt_of_lt_of_le hx h.2.2.2.1) hne).trans (h.2.2.2.2 x hx hne)⟩
theorem But.cell {d : Nat} {w w' : World} (h : But d w w') {p : Addr} (hp : p.block < w.heap.size) (hne : p.block ≠ d) : w'.cell? p = w.cell? p := World.cell?_of_block (w := w) (h.2.2.2.2 p.block hp hne)
/-- the cells that a copy reads -/
theorem src_cells {w : World} {b off : Nat} {cs : List Int} (h : ∀ j, j < cs.length → w.cell? ⟨b, off + j, none⟩ = some (.int .u8 (cs.getD j 0))) : ∀ j v, (cs.map (Value.int .u8))[j]? = some v → w.cell? ((⟨b, off, none⟩ : Addr).add j) = some v := by
  intro j v hv
  rw [List.getElem?_map] at hv
  obtain ⟨x, hx, rfl⟩ := Option.map_eq_some_iff.1 hv
  have hj : j < cs.length := (List.getElem?_eq_some_iff.1 hx).1
  rw [Addr.add_lit, h j hj]
  simp [hx]
theorem cutAt (b off cap k : Nat) : ∃ A : Nat, (if cap = k then (some ⟨b, off, none⟩ : Option Addr) else some ⟨b, off + k, none⟩) = some ⟨b, A, none⟩ ∧ Hid (k < cap → A = off + k) := by
  by_cases h : cap = k
  · exact ⟨off, by rw [if_pos h], Lib.hid (fun h' => by omega)⟩
  · exact ⟨off + k, by rw [if_neg h], Lib.hid (fun _ => rfl)⟩
theorem wr_arith' (B N k n cap L off A : Nat) (hB : B % 64 = 0) (h1 : n ≤ N - k) (h3 : n = 64 * ((N - k) / 64)) (hc : N ≤ cap) (hL : (L + k) % 64 = 0) (hA : B < cap - k → A = off + k + B) (h2 : B < n) :
    ∃ k2 n2, k2 ≤ N ∧ 64 ≤ N - k2 ∧ N - k - B = N - k2 ∧ cap - k - B = cap - k2 ∧ (k2 < N → A = off + k2) ∧ ((L + k2) % 64 = 0 ∧ n2 = 64 * ((N - k2) / 64)) ∧ (n : Int) - (B : Nat) = (n2 : Int) ∧ k + B = k2 := by
  refine ⟨k + B, n - B, by omega, by omega, by omega, by omega, fun _ => ?_, ⟨by omega, by omega⟩, by omega, rfl⟩
  have := hA (by omega)
  omega
theorem wr_arith (N k n cap L off A : Nat) (h1 : n ≤ N - k) (h3 : n = 64 * ((N - k) / 64)) (hc : N ≤ cap) (hL : (L + k) % 64 = 0) (hA : 65536 < cap - k → A = off + k + 65536) (h2 : 65536 < n) :
    ∃ k2 n2, k2 ≤ N ∧ 64 ≤ N - k2 ∧ N - k - 65536 = N - k2 ∧ cap - k - 65536 = cap - k2 ∧ (k2 < N → A = off + k2) ∧ ((L + k2) % 64 = 0 ∧ n2 = 64 * ((N - k2) / 64)) ∧ (n : Int) - 65536 = (n2 : Int) ∧ k + 65536 = k2 :=
  wr_arith' 65536 N k n cap L off A (by decide) h1 h3 hc hL hA h2
theorem size_byte : (Tryd.prog.info? 5).map (·.size) = some 1 := by kernel_rfl
theorem wpList_copy_dig {ops : Array Oper} {rest : List Oper} {o : Oper} {a : Act} {Q : Exit → Act → World → Prop} {w w0 : World} (hgd : o.guard = none) (dd s : Operand)
    (ho : o.op = .call { callee := .builtin .copy, args := #[dd, s], argTypes := #[23, 23] }) (d : Nat) (hs xs : List Int) (nx len : Int) (A : Nat)
    (hd : a.eval dd = .slice (some ⟨d, 8 + A, none⟩) (64 - A) (64 - A)) (ad : Addr) (sLen sCap : Nat) (hsv : a.eval s = .slice (some ad) sLen sCap) (hD : DigAt w d hs xs nx len) (hB : But d w0 w)
    (cs : List Int) (M : Nat) (hM : cs.length = M) (hn : M = Nat.min sLen (64 - A)) (hA : A ≤ 64) (hsrc : ∀ j v, (cs.map (Value.int .u8))[j]? = some v → w.cell? (ad.add j) = some v)
    (h : ∀ w', Hid (DigAt w' d hs (fillX xs cs A) nx len) → Hid (But d w0 w') → wpList Tryd.prog ops Q rest (a.put o.dst (goInt M)) w') : wpList Tryd.prog ops Q (o :: rest) a w := by
  have hfit : A + cs.length ≤ 64 := by
    have : Nat.min sLen (64 - A) ≤ 64 - A := Nat.min_le_right _ _
    omega
  refine wpList_copy_own hgd dd s 23 23 ho 5 Tryd.underlying23 size_byte d (8 + A) (64 - A) (64 - A) ad sLen sCap hd hsv _ _ hD.2.2 (cs.map (Value.int .u8)) (by rw [List.length_map, hM, hn]) hsrc ?_ ?_ ?_
  · rw [List.length_map]; simp [digCells, hD.1, hD.2.1]; omega
  · intro v hv
    obtain ⟨x, _, rfl⟩ := List.mem_map.1 hv
    rfl
  · have := h _ (Lib.hid (hD.fill cs A hfit)) (Lib.hid (hB.setRow _))
    rw [List.length_map, hM]
    rw [List.length_map, hM] at this
    exact this

theorem wpList_copy_dig0 {ops : Array Oper} {rest : List Oper} {o : Oper} {a : Act} {Q : Exit → Act → World → Prop} {w w0 : World} (hgd : o.guard = none) (dd s : Operand)
    (ho : o.op = .call { callee := .builtin .copy, args := #[dd, s], argTypes := #[23, 23] }) (d : Nat) (hs xs : List Int) (nx len : Int)
    (hd : a.eval dd = .slice (some ⟨d, 8, none⟩) 64 64) (ad : Addr) (sLen sCap : Nat) (hsv : a.eval s = .slice (some ad) sLen sCap) (hD : DigAt w d hs xs nx len) (hB : But d w0 w)
    (cs : List Int) (M : Nat) (hM : cs.length = M) (hn : M = Nat.min sLen 64) (hsrc : ∀ j v, (cs.map (Value.int .u8))[j]? = some v → w.cell? (ad.add j) = some v)
    (h : ∀ w', Hid (DigAt w' d hs (fillX xs cs 0) nx len) → Hid (But d w0 w') → wpList Tryd.prog ops Q rest (a.put o.dst (goInt M)) w') : wpList Tryd.prog ops Q (o :: rest) a w :=
  wpList_copy_dig hgd dd s ho d hs xs nx len 0 hd ad sLen sCap hsv hD hB cs M hM hn (Nat.zero_le _) hsrc h

theorem sblock_any (d : Nat) (s0 : R8) (xs : List Int) (nx len : Int) (b off n cap : Nat) (ks bs : List Int) (w : World) (h : DigAt w d s0.list xs nx len) (hs0 : s0.ok) (hK : WAt w 4 ks)
    (hn : n ≤ cap) (hcap : cap ≤ 9223372036854775807) (hb : b < w.heap.size) (hbl : bs.length = n) (hbs : ∀ j, j < n → w.cell? ⟨b, off + j, none⟩ = some (.int .u8 (bs.getD j 0))) :
    Calls Tryd.prog 87 #[.pointer (some ⟨d, 0, none⟩), .slice (some ⟨b, off, none⟩) n cap] w fun e w' => e = .returned (.tuple #[]) ∧ DigAt w' d (sh ks bs s0 (n / 64)).list xs nx len ∧ But d w w' := by
  have HB := Lib.hid (block_any d s0 xs nx len b off n cap ks bs w h hs0 hK hn hcap hb hbl hbs)
  clear h hs0 hK hbs hbl
  go_enter Tryd.func87, Tryd.ntmps87
  go_wp2_with fail
  refine HB.out.mono ?_
  rintro e w' ⟨rfl, h1, h2⟩
  go_wp2_with fail
  go_end0
  exact ⟨rfl, h1, h2⟩

theorem sblock_take (d : Nat) (ks msg p : List Int) (L N k n : Nat) (tot : Int) (hL : msg.length = L) (hN : p.length = N) (hkn : k + n ≤ N) (h64 : (L + k) % 64 = 0) (hn64 : n % 64 = 0) (b o cap : Nat) (w : World) (h : DigMid w d ks (msg ++ p.take k) tot) (hK : WAt w 4 ks)
    (hn : n ≤ cap) (hcap : cap ≤ 9223372036854775807) (hb : b < w.heap.size) (hbs : ∀ j, j < n → w.cell? ⟨b, o + j, none⟩ = some (.int .u8 (p.getD (k + j) 0))) :
    Calls Tryd.prog 87 #[.pointer (some ⟨d, 0, none⟩), .slice (some ⟨b, o, none⟩) n cap] w fun e w' => e = .returned (.tuple #[]) ∧ DigMid w' d ks (msg ++ p.take (k + n)) tot ∧ But d w w' := by
  have e1 : (msg ++ p.take k).length = L + k := by simp [hL, hN]; omega
  have e2 : ((p.drop k).take n).length = n := by simp [hN]; omega
  obtain ⟨xs, hd, _⟩ := h
  rw [e1] at hd
  refine (sblock_any d _ xs _ _ b o n cap ks ((p.drop k).take n) w hd (sh_ok ini_ok _) hK hn hcap hb e2 (fun j hj => ?_)).mono ?_
  · rw [hbs j hj]
    simp [hj, List.getElem?_drop]
  · rintro e w' ⟨he, h1, h2⟩
    refine ⟨he, ?_, h2⟩
    rw [List.take_add, ← List.append_assoc]
    exact mid_blocks e1 h64 e2 hn64 h1
set_option maxHeartbeats 8000000 in
set_option maxRecDepth 20000 in
theorem write_some (d : Nat) (ks msg p : List Int) (L N : Nat) (hL : msg.length = L) (hN : p.length = N) (b off cap : Nat) (w : World) (h : DigFor w d ks msg) (hK : WAt w 4 ks) (hdK : d ≠ 4)
    (hn : N ≤ cap) (hcap : cap ≤ 9223372036854775807) (hb : b < w.heap.size) (hbd : b ≠ d) (hbs : ∀ j, j < N → w.cell? ⟨b, off + j, none⟩ = some (.int .u8 (p.getD j 0))) (htot : L + N < 1152921504606846976) :
    Calls Tryd.prog 84 #[.pointer (some ⟨d, 0, none⟩), .slice (some ⟨b, off, none⟩) N cap] w fun e w' => e = .returned (.tuple #[.int .i64 (N : Int), .nilIface]) ∧ DigFor w' d ks (msg ++ p) ∧ But d w w' := by
  obtain ⟨xs, hdig, hxs⟩ := h
  rw [hL] at hdig hxs
  obtain ⟨t2, t3, t4⟩ := dig_tail (nx := ((L % 64 : Nat) : Int)) (len := (L : Int)) hdig.1 hdig.2.1
  have c72 := (hdig.cell 72).1.trans t2
  have c73 := (hdig.cell 73).1.trans t3
  have fz : ∀ k, w.frozen? ⟨d, k, none⟩ = false := fun k => (hdig.cell k).2
  have hd : d < w.heap.size := (Array.getElem?_eq_some_iff.1 hdig.2.2).1
  have HD := Lib.hid hdig
  have HX := Lib.hid hxs
  have HK := Lib.hid hK
  have HBS := Lib.hid hbs
  have HL := Lib.hid hL
  have HN := Lib.hid hN
  have HTOT : Hid (∀ wx, DigMid wx d ks (msg ++ p) ((L : Int) + (N : Int)) → DigFor wx d ks (msg ++ p)) := Lib.hid (fun wx hx => by
    unfold DigFor
    rw [List.length_append, hL, hN, Int.natCast_add]
    exact hx)
  obtain ⟨nx, hnx⟩ : ∃ nx, nx = L % 64 := ⟨_, rfl⟩
  have hnx64 : nx < 64 := by omega
  rw [← hnx] at c72
  have HNX := Lib.hid hnx
  clear hL hN hdig hxs hK hbs t2 t3 t4 hnx
  go_enter Tryd.func84, Tryd.ntmps84
  go_upto_if 23 with fail
  have HD2 : Hid (DigAt (w.setCell ⟨d, 73, none⟩ (.int .u64 ((L : Int) + (N : Int)))) d (sh ks msg ini (L / 64)).list xs ((L % 64 : Nat) : Int) ((L : Int) + (N : Int))) := Lib.hid (HD.out.setLen _)
  have HB2 : Hid (But d w (w.setCell ⟨d, 73, none⟩ (.int .u64 ((L : Int) + (N : Int))))) := Lib.hid ((But.refl d w).set 73 _)
  generalize w.setCell ⟨d, 73, none⟩ (.int .u64 ((L : Int) + (N : Int))) = w2 at *
  go_cut [1, 6] from 23 to 94 (fun pv _ wx => ∃ (k o : Nat), k ≤ N ∧ pv = .slice (some ⟨b, o, none⟩) (N - k) (cap - k) ∧ (k < N → o = off + k) ∧ ((L + k) % 64 = 0 ∨ k = N) ∧ Hid (DigMid wx d ks (msg ++ p.take k) ((L : Int) + (N : Int))) ∧ Hid (But d w wx))
  case first =>
    by_cases h0 : 0 < nx
    · obtain ⟨t2, _, _⟩ := dig_tail (nx := ((L % 64 : Nat) : Int)) (len := (L : Int) + (N : Int)) HD2.out.1 HD2.out.2.1
      have c72' := (HD2.out.cell 72).1.trans t2
      rw [← HNX.out] at c72'
      have d72 : w2.drew.cell? ⟨d, 72, none⟩ = some (.int .i64 (nx : Int)) := c72'
      clear t2
      go_wp2_with fail
      have s1 : (nx : Int) ≤ 64 := by omega
      have s2 : ¬ 64 = nx := by omega
      have s3 : ¬ nx = 64 := by omega
      have s4 : nx ≤ 64 := by omega
      go_still_tail 9, (by kernel_rfl)
      change wpList _ _ _ _ _ w2.drew
      have HD2d : Hid (DigAt w2.drew d (sh ks msg ini (L / 64)).list xs ((L % 64 : Nat) : Int) ((L : Int) + (N : Int))) := HD2
      have HB2d : Hid (But d w w2.drew) := HB2
      have hsrc2 : ∀ j, j < N → w2.drew.cell? ⟨b, off + j, none⟩ = some (.int .u8 (p.getD j 0)) := fun j hj => (HB2d.out.cell (p := ⟨b, off + j, none⟩) hb hbd).trans (HBS.out j hj)
      have HSRC := Lib.hid hsrc2
      clear hsrc2 d72 c72' HD2 HB2
      generalize w2.drew = w2 at *
      rcases Nat.lt_or_ge N (64 - nx) with hcase | hcase
      · have HS2 := Lib.hid (src_cells (w := w2) (b := b) (off := off) (cs := p) (fun j hj => HSRC.out j (by rw [HN.out] at hj; exact hj)))
        refine wpList_copy_dig rfl (.tmp 31) (.tmp 32) rfl d _ xs _ _ nx rfl ⟨b, off, none⟩ N cap rfl HD2d.out HB2d.out p N HN.out (Nat.min_eq_left (by omega)).symm (by omega) HS2.out ?_
        intro w3 HD3 HB3
        obtain ⟨t2, _, _⟩ := dig_tail (nx := ((L % 64 : Nat) : Int)) (len := (L : Int) + (N : Int)) HD3.out.1 HD3.out.2.1
        have e72 := (HD3.out.cell 72).1.trans t2
        rw [← HNX.out] at e72
        have f72 := (HD3.out.cell 72).2
        clear t2
        have HM : Hid (DigMid (w3.setCell ⟨d, 72, none⟩ (.int .i64 ((nx : Int) + (N : Int)))) d ks (msg ++ p.take N) ((L : Int) + (N : Int))) := Lib.hid (by
          rw [List.take_of_length_le (by rw [HN.out]; exact Nat.le_refl _)]
          exact mid_fill HL.out HNX.out HN.out (by omega) HX.out (by omega) HD.out.2.1 (HD3.out.setNx _))
        have HB4 : Hid (But d w (w3.setCell ⟨d, 72, none⟩ (.int .i64 ((nx : Int) + (N : Int))))) := Lib.hid (HB3.out.set 72 _)
        have hne : ¬ ((nx : Int) + (N : Int) = 64) := by omega
        have hneb : ((nx : Int) + (N : Int) == 64) = false := by simp [hne]
        obtain ⟨A, hA, _⟩ := cutAt b off cap N
        go_wp2_with fail
        go_meet
        exact ⟨N, A, Nat.le_refl _, by rw [Nat.sub_self], fun h => absurd h (by omega), .inr rfl, HM, HB4⟩
      · obtain ⟨M, hM⟩ : ∃ M, M = 64 - nx := ⟨_, rfl⟩
        have hMN : M ≤ N := by omega
        have hMl : (p.take M).length = M := by rw [List.length_take, HN.out]; omega
        have HMl := Lib.hid hMl
        have hsum : (nx : Int) + (M : Int) = 64 := by omega
        have HS2 := Lib.hid (src_cells (w := w2) (b := b) (off := off) (cs := p.take M) (fun j hj => by
          rw [hMl] at hj
          rw [HSRC.out j (by omega)]
          simp [hj]))
        clear hMl
        refine wpList_copy_dig rfl (.tmp 31) (.tmp 32) rfl d _ xs _ _ nx rfl ⟨b, off, none⟩ N cap rfl HD2d.out HB2d.out (p.take M) M HMl.out (by rw [← hM]; exact (Nat.min_eq_right (by omega)).symm) (by omega) HS2.out ?_
        intro w3 HD3 HB3
        obtain ⟨t2, _, _⟩ := dig_tail (nx := ((L % 64 : Nat) : Int)) (len := (L : Int) + (N : Int)) HD3.out.1 HD3.out.2.1
        have e72 := (HD3.out.cell 72).1.trans t2
        rw [← HNX.out] at e72
        have f72 := (HD3.out.cell 72).2
        clear t2
        have HD4 := Lib.hid (HD3.out.setNx 64)
        have HB4 := Lib.hid (HB3.out.set 72 (.int .i64 64))
        have HC4 := Lib.hid (sblock_any d _ _ _ _ d 8 64 64 ks (fillX xs (p.take M) nx) _ HD4.out (sh_ok ini_ok _) (HK.out.but HB4.out (fun e => hdK e.symm)) (Nat.le_refl _) (by omega) (by
            have := HB4.out.2.2.2.1
            omega) (fill_len HD.out.2.1 (by rw [HMl.out]; omega)) (fun j hj => (HD4.out.cell (8 + j)).1.trans (dig_byte HD4.out.1 HD4.out.2.1 hj)))
        have HOM : Hid (nx + M = 64) := Lib.hid (by omega)
        clear hM
        obtain ⟨A, hA, HA⟩ := cutAt b off cap M
        go_wp2_with (go_at_call 87; refine HC4.out.mono ?_; rintro e w5 ⟨rfl, HD5, HB5⟩; obtain ⟨u2, _, _⟩ := dig_tail (nx := (64 : Int)) (len := (L : Int) + (N : Int)) HD5.1 HD5.2.1; have g72 := (HD5.cell 72).1.trans u2; have gf72 := (HD5.cell 72).2; clear u2; have HM : Hid (DigMid (w5.setCell ⟨d, 72, none⟩ (.int .i64 0)) d ks (msg ++ p.take M) ((L : Int) + (N : Int))) := Lib.hid (mid_block HL.out HNX.out HMl.out HOM.out HX.out HD.out.2.1 (HD5.setNx 0)); have HB6 : Hid (But d w (w5.setCell ⟨d, 72, none⟩ (.int .i64 0))) := Lib.hid ((HB4.out.trans HB5).set 72 _); clear HD5 HB5)
        go_meet
        exact ⟨M, A, hMN, rfl, fun h => HA.out (by omega), .inl (by have := HNX.out; have := HOM.out; omega), HM, HB6⟩
    · go_wp2_with fail
      go_meet
      exact ⟨0, off, Nat.zero_le _, rfl, fun _ => rfl, .inl (by have := HNX.out; omega), Lib.hid (by
        rw [List.take_zero, List.append_nil]
        exact ⟨xs, by rw [HL.out]; exact HD2.out, by rw [HL.out]; exact HX.out⟩), HB2⟩
  case rest =>
    obtain ⟨k, o, hk, rfl, ho, hfull, HM, HB⟩ := hcut
    clear HD2 HB2 c72 c73
    go_upto_if 61 with fail
    go_cut [1, 7] from 59 to 94 (fun pv _ wx => ∃ (k o : Nat), k ≤ N ∧ pv = .slice (some ⟨b, o, none⟩) (N - k) (cap - k) ∧ (k < N → o = off + k) ∧ ((L + k) % 64 = 0 ∧ N - k < 64 ∨ k = N) ∧ Hid (DigMid wx d ks (msg ++ p.take k) ((L : Int) + (N : Int))) ∧ Hid (But d w wx))
    case first =>
      by_cases h64 : 64 ≤ N - k
      · have h64I : (64 : Int) ≤ ((N - k : Nat) : Int) := by omega
        have han := andNot63 (N - k) (by omega)
        obtain ⟨n0, hn0⟩ : ∃ n0, n0 = 64 * ((N - k) / 64) := ⟨_, rfl⟩
        rw [← hn0] at han
        have HN0 := Lib.hid hn0
        clear hn0
        have h64B : decide ((64 : Int) ≤ ((N - k : Nat) : Int)) = true := decide_eq_true h64I
        rw [h64B]
        go_wp2_with fail
        go_loopw [1, 7] (fun pv nv wr => ∃ (k o n : Nat), k ≤ N ∧ 64 ≤ N - k ∧ pv = .slice (some ⟨b, o, none⟩) (N - k) (cap - k) ∧ (k < N → o = off + k) ∧ (L + k) % 64 = 0 ∧ nv = .int .i64 (n : Int) ∧ Hid (n = 64 * ((N - k) / 64)) ∧ Hid (DigMid wr d ks (msg ++ p.take k) ((L : Int) + (N : Int))) ∧ Hid (But d w wr)) (fun _ nv _ => (intOf nv).toNat)
        case atStart => exact ⟨k, o, n0, hk, h64, rfl, ho, by omega, rfl, HN0, HM, HB⟩
        case round =>
          obtain ⟨k, o, n, hk, h64, rfl, ho, hL64, rfl, HNN, HM, HB⟩ := hrel
          obtain rfl : o = off + k := ho (by omega)
          have hnN : n ≤ N - k := by have := HNN.out; omega
          have hn0 : Hid (n % 64 = 0) := Lib.hid (by have := HNN.out; omega)
          have hnr : N - k < n + 64 := by have := HNN.out; omega
          have HC : Hid (∀ m, m % 64 = 0 → m ≤ N - k → Calls Tryd.prog 87 #[.pointer (some ⟨d, 0, none⟩), .slice (some ⟨b, off + k, none⟩) m (cap - k)] wr fun e w' => e = .returned (.tuple #[]) ∧ DigMid w' d ks (msg ++ p.take (k + m)) ((L : Int) + (N : Int)) ∧ But d wr w') := Lib.hid (fun m hm hm2 =>
            sblock_take d ks msg p L N k m _ HL.out HN.out (by omega) hL64 hm b (off + k) (cap - k) wr HM.out (HK.out.but HB.out (fun e => hdK e.symm)) (by omega) (by omega) (by have := HB.out.2.2.2.1; omega) (fun j hj => by
              rw [Nat.add_assoc]
              exact (HB.out.cell (p := ⟨b, off + (k + j), none⟩) hb hbd).trans (HBS.out (k + j) (by omega))))
          by_cases hbig : 65536 < n
          · have hbI : (65536 : Int) < (n : Int) := by omega
            obtain ⟨A, hA, HA⟩ := cutAt b (off + k) (cap - k) 65536
            have HAR := Lib.hid (wr_arith N k n cap L off A hnN HNN.out hn hL64 HA.out)
            go_wp2_with (go_at_call 87; refine (HC.out 65536 (by omega) (by omega)).mono ?_; rintro e w5 ⟨rfl, HD5, HB5⟩; have HM5 := Lib.hid HD5; have HB6 := Lib.hid (HB.out.trans HB5); clear HD5 HB5)
            go_roundw
            case rel =>
              obtain ⟨k2, n2, g1, g2, g3, g4, g5, g6, g7, g8⟩ := HAR.out hbig
              rw [g3, g4, g7]
              rw [g8] at HM5
              exact ⟨k2, A, n2, g1, g2, rfl, g5, g6.1, rfl, Lib.hid g6.2, HM5, HB6⟩
            case measure => simp [intOf]; omega
          · have hbI : ¬ (65536 : Int) < (n : Int) := by omega
            obtain ⟨A, hA, HA⟩ := cutAt b (off + k) (cap - k) n
            go_wp2_with (go_at_call 87; refine (HC.out n hn0.out hnN).mono ?_; rintro e w5 ⟨rfl, HD5, HB5⟩; have HM5 := Lib.hid HD5; have HB6 := Lib.hid (HB.out.trans HB5); clear HD5 HB5)
            go_meet
            exact ⟨k + n, A, by omega, by rw [Nat.sub_sub, Nat.sub_sub], fun _ => by have := HA.out (by omega); omega, .inl ⟨by have := hn0.out; omega, by omega⟩, HM5, HB6⟩
      · have h64I : ¬ (64 : Int) ≤ ((N - k : Nat) : Int) := by omega
        go_wp2_with fail
        go_meet
        exact ⟨k, o, hk, rfl, ho, by omega, HM, HB⟩
    case rest =>
      obtain ⟨k, o, hk, rfl, ho, hfull, HM, HB⟩ := hcut
      by_cases hpos : 0 < N - k
      · have hposI : (0 : Int) < ((N - k : Nat) : Int) := by omega
        obtain rfl : o = off + k := ho (by omega)
        have h64 : (L + k) % 64 = 0 := by omega
        have hlt : N - k < 64 := by omega
        have e1 : (msg ++ p.take k).length = L + k := by have := HL.out; have := HN.out; simp; omega
        have e2 : (p.drop k).length = N - k := by have := HN.out; simp; omega
        obtain ⟨ys, hdy, hys⟩ := HM.out
        rw [e1] at hdy hys
        obtain ⟨t2, _, _⟩ := dig_tail (nx := (((L + k) % 64 : Nat) : Int)) (len := (L : Int) + (N : Int)) hdy.1 hdy.2.1
        have HE1 := Lib.hid e1
        have HE2 := Lib.hid e2
        have HDY := Lib.hid hdy
        have HYS := Lib.hid hys
        have H64 := Lib.hid h64
        have HS2 := Lib.hid (src_cells (w := wc) (b := b) (off := off + k) (cs := p.drop k) (fun j hj => by
          rw [e2] at hj
          rw [Nat.add_assoc, getD_drop]
          exact (HB.out.cell (p := ⟨b, off + (k + j), none⟩) hb hbd).trans (HBS.out (k + j) (by omega))))
        clear t2 e1 e2 hdy hys h64
        go_wp2_with ((with_reducible refine wpList_copy_dig0 ?g1 (.tmp 90) (.tmp 91) ?g2 d (sh ks (msg ++ p.take k) ini ((L + k) / 64)).list ys (((L + k) % 64 : Nat) : Int) ((L : Int) + (N : Int)) ?g3 ⟨b, off + k, none⟩ (N - k) (cap - k) ?g4 HDY.out HB.out (p.drop k) (N - k) HE2.out ?g5 HS2.out ?g7); (case g1 => rfl); (case g2 => rfl); (case g3 => rfl); (case g4 => rfl); (case g5 => exact (Nat.min_eq_left (by omega)).symm); intro w3 HD3 HB3; obtain ⟨t2, _, _⟩ := dig_tail (nx := (((L + k) % 64 : Nat) : Int)) (len := (L : Int) + (N : Int)) HD3.out.1 HD3.out.2.1; have e72 := (HD3.out.cell 72).1.trans t2; have f72 := (HD3.out.cell 72).2; clear t2; have HM4 : Hid (DigMid (w3.setCell ⟨d, 72, none⟩ (.int .i64 ((N - k : Nat) : Int))) d ks (msg ++ p) ((L : Int) + (N : Int))) := Lib.hid (by { have hx := mid_fill (cs := p.drop k) HE1.out (nx := 0) H64.out.symm HE2.out (by omega) HYS.out (a := ((N - k : Nat) : Int)) (by omega) HDY.out.2.1 (HD3.out.setNx _); rw [List.append_assoc, List.take_append_drop] at hx; exact hx }); have HB4 : Hid (But d w (w3.setCell ⟨d, 72, none⟩ (.int .i64 ((N - k : Nat) : Int)))) := Lib.hid (HB3.out.set 72 _))
        go_ret2
        exact ⟨rfl, HTOT.out _ HM4.out, HB4.out⟩
      · have hposI : ¬ (0 : Int) < ((N - k : Nat) : Int) := by omega
        have HM4 : Hid (DigMid wc d ks (msg ++ p) ((L : Int) + (N : Int))) := Lib.hid (by
          have hx := HM.out
          rw [List.take_of_length_le (by rw [HN.out]; omega)] at hx
          exact hx)
        go_wp2_with fail
        go_ret2
        exact ⟨rfl, HTOT.out _ HM4.out, HB.out⟩

end Go.Proofs.YtokopcbmpnnkcaaDoor
