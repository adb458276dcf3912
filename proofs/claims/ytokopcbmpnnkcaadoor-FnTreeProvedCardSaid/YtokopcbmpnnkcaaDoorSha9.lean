/- crypto/sha256.Sum256, tlog.NodeHash, impl.hashOf, impl.NodeHash, spec.Hash32, bytes.Equal. Condition: the bytes lie in memory. -/
import Derived.Test.YtokopcbmpnnkcaaDoorSha8
import Derived.Laws.CopyOwn
import Derived.Laws.BytesArg
import Derived.Lib.Bytes
namespace Go.Proofs.YtokopcbmpnnkcaaDoor
open Go.RowKit

/-- 32 bytes: the first ones, with zeros behind fewer -/
def h32 (p : List Int) : List Int := p.take 32 ++ List.replicate (32 - p.length) 0
theorem h32_len (p : List Int) : (h32 p).length = 32 := by simp [h32]; omega
theorem h32_self {p : List Int} (h : p.length = 32) : h32 p = p := by simp [h32, h, List.take_of_length_le]
theorem h32_fill (p : List Int) : fillX (List.replicate 32 0) (p.take 32) 0 = h32 p := by
  unfold fillX h32
  rw [List.take_zero, List.nil_append, List.drop_replicate, Nat.zero_add, List.length_take]
  congr 2
  omega
/-- a copy into a block of bytes -/
theorem wpList_copy_b {ops : Array Oper} {rest : List Oper} {o : Oper} {a : Act} {Q : Exit → Act → World → Prop} {w : World} (hgd : o.guard = none) (dd s : Operand)
    (ho : o.op = .call { callee := .builtin .copy, args := #[dd, s], argTypes := #[23, 23] }) (g : Nat) (t : TypeId) (ys : List Int) (A n cap : Nat)
    (hd : a.eval dd = .slice (some ⟨g, A, none⟩) n cap) (ap : Option Addr) (sLen sCap : Nat) (hsv : a.eval s = .slice ap sLen sCap) (hD : BAt w g t ys) (hfit : A + n ≤ ys.length)
    (cs : List Int) (hM : cs.length = Nat.min sLen n) (hsrc : 0 < cs.length → ∃ ad, ap = some ad ∧ ∀ j v, (cs.map (Value.int .u8))[j]? = some v → w.cell? (ad.add j) = some v)
    (h : ∀ w' k, Hid (BAt w' g t (fillX ys cs A)) → Hid (But g w w') → wpList Tryd.prog ops Q rest (a.put o.dst (goInt k)) w') : wpList Tryd.prog ops Q (o :: rest) a w := by
  by_cases h0 : cs.length = 0
  · obtain rfl : cs = [] := List.eq_nil_of_length_eq_zero h0
    refine wpList_copy_nothing hgd dd s 23 23 ho 5 Tryd.underlying23 size_byte _ ap n cap sLen sCap hd hsv (by rw [← hM]; rfl) (h w 0 (Lib.hid ?_) (Lib.hid (But.refl g w)))
    simpa [fillX] using hD
  · obtain ⟨ad, rfl, hc⟩ := hsrc (by omega)
    have hle : cs.length ≤ n := by rw [hM]; exact Nat.min_le_right _ _
    refine wpList_copy_own hgd dd s 23 23 ho 5 Tryd.underlying23 size_byte g A n cap ad sLen sCap hd hsv _ _ hD (cs.map (Value.int .u8)) (by rw [List.length_map, hM]) hc ?_ ?_ (h _ _ (Lib.hid ?_) (Lib.hid ((But.refl g w).setRow _)))
    · rw [List.length_map]; simp; omega
    · intro v hv
      obtain ⟨x, _, rfl⟩ := List.mem_map.1 hv
      rfl
    · unfold BAt
      rw [setRow_heap w g _ _ _ _ hD]
      congr 2
      simp [fillX, List.map_take, List.map_drop]
theorem BIn.src {w : World} {v : Value} {p : List Int} (h : BIn w v p) (n : Nat) : ∃ ap sLen sCap, v = .slice ap sLen sCap ∧ (p.take n).length = Nat.min sLen n ∧
    (0 < (p.take n).length → ∃ ad, ap = some ad ∧ ∀ j v, ((p.take n).map (Value.int .u8))[j]? = some v → w.cell? (ad.add j) = some v) := by
  obtain ⟨A, c, rfl, h1, h2, h3⟩ := h
  refine ⟨A, p.length, c, rfl, by rw [List.length_take]; exact Nat.min_comm _ _, fun hpos => ?_⟩
  rcases h3 with h3 | ⟨b, off, rfl, hlt, hc⟩
  · simp at hpos; omega
  · refine ⟨_, rfl, src_cells fun j hj => ?_⟩
    have hj' : j < p.length := by simp at hj; omega
    have hjn : j < n := by simp at hj; omega
    rw [hc j hj']
    simp [List.getD, hjn]

theorem below_but {B g : Nat} {w w1 w2 : World} (h : Below B w w1) (k : But g w1 w2) (hg : B ≤ g) (hB : B ≤ w.heap.size := by omega) : Below B w w2 :=
  ⟨k.1.trans h.os, k.2.1.trans h.tape, k.2.2.1.trans h.output, Nat.le_trans h.size k.2.2.2.1, fun x hx => (k.2.2.2.2 x (Nat.lt_of_lt_of_le (Nat.lt_of_lt_of_le hx hB) h.size) (by omega)).trans (h.block x hx)⟩
set_option maxHeartbeats 1000000 in
theorem hashOf_any (p : List Int) (v : Value) (w : World) (hv : BIn w v p) :
    Calls Tryd.prog 31 #[v] w fun e w' => e = .returned (.agg ((h32 p).map (Value.int .u8)).toArray) ∧ Below w.heap.size w w' := by
  have hz := zh_zero
  generalize hG : ((List.replicate 32 (0 : Int)).map (Value.int .u8)).toArray = G at *
  have HGG := Lib.hid hG
  obtain ⟨W2, hW2⟩ : ∃ W2, W2 = (w.alloc (Obj.cells G 54)).alloc (Obj.cells G 54) := ⟨_, rfl⟩
  have HB2 : Hid (Below w.heap.size w W2) := Lib.hid (by rw [hW2]; exact ((Below.refl w.heap.size w).alloc (Nat.le_refl _) _).alloc (by simp) _)
  have HR2 : Hid (BAt W2 w.heap.size 54 (List.replicate 32 0)) := Lib.hid (by rw [hW2, ← HGG.out]; exact (Below.heap_alloc _ _ _ (by simp)).trans (heap_alloc_new w _))
  have HS2 : Hid (BAt W2 (w.heap.size + 1) 54 (List.replicate 32 0)) := Lib.hid (by
    have := heap_alloc_new (w.alloc (Obj.cells G 54)) (Obj.cells G 54)
    rw [show (w.alloc (Obj.cells G 54)).heap.size = w.heap.size + 1 by simp] at this
    rw [hW2, ← HGG.out]; rw [← HGG.out] at this; exact this)
  have HW2 := Lib.hid hW2
  obtain ⟨ap, sLen, sCap, rfl, hlen, hsrc⟩ := (hv.below HB2.out).src 32
  have HLEN := Lib.hid hlen
  have HSRC := Lib.hid hsrc
  clear hG hv hW2 hlen hsrc
  go_enter Tryd.func31, Tryd.ntmps31
  go_upto_region 2 with fail
  rw [← HW2.out]
  go_step
  go_wp2_with (first
    | (refine wpList_copy_b rfl (.tmp 4) (.tmp 5) rfl (w.heap.size + 1) 54 (List.replicate 32 0) 0 32 32 rfl ap sLen sCap rfl HS2.out (by simp) (p.take 32) HLEN.out HSRC.out ?_; intro w3 k3 HR3 HX3; rw [h32_fill] at HR3)
    | (refine wpList_loadH rfl (.tmp 3) rfl (w.heap.size + 1) rfl 54 (h32 p) HR3.out (h32_len p) ?_)
    | (refine wpList_storeH rfl (.tmp 2) (.tmp 7) rfl w.heap.size (h32 p) rfl rfl 54 (List.replicate 32 0) (HR2.out.but HX3.out (by omega)) rfl (h32_len p) ?_; intro w4 HR4 HX4))
  try simp only [Exit.inBlock, Exit.then]
  refine bodyPost_ret (results_cell_row rfl _ _ w.heap.size 54 _ (0, 0) _ rfl HR4.out Tryd.underlying54 rfl (arr_hh _ (h32_len p))) rfl ?_
  exact ⟨rfl, below_but (below_but HB2.out HX3.out (by omega)) HX4.out (by omega)⟩

set_option maxHeartbeats 4000000 in
set_option maxRecDepth 20000 in
theorem sum256_any (ks p : List Int) (v : Value) (w : World) (hK : WAt w 4 ks) (hv : BIn w v p) (hp : p.length < 1125899906842624) :
    Calls Tryd.prog 58 #[v] w fun e w' => e = .returned (.agg ((sha ks p).map (Value.int .u8)).toArray) ∧ Below w.heap.size w w' := by
  have hz := z32_zero
  have hmw := fun p w => m_write p w
  generalize hG : ((List.replicate 32 (0 : Int)).map (Value.int .u8)).toArray = G at *
  have HGG := Lib.hid hG
  have hK0 : 4 < w.heap.size := (Array.getElem?_eq_some_iff.1 hK.2.2).1
  have HK := Lib.hid hK
  have HV := Lib.hid hv
  clear hG hK hv
  go_enter Tryd.func58, Tryd.ntmps58
  go_wp2_with (go_at_call 51; refine (cnew_any _).mono ?_; rintro e w1 ⟨rfl, HD1, HB1⟩; rw [show (w.alloc (Obj.cells G 53)).heap.size = w.heap.size + 1 by simp] at HD1; have HD1' := Lib.hid HD1; have HB1' := Lib.hid HB1; clear HD1 HB1)
  have HW1 : Hid (Below w.heap.size w w1) := Lib.hid ((((Below.refl w.heap.size w).alloc (Nat.le_refl _) _).trans (HB1'.out.mono (by simp))))
  have HR1 : Hid (BAt w1 w.heap.size 53 (List.replicate 32 0)) := Lib.hid (by
    have e : BAt (w.alloc (Obj.cells G 53)) w.heap.size 53 (List.replicate 32 0) := by rw [← HGG.out]; exact heap_alloc_new w _
    exact e.below HB1'.out (by simp))
  have HK1 : Hid (WAt w1 4 ks) := Lib.hid (HK.out.below HW1.out hK0)
  have hs1 : w.heap.size + 2 ≤ w1.heap.size := (Array.getElem?_eq_some_iff.1 HD1'.out.2.2).1
  have HC2 := Lib.hid (write_any (w.heap.size + 1) ks [] p 0 rfl v w1 (dig_new ks HD1'.out) HK1.out (by omega) (HV.out.below HW1.out) (HV.out.off (by omega)) (by omega))
  go_upto_region 5 with (go_at_call 84; refine HC2.out.mono ?_; rintro e w3 ⟨⟨n3, rfl⟩, HF3, HB3⟩; have HF3' := Lib.hid HF3; have HB3' := Lib.hid HB3; clear HF3 HB3)
  have hms := fun p w => m_sum p w
  have hmn := fun p w => m_nil p w
  go_still_tail 5, (by kernel_rfl)
  have hs3 : w1.heap.size ≤ w3.heap.size := HB3'.out.2.2.2.1
  obtain ⟨w4, hw4⟩ : ∃ w4, w4 = (w3.alloc (Obj.cells G 53)).drew := ⟨_, rfl⟩
  change wpList _ _ _ _ _ (w3.alloc (Obj.cells G 53)).drew
  rw [← hw4]
  have HA3 : Hid (Below w3.heap.size w3 w4) := Lib.hid (by rw [hw4]; exact ((Below.refl w3.heap.size w3).alloc (Nat.le_refl _) _).drew)
  have HG4 : Hid (BAt w4 w3.heap.size 53 (List.replicate 32 0)) := Lib.hid (by rw [hw4, ← HGG.out]; exact heap_alloc_new w3 _)
  have HX4 : Hid (But (w.heap.size + 1) w3 w4) := Lib.hid (by rw [hw4]; exact (But.refl _ w3).alloc _)
  clear hw4
  have HC3 := Lib.hid (sum_any (w.heap.size + 1) ks ([] ++ p) p.length (by simp) w4 (HF3'.out.below HA3.out) ((HK1.out.but HB3'.out (by omega)).below HA3.out (by omega)) w3.heap.size 53 (List.replicate 32 0) HG4.out rfl (by omega))
  go_upto_region 6 with (go_at_call 83; refine HC3.out.mono ?_; rintro e w5 ⟨rfl, HG5, HX5⟩; have HG5' := Lib.hid HG5; have HX5' := Lib.hid HX5; clear HG5 HX5)
  go_step
  have HB5 : Hid (But (w.heap.size + 1) w1 w5) := Lib.hid ((HB3'.out.trans HX4.out).new HX5'.out (by omega))
  have HL5 : Hid ((sha ks ([] ++ p)).length = 32) := Lib.hid (sha_len _ _)
  have HR5 : Hid (BAt w5 w.heap.size 53 (List.replicate 32 0)) := Lib.hid (HR1.out.but HB5.out (by omega))
  have HFY : Hid (sha ks p = sha ks ([] ++ p)) := Lib.hid rfl
  generalize sha ks ([] ++ p) = Y at *
  refine wpList_load32 rfl (.tmp 4) rfl w3.heap.size rfl 53 Y HG5'.out HL5.out ?_
  refine wpList_store32 rfl (.tmp 2) (.tmp 17) rfl w.heap.size Y rfl rfl 53 (List.replicate 32 0) HR5.out rfl HL5.out ?_
  intro w6 HR6 HX6
  go_wp2_with fail
  try simp only [Exit.inBlock, Exit.then]
  refine bodyPost_ret (results_cell_row rfl _ _ w.heap.size 53 _ (0, 0) _ rfl HR6.out Tryd.underlying53 rfl (arr_h32 _ HL5.out)) rfl ?_
  refine ⟨by rw [HFY.out], ?_⟩
  exact below_but (below_but HW1.out HB5.out (by omega)) HX6.out (by omega)

theorem z65_info : (Tryd.prog.info? 97).map (fun i => i.zero) = some (some (.agg ((List.replicate 65 (0 : Int)).map (Value.int .u8)).toArray)) := by kernel_rfl
theorem z65_zero (w : World) : (zeroValue 97).run Tryd.prog w = .ok (.agg ((List.replicate 65 (0 : Int)).map (Value.int .u8)).toArray) w := by
  obtain ⟨i, hi, hz⟩ := Option.map_eq_some_iff.1 z65_info
  simp [zeroValue, typeInfo, hi, hz]
theorem fill65 {xs ys : List Int} (hx : xs.length = 32) (hy : ys.length = 32) : fillX (fillX ((List.replicate 65 0).set 0 1) xs 1) ys 33 = 1 :: (xs ++ ys) := by
  obtain ⟨x, hx'⟩ : ∃ x, x = xs := ⟨_, rfl⟩
  have e1 : fillX ((List.replicate 65 (0 : Int)).set 0 1) xs 1 = (1 :: xs) ++ List.replicate 32 0 := by
    unfold fillX
    rw [hx]
    rfl
  rw [e1]
  unfold fillX
  rw [List.take_left' (by simp [hx]), List.drop_eq_nil_of_le (by simp [hx, hy])]
  simp
theorem src_of_b {w : World} {g : Nat} {t : TypeId} {ys : List Int} (h : BAt w g t ys) : ∀ j v, (ys.map (Value.int .u8))[j]? = some v → w.cell? ((⟨g, 0, none⟩ : Addr).add j) = some v :=
  src_cells fun j hj => by rw [Nat.zero_add]; exact h.cell hj
set_option maxHeartbeats 4000000 in
set_option maxRecDepth 20000 in
theorem nodeHash_any (ks xs ys : List Int) (hx : xs.length = 32) (hy : ys.length = 32) (w : World) (hK : WAt w 4 ks) :
    Calls Tryd.prog 53 #[.agg (xs.map (Value.int .u8)).toArray, .agg (ys.map (Value.int .u8)).toArray] w fun e w' => e = .returned (.agg ((sha ks (1 :: (xs ++ ys))).map (Value.int .u8)).toArray) ∧ Below w.heap.size w w' := by
  have hz := zh_zero
  have hz65 := z65_zero
  generalize hG : ((List.replicate 32 (0 : Int)).map (Value.int .u8)).toArray = G at *
  generalize hG65 : ((List.replicate 65 (0 : Int)).map (Value.int .u8)).toArray = G65 at *
  generalize hX : (xs.map (Value.int .u8)).toArray = X at *
  generalize hY : (ys.map (Value.int .u8)).toArray = Y at *
  have hK0 : 4 < w.heap.size := (Array.getElem?_eq_some_iff.1 hK.2.2).1
  obtain ⟨W4, hW4⟩ : ∃ W4, W4 = ((((w.alloc (Obj.cells X 54)).alloc (Obj.cells Y 54)).alloc (Obj.cells G 54)).alloc (Obj.cells G65 97)) := ⟨_, rfl⟩
  have HW4 := Lib.hid hW4
  have HB4 : Hid (Below w.heap.size w W4) := Lib.hid (by rw [hW4]; exact ((((Below.refl w.heap.size w).alloc (Nat.le_refl _) _).alloc (by simp) _).alloc (by first | (simp; done) | (simp; omega)) _).alloc (by first | (simp; done) | (simp; omega)) _)
  have HX4 : Hid (BAt W4 w.heap.size 54 xs) := Lib.hid (by
    rw [hW4]; unfold BAt; rw [hX]
    exact (Below.heap_alloc _ _ _ (by first | (simp; done) | (simp; omega))).trans ((Below.heap_alloc _ _ _ (by first | (simp; done) | (simp; omega))).trans ((Below.heap_alloc _ _ _ (by simp)).trans (heap_alloc_new w _))))
  have HY4 : Hid (BAt W4 (w.heap.size + 1) 54 ys) := Lib.hid (by
    rw [hW4]; unfold BAt; rw [hY]
    refine (Below.heap_alloc _ _ _ (by first | (simp; done) | (simp; omega))).trans ((Below.heap_alloc _ _ _ (by simp)).trans ?_)
    have := heap_alloc_new (w.alloc (Obj.cells X 54)) (Obj.cells Y 54)
    rwa [show (w.alloc (Obj.cells X 54)).heap.size = w.heap.size + 1 by simp] at this)
  have HG4 : Hid (BAt W4 (w.heap.size + 1 + 1) 54 (List.replicate 32 0)) := Lib.hid (by
    rw [hW4]; unfold BAt; rw [hG]
    refine (Below.heap_alloc _ _ _ (by simp)).trans ?_
    have := heap_alloc_new ((w.alloc (Obj.cells X 54)).alloc (Obj.cells Y 54)) (Obj.cells G 54)
    rwa [show ((w.alloc (Obj.cells X 54)).alloc (Obj.cells Y 54)).heap.size = w.heap.size + 1 + 1 by simp] at this)
  have HZ4 : Hid (BAt W4 (w.heap.size + 1 + 1 + 1) 97 (List.replicate 65 0)) := Lib.hid (by
    rw [hW4]; unfold BAt; rw [hG65]
    have := heap_alloc_new (((w.alloc (Obj.cells X 54)).alloc (Obj.cells Y 54)).alloc (Obj.cells G 54)) (Obj.cells G65 97)
    rwa [show (((w.alloc (Obj.cells X 54)).alloc (Obj.cells Y 54)).alloc (Obj.cells G 54)).heap.size = w.heap.size + 1 + 1 + 1 by simp] at this)
  have HK := Lib.hid hK
  have HLX := Lib.hid hx
  have HLY := Lib.hid hy
  clear hG hG65 hX hY hK hW4 hx hy
  go_enter Tryd.func53, Tryd.ntmps53
  go_upto_region 2 with fail
  rw [← HW4.out]
  have c0 : W4.cell? ⟨w.heap.size + 1 + 1 + 1, 0, none⟩ = some (.int .u8 0) := HZ4.out.cell (by simp)
  have f0 := HZ4.out.frozen 0
  have HZ5 : Hid (BAt (W4.setCell ⟨w.heap.size + 1 + 1 + 1, 0, none⟩ (.int .u8 1)) (w.heap.size + 1 + 1 + 1) 97 ((List.replicate 65 0).set 0 1)) := Lib.hid (HZ4.out.set 0 1)
  have HX5 : Hid (But (w.heap.size + 1 + 1 + 1) W4 (W4.setCell ⟨w.heap.size + 1 + 1 + 1, 0, none⟩ (.int .u8 1))) := Lib.hid ((But.refl _ W4).set 0 _)
  go_upto_region 3 with fail
  generalize W4.setCell ⟨w.heap.size + 1 + 1 + 1, 0, none⟩ (.int .u8 1) = W5 at *
  clear c0 f0
  go_still_tail 2, (by kernel_rfl)
  obtain ⟨W6, hW6⟩ : ∃ W6, W6 = W5.drew := ⟨_, rfl⟩
  change wpList _ _ _ _ _ W5.drew
  rw [← hW6]
  have HZ6 : Hid (BAt W6 (w.heap.size + 1 + 1 + 1) 97 ((List.replicate 65 0).set 0 1)) := Lib.hid (by rw [hW6]; exact HZ5.out)
  have HX6 : Hid (But (w.heap.size + 1 + 1 + 1) W4 W6) := Lib.hid (by rw [hW6]; exact HX5.out)
  clear hW6
  refine wpList_copy_b rfl (.tmp 7) (.tmp 8) rfl (w.heap.size + 1 + 1 + 1) 97 _ 1 64 64 rfl (some ⟨w.heap.size, 0, none⟩) 32 32 rfl HZ6.out (by simp) xs (by rw [HLX.out]; rfl) (fun _ => ⟨_, rfl, src_of_b (HX4.out.but HX6.out (by omega))⟩) ?_
  intro W7 k7 HZ7 HX7
  go_upto_region 4 with fail
  go_still_tail 2, (by kernel_rfl)
  obtain ⟨W8, hW8⟩ : ∃ W8, W8 = W7.drew := ⟨_, rfl⟩
  change wpList _ _ _ _ _ W7.drew
  rw [← hW8]
  have HZ8 : Hid (BAt W8 (w.heap.size + 1 + 1 + 1) 97 (fillX ((List.replicate 65 0).set 0 1) xs 1)) := Lib.hid (by rw [hW8]; exact HZ7.out)
  have HX8 : Hid (But (w.heap.size + 1 + 1 + 1) W4 W8) := Lib.hid (by rw [hW8]; exact HX6.out.trans HX7.out)
  clear hW8
  refine wpList_copy_b rfl (.tmp 10) (.tmp 11) rfl (w.heap.size + 1 + 1 + 1) 97 _ 33 32 32 rfl (some ⟨w.heap.size + 1, 0, none⟩) 32 32 rfl HZ8.out (by simp [fillX, HLX.out]) ys (by rw [HLY.out]; rfl) (fun _ => ⟨_, rfl, src_of_b (HY4.out.but HX8.out (by omega))⟩) ?_
  intro W9 k9 HZ9 HX9
  rw [fill65 HLX.out HLY.out] at HZ9
  have HX10 : Hid (But (w.heap.size + 1 + 1 + 1) W4 W9) := Lib.hid (HX8.out.trans HX9.out)
  have hlen : (1 :: (xs ++ ys)).length = 65 := by simp [HLX.out, HLY.out]
  have hW4s : w.heap.size + 4 ≤ W4.heap.size := (Array.getElem?_eq_some_iff.1 HZ4.out).1
  have HV : Hid (BIn W9 (.slice (some ⟨w.heap.size + 1 + 1 + 1, 0, none⟩) 65 65) (1 :: (xs ++ ys))) := Lib.hid ⟨_, 65, by rw [hlen], by omega, by omega, .inr ⟨_, 0, rfl, by have := HX10.out.2.2.2.1; omega, fun j hj => by rw [Nat.zero_add]; exact HZ9.out.cell hj⟩⟩
  have HS := Lib.hid (sum256_any ks _ _ W9 ((HK.out.below HB4.out hK0).but HX10.out (by omega)) HV.out (by omega))
  have HL : Hid ((sha ks (1 :: (xs ++ ys))).length = 32) := Lib.hid (sha_len _ _)
  clear hlen
  obtain ⟨Z, hZ⟩ : ∃ Z, Z = sha ks (1 :: (xs ++ ys)) := ⟨_, rfl⟩
  rw [← hZ] at HS HL
  have HFZ := Lib.hid hZ
  clear hZ
  go_wp2_with fail
  refine HS.out.mono ?_
  rintro e W11 ⟨rfl, hb11⟩
  have HB11 := Lib.hid hb11
  have HG11 : Hid (BAt W11 (w.heap.size + 1 + 1) 54 (List.replicate 32 0)) := Lib.hid ((HG4.out.but HX10.out (by omega)).below hb11 (by have := HX10.out.2.2.2.1; omega))
  clear hb11
  go_wp2_with (refine wpList_storeH rfl (.tmp 4) (.tmp 14) rfl (w.heap.size + 1 + 1) Z rfl rfl 54 (List.replicate 32 0) HG11.out rfl HL.out ?_; intro W12 HG12 HX12)
  try simp only [Exit.inBlock, Exit.then]
  refine bodyPost_ret (results_cell_row rfl _ _ (w.heap.size + 1 + 1) 54 _ (0, 0) _ rfl HG12.out Tryd.underlying54 rfl (arr_hh _ HL.out)) rfl ?_
  exact ⟨by rw [HFZ.out], below_but ((below_but HB4.out HX10.out (by omega)).trans (HB11.out.mono (by have := HX10.out.2.2.2.1; omega))) HX12.out (by omega)⟩


theorem row_src {w : World} {base g cap n : Nat} {e : TypeId} {p : List Int} (h : w.ownsRow base e 1 (.slice (some ⟨g, 0, none⟩) n cap) n (p.map (Value.int .u8))) (hn : n = p.length) (hc : n ≤ cap) (hm : cap ≤ 9223372036854775807) (hl : g < w.heap.size) : BIn w (.slice (some ⟨g, 0, none⟩) n cap) p :=
  ⟨_, cap, by rw [hn], by omega, hm, .inr ⟨g, 0, rfl, hl, fun j hj => by
    rw [Nat.zero_add, h.cellAt j (by omega)]
    simp [hj]⟩⟩
/-- a row of bytes of one's own is in memory -/
theorem row_in {w : World} {base n : Nat} {v : Value} {e : TypeId} {p : List Int} (h : w.ownsRow base e 1 v n (p.map (Value.int .u8))) : BIn w v p := by
  have hl : n = p.length := by have := h.1; simp at this; omega
  rcases h.2 with ⟨rfl, rfl⟩ | ⟨g, cap, cur, rfl, hb, hh, hnc, hsz, hmax⟩
  · obtain rfl : p = [] := List.eq_nil_of_length_eq_zero hl.symm
    exact BIn.nil_ w
  · have := h.lt g rfl
    exact row_src h hl hnc (by simpa [maxLen] using hsz) this.2

theorem mk32 (w : World) : (Instr.makeSlice 23 (.int .i64 32) (.int .i64 32)).run Tryd.prog w = .ok (.slice (some ⟨w.heap.size, 0, none⟩) 32 32) (w.alloc (Obj.cells ((List.replicate 32 (0 : Int)).map (Value.int .u8)).toArray 5)) := by kernel_rfl
set_option maxHeartbeats 1000000 in
theorem spec_Hash32 (p : List Int) (v : Value) (w : World) (hv : BIn w v p) :
    Calls Tryd.prog 18 #[v] w fun e w' => (e = .returned (.slice (some ⟨w.heap.size, 0, none⟩) 32 32) ∧ BAt w' w.heap.size 5 (h32 p)) ∧ Below w.heap.size w w' := by
  obtain ⟨W2, hW2⟩ : ∃ W2, W2 = w.alloc (Obj.cells ((List.replicate 32 (0 : Int)).map (Value.int .u8)).toArray 5) := ⟨_, rfl⟩
  have hmk := mk32 w
  rw [← hW2] at hmk
  have HB2 : Hid (Below w.heap.size w W2) := Lib.hid (by rw [hW2]; exact (Below.refl w.heap.size w).alloc (Nat.le_refl _) _)
  have HS2 : Hid (BAt W2 w.heap.size 5 (List.replicate 32 0)) := Lib.hid (by rw [hW2]; exact heap_alloc_new w _)
  obtain ⟨ap, sLen, sCap, rfl, hlen, hsrc⟩ := (hv.below HB2.out).src 32
  have HLEN := Lib.hid hlen
  have HSRC := Lib.hid hsrc
  clear hv hW2 hlen hsrc
  go_enter Tryd.func18, Tryd.ntmps18
  go_wp2_with (refine wpList_copy_b rfl (.tmp 5) (.tmp 6) rfl w.heap.size 5 (List.replicate 32 0) 0 32 32 rfl ap sLen sCap rfl HS2.out (by simp) (p.take 32) HLEN.out HSRC.out ?_; intro w3 k3 HR3 HX3; rw [h32_fill] at HR3)
  go_ret
  exact ⟨⟨rfl, HR3.out⟩, below_but HB2.out HX3.out (Nat.le_refl _)⟩

/-- bytes in the range of bytes -/
def Oct (p : List Int) : Prop := ∀ x ∈ p, 0 ≤ x ∧ x < 256
theorem strOf_inj {p q : List Int} (hp : Oct p) (hq : Oct q) (h1 : p.map (fun n => UInt8.ofNat n.toNat) = q.map (fun n => UInt8.ofNat n.toNat)) : p = q := by
  induction p generalizing q with
  | nil => cases q with
    | nil => rfl
    | cons b q => simp at h1
  | cons a p ih =>
    cases q with
    | nil => simp at h1
    | cons b q =>
      simp only [List.map_cons, List.cons.injEq] at h1
      have ha := hp a (List.mem_cons_self ..)
      have hb := hq b (List.mem_cons_self ..)
      have e := congrArg UInt8.toNat h1.1
      simp only [UInt8.toNat_ofNat'] at e
      have : a = b := by omega
      subst this
      rw [ih (fun x hx => hp x (List.mem_cons_of_mem _ hx)) (fun x hx => hq x (List.mem_cons_of_mem _ hx)) h1.2]
theorem strOf_eq {p q : List Int} (hp : Oct p) (hq : Oct q) : ((strOfNums p).toList == (strOfNums q).toList) = decide (p = q) := by
  by_cases h : p = q
  · subst h; simp
  · have h2 : ¬ (strOfNums p).toList = (strOfNums q).toList := fun e => h (strOf_inj hp hq (by rw [Lib.strOfNums_toList, Lib.strOfNums_toList] at e; exact e))
    simp [h, h2]
theorem BIn.text {w : World} {v : Value} {p : List Int} (h : BIn w v p) : (convert 23 9 v).run Tryd.prog w = .ok (.string (strOfNums p)) w := by
  obtain ⟨A, c, rfl, h1, h2, h3⟩ := h
  rcases h3 with rfl | ⟨b, off, rfl, hlt, hc⟩
  · obtain rfl : p = [] := List.eq_nil_of_length_eq_zero (by omega)
    rw [show (strOfNums []) = ByteArray.empty from rfl, List.length_nil]
    rw [run_convert_bytes_string w 23 9 5 A 0 0 Tryd.underlying23 Tryd.underlying5 Tryd.underlying9]
    cases A <;> simp [Conv.bytesToString, loadCells]
    all_goals rfl
  · exact run_convert_bytes_arg w 23 5 Tryd.underlying23 Tryd.underlying5 b off p.length c p rfl hc 9 Tryd.underlying9

theorem bytesEqual_any (p q : List Int) (v u : Value) (w : World) (hv : BIn w v p) (hu : BIn w u q) (hp : Oct p) (hq : Oct q) :
    Calls Tryd.prog 17 #[v, u] w fun e w' => e = .returned (.bool (decide (p = q))) ∧ w = w' := by
  have h1 := hv.text
  have h2 := hu.text
  have h3 := strOf_eq hp hq
  clear hv hu hp hq
  generalize decide (p = q) = r at *
  go_enter Tryd.func17, Tryd.ntmps17
  go_wp2
  go_ret
  exact ⟨rfl, rfl⟩
theorem bytesEqual_same (p q : List Int) (v u : Value) (w : World) (hv : BIn w v p) (hu : BIn w u q) (hpq : p = q) :
    Calls Tryd.prog 17 #[v, u] w fun e w' => e = .returned (.bool true) ∧ w = w' := by
  subst hpq
  have h1 := hv.text
  have h2 := hu.text
  clear hv hu
  go_enter Tryd.func17, Tryd.ntmps17
  go_wp2
  go_ret
  exact ⟨by simp, rfl⟩

end Go.Proofs.YtokopcbmpnnkcaaDoor
