/- The walk of FnHashSizes: it returns true at every input, whatever words the table of SHA-256 holds. No condition. -/
import Derived.Test.YtnapeengjbjjoaaOpenB
import Derived.Test.YtnapeengjbjjoaaBwt
import Derived.Maps.AppendAt
import Derived.OwnWalk
namespace Go.Proofs.Ytnapeengjbjjoaa
open Go.RowKit

theorem h32_more {p : List Int} (h : p.length = 32) (x : Int) : h32 (p ++ [x]) = p := by
  unfold h32
  rw [List.take_append_of_le_length (by omega), List.take_of_length_le (by omega)]
  simp [h]
theorem owns_of_b {w : World} {g base : Nat} {t : TypeId} {ys : List Int} (h : BAt w g t ys) (hb : base ≤ g) (hl : ys.length ≤ 9223372036854775807) : w.ownsRow base t 1 (.slice (some ⟨g, 0, none⟩) ys.length ys.length) ys.length (ys.map (Value.int .u8)) :=
  ⟨by simp, .inr ⟨g, ys.length, _, rfl, hb, h, Nat.le_refl _, by simpa [maxLen] using hl, by simp, List.take_of_length_le (by simp)⟩⟩
/-- an append in an operation that is guarded, where the guard lets it run -/
theorem wpList_append_own_g {P : Program} (w : World) {ops : Array Oper} {rest : List Oper} {o : Oper} {a : Act} {Q : Exit → Act → World → Prop} (hw : Region.wanted o (yielded ops a.tmps) = true) (s x : Operand) (t : TypeId)
    (ho : o.op = .call { callee := .builtin .append, args := #[s, x], argTypes := #[t, t] })
    (base : Nat) (e : TypeId) (i : TypeInfo) (z : Value) (size bytes : Nat) (ht : P.underlying t = some (.slice e)) (hi : P.info? e = some i) (hz : i.zero = some z)
    (hsize : i.size = size) (hby : i.bytes = bytes) (hzs : z.cells.size = size) (hsz : 0 < size)
    (v : Value) (n : Nat) (xs : List Value) (hs : a.eval s = v) (hown : w.ownsRow base e size v n xs)
    (ad : Addr) (m c : Nat) (news : List Value) (hx : a.eval x = .slice (some ad) m c) (hl : news.length = m * size) (hnews : ∀ j u, news[j]? = some u → w.cell? (ad.add j) = some u) (h1 : ∀ u ∈ news, u.oneCell' = true)
    (h63 : n + m ≤ maxLen) (hbytes : (n + m) * bytes ≤ 140737488355328) (hbase : base ≤ w.heap.size)
    (h : ∀ v' w', w'.ownsRow base e size v' (n + m) (xs ++ news) → w.grownBy w' v.ownBlock → wpList P ops Q rest (a.put o.dst v') w') : wpList P ops Q (o :: rest) a w := by
  refine wpList_step fun K hK => ?_
  rw [if_pos hw]
  obtain ⟨v', w', hr, h2, h3, h4, h5⟩ := run_append_own_at (P := P) w base t o.type e i z size bytes ht hi hz hsize hby hzs hsz v n xs hown ad m c news hl hnews h1 h63 hbytes hbase
  unfold Oper.wp execOp
  simp only [ho, resolve, invoke, builtin, Sem.run_bind, Sem.run_pure, Result.andThen_ok, List.map_toArray, List.map_cons, List.map_nil, hs, hx, hr]
  exact hK _ _ (h v' w' h2 h3)

set_option maxHeartbeats 2000000 in
theorem walk_FnHashSizes (v0 : Value) (p : List Int) (v1 : Value) (q : List Int) (w : World) (h0 : (BIn w v0 p ∧ Oct p) ∧ p.length ≤ 140737488351232) (h1 : (BIn w v1 q ∧ Oct q) ∧ q.length ≤ 140737488351232) (hsh : w.ShapedOpen Try.prog) :
    Calls Try.prog 3 #[v0, v1] w fun e w' => e = .returned (.bool true) ∧ Below w.heap.size w w' := by
  obtain ⟨ks, hK⟩ := table_of hsh
  have hk0 : 0 < w.heap.size := (Array.getElem?_eq_some_iff.1 hK.2.2).1
  have HK := Lib.hid hK
  have HP := Lib.hid h0.1.1
  have HQ := Lib.hid h1.1.1
  have hp := h0.2
  obtain ⟨i0, hi, hz0, hz1, hz2⟩ := info_parts info_byte
  obtain ⟨Z, hZ⟩ : ∃ Z, Z = sha ks (1 :: (h32 p ++ h32 q)) := ⟨_, rfl⟩
  have HN1 := Lib.hid (impl_NodeHash_any ks p q v0 v1 w hK h0.1.1 h1.1.1)
  rw [← hZ] at HN1
  have HZ := Lib.hid hZ
  have HH := Lib.hid (fun w => impl_RecordHash_any ks p v0 w)
  have HN2 := Lib.hid (fun v u w => impl_NodeHash_any ks (h32 p) (h32 q ++ [1]) v u w)
  rw [h32_self (h32_len p), h32_more (h32_len q), ← hZ] at HN2
  have HLQ := Lib.hid (h32_len q)
  have HLP := Lib.hid (h32_len p)
  have HBP := Lib.hid (fun w h => spec_Hash32 p v0 w h)
  have HBQ := Lib.hid (fun w h => spec_Hash32 q v1 w h)
  clear hK h0 h1 hsh hZ
  generalize h32 p = P at *
  generalize h32 q = Q at *
  go_enter Try.func3, Try.ntmps3
  go_wp2_with fail
  refine HN1.out.mono ?_
  rintro e w1 ⟨⟨g1, c1, rfl, ho1⟩, hb1⟩
  have HO1 := Lib.hid ho1
  have HB1 := Lib.hid hb1
  clear ho1 hb1
  go_wp2_with fail
  refine (HH.out w1 (HK.out.below HB1.out hk0) (HP.out.below HB1.out) (by omega)).mono ?_
  rintro e w2 ⟨⟨g2, c2, rfl, ho2⟩, hb2⟩
  have HB2 : Hid (Below w.heap.size w w2) := Lib.hid (bl_step HB1.out hb2 (Nat.le_refl _))
  have HO2 : Hid (BIn w2 (.slice (some ⟨g1, 0, none⟩) 32 c1) Z) := Lib.hid ((row_in HO1.out).below hb2)
  clear ho2 hb2
  go_wp2_with fail
  refine (HBP.out w2 (HP.out.below HB2.out)).mono ?_
  rintro e w3 ⟨⟨rfl, hbp⟩, hb3⟩
  have HB3 : Hid (Below w.heap.size w w3) := Lib.hid (bl_step HB2.out hb3 (Nat.le_refl _))
  have HO3 : Hid (BIn w3 (.slice (some ⟨g1, 0, none⟩) 32 c1) Z) := Lib.hid (HO2.out.below hb3)
  have HP3 := Lib.hid hbp
  clear hbp hb3
  go_wp2_with fail
  refine (HBQ.out w3 (HQ.out.below HB3.out)).mono ?_
  rintro e w4 ⟨⟨rfl, hbq⟩, hb4⟩
  have HB4 : Hid (Below w.heap.size w w4) := Lib.hid (bl_step HB3.out hb4 (Nat.le_refl _))
  have HO4 : Hid (BIn w4 (.slice (some ⟨g1, 0, none⟩) 32 c1) Z) := Lib.hid (HO3.out.below hb4)
  have HQ4 : Hid (w4.ownsRow w3.heap.size 5 1 (.slice (some ⟨w3.heap.size, 0, none⟩) 32 32) 32 (Q.map (Value.int .u8))) := Lib.hid (by
    have := owns_of_b hbq (Nat.le_refl _) (by have := HLQ.out; omega)
    rwa [HLQ.out] at this)
  have HB34 := Lib.hid hb4
  have hs4 : w3.heap.size ≤ w4.heap.size := hb4.size
  clear hbq hb4
  go_wp2_with (at_builtin; refine wpList_append_own_g _ rfl (.tmp 22) (.tmp 23) 22 rfl w3.heap.size 5 i0 (.int .u8 0) 1 1 Try.underlying22 hi hz0 hz1 hz2 rfl (by decide) _ 32 _ rfl (HQ4.out.alloc _) ⟨w4.heap.size, 0, none⟩ 1 1 [.int .u8 1] rfl rfl (fun j u hu => by obtain ⟨rfl, rfl⟩ : j = 0 ∧ u = .int .u8 1 := (by cases j with | zero => exact ⟨rfl, by simpa using hu.symm⟩ | succ j => simp at hu); exact cell_of_row (w4.alloc _) _ _ _ 5 (0, 0) (heap_alloc_new w4 _)) (fun u hu => by obtain rfl : u = .int .u8 1 := (by simpa using hu); rfl) (by unfold maxLen; omega) (by omega) (by simp; omega) ?_; intro v5 w5 hown hgrow)
  have HB35 : Hid (Below w3.heap.size w3 w5) := Lib.hid ((HB34.out.alloc HB34.out.size _).grown hgrow (by simp; omega) (fun k hk => by
    have : w3.heap.size = k := Option.some.inj hk
    omega))
  have HV5 : Hid (BIn w5 v5 (Q ++ [1])) := Lib.hid (row_in (base := w3.heap.size) (e := 5) (n := 32 + 1) (by rw [List.map_append]; exact hown))
  have HP5 : Hid (BIn w5 (.slice (some ⟨w2.heap.size, 0, none⟩) 32 32) P) := Lib.hid (by
    exact ⟨_, 32, by rw [HLP.out], by rw [HLP.out]; omega, by omega, .inr ⟨_, 0, rfl, Nat.lt_of_lt_of_le (Array.getElem?_eq_some_iff.1 HP3.out).1 HB35.out.size, fun j hj => by rw [Nat.zero_add]; exact (HP3.out.below HB35.out (Array.getElem?_eq_some_iff.1 HP3.out).1).cell hj⟩⟩)
  clear hown hgrow
  go_wp2_with fail
  refine (HN2.out _ _ w5 (HK.out.below (HB3.out.trans (HB35.out.mono HB3.out.size)) hk0) HP5.out HV5.out).mono ?_
  rintro e w6 ⟨⟨g6, c6, rfl, ho6⟩, hb6⟩
  have HO6 := Lib.hid (row_in ho6)
  have HB6 : Hid (Below w3.heap.size w3 w6) := Lib.hid (bl_step HB35.out hb6 (Nat.le_refl _))
  clear ho6 hb6
  go_wp2_with fail
  refine (bytesEqual_same Z Z _ _ w6 HO6.out (HO3.out.below HB6.out) rfl).mono ?_
  rintro e w7 ⟨rfl, rfl⟩
  go_wp2_with fail
  go_ret
  exact ⟨rfl, HB3.out.trans (HB6.out.mono HB3.out.size)⟩

end Go.Proofs.Ytnapeengjbjjoaa
