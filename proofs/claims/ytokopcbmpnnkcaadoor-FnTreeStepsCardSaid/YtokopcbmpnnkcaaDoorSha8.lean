/- tlog.RecordHash: SHA-256 of a zero byte and the record's bytes. Condition: the record's bytes lie in memory. -/
import Derived.Test.YtokopcbmpnnkcaaDoorSha7
import Derived.Test.YtokopcbmpnnkcaaDoorSha2
namespace Go.Proofs.YtokopcbmpnnkcaaDoor
open Go.RowKit

theorem zh_info : (Tryd.prog.info? 54).map (fun i => i.zero) = some (some (.agg ((List.replicate 32 (0 : Int)).map (Value.int .u8)).toArray)) := by kernel_rfl
theorem zh_zero (w : World) : (zeroValue 54).run Tryd.prog w = .ok (.agg ((List.replicate 32 (0 : Int)).map (Value.int .u8)).toArray) w := by
  obtain ⟨i, hi, hz⟩ := Option.map_eq_some_iff.1 zh_info
  simp [zeroValue, typeInfo, hi, hz]
theorem size_hh : (Tryd.prog.info? 54).map (·.size) = some 32 := by kernel_rfl
theorem arr_hh (ys : List Int) (h : ys.length = 32) : (Tryd.prog.info? 54).map (·.size) = some ((ys.map (Value.int .u8)).toArray.size) := by rw [size_hh]; simp [h]
theorem wpList_loadH {ops : Array Oper} {rest : List Oper} {o : Oper} {a : Act} {w : World} {Q : Exit → Act → World → Prop} (hgd : o.guard = none) (x : Operand) (ho : o.op = .load 54 x)
    (g : Nat) (hx : a.eval x = .pointer (some ⟨g, 0, none⟩)) (t : TypeId) (ys : List Int) (hB : BAt w g t ys) (hl : ys.length = 32) (h : wpList Tryd.prog ops Q rest (a.put o.dst (.agg (ys.map (Value.int .u8)).toArray)) w) : wpList Tryd.prog ops Q (o :: rest) a w :=
  wpList_load_row hgd 54 x ho g hx t _ (0, 0) _ hB Tryd.underlying54 rfl (arr_hh ys hl) h
theorem wpList_storeH {ops : Array Oper} {rest : List Oper} {o : Oper} {a : Act} {w : World} {Q : Exit → Act → World → Prop} (hgd : o.guard = none) (x y : Operand) (ho : o.op = .store 54 x y)
    (g : Nat) (ys : List Int) (hx : a.eval x = .pointer (some ⟨g, 0, none⟩)) (hy : a.eval y = .agg (ys.map (Value.int .u8)).toArray) (t : TypeId) (old : List Int) (hB : BAt w g t old) (hlo : old.length = 32) (hl : ys.length = 32)
    (h : ∀ w', Hid (BAt w' g t ys) → Hid (But g w w') → wpList Tryd.prog ops Q rest (a.put o.dst undef) w') : wpList Tryd.prog ops Q (o :: rest) a w :=
  wpList_store_row hgd 54 x y ho g _ hx hy t _ hB (arr_hh ys hl) (by simp [hl, hlo]) (by
    rw [Array.all_eq_true_iff_forall_mem]
    intro v hv
    obtain ⟨z, _, rfl⟩ := List.mem_map.1 (by simpa using hv)
    rfl) (h _ (Lib.hid (setRow_heap w g _ _ t _ hB)) (Lib.hid ((But.refl g w).setRow _)))

theorem dig_new {w : World} {d : Nat} (ks : List Int) (h : DigAt w d init256 (List.replicate 64 0) 0 0) : DigFor w d ks [] := ⟨List.replicate 64 0, h, rfl⟩
theorem m_write (p : Option Addr) (w : World) : (method 231 95 (.pointer p) "Write").run Tryd.prog w = .ok (84, .pointer p) w := by kernel_rfl
theorem m_sum (p : Option Addr) (w : World) : (method 231 95 (.pointer p) "Sum").run Tryd.prog w = .ok (83, .pointer p) w := by kernel_rfl
theorem m_nil (a : Addr) (w : World) : (nilAhead 231 95 (.pointer (some a)) "Sum").run Tryd.prog w = .ok (some false) w := by kernel_rfl

/-- a slice of bytes in memory: nil, or of no room at whatever address, or in a block -/
def BIn (w : World) (v : Value) (p : List Int) : Prop := ∃ A c, v = .slice A p.length c ∧ p.length ≤ c ∧ c ≤ 9223372036854775807 ∧
  (c = 0 ∨ ∃ b off, A = some ⟨b, off, none⟩ ∧ b < w.heap.size ∧ ∀ j, j < p.length → w.cell? ⟨b, off + j, none⟩ = some (.int .u8 (p.getD j 0)))
theorem BIn.nil_ (w : World) : BIn w (.slice none 0 0) [] := ⟨none, 0, rfl, Nat.le_refl _, by omega, .inl rfl⟩
theorem BIn.below' {w w' : World} {v : Value} {p : List Int} (h : BIn w v p) (hs : w.heap.size ≤ w'.heap.size) (hb : ∀ b, b < w.heap.size → w'.heap[b]? = w.heap[b]?) : BIn w' v p := by
  obtain ⟨A, c, e, h1, h2, h3⟩ := h
  refine ⟨A, c, e, h1, h2, ?_⟩
  rcases h3 with h3 | ⟨b, off, hA, hlt, hc⟩
  · exact .inl h3
  · refine .inr ⟨b, off, hA, Nat.lt_of_lt_of_le hlt hs, fun j hj => ?_⟩
    rw [← hc j hj]
    exact World.cell?_of_block (w := w) (hb b hlt)
theorem BIn.below {w w' : World} {v : Value} {p : List Int} (h : BIn w v p) (hb : Below w.heap.size w w') : BIn w' v p := h.below' hb.size hb.block
/-- the slice does not lie in a block -/
def BOff (v : Value) (d : Nat) : Prop := ∀ b off n cap, v = .slice (some ⟨b, off, none⟩) n cap → 0 < cap → b ≠ d
theorem BIn.off {w : World} {v : Value} {p : List Int} (h : BIn w v p) {d : Nat} (hd : w.heap.size ≤ d) : BOff v d := by
  rintro b off n cap rfl hcap
  obtain ⟨A, c, e, h1, h2, h3⟩ := h
  cases e
  rcases h3 with h3 | ⟨b, off, hA, hlt, hc⟩
  · omega
  · cases hA; omega

theorem write_any (d : Nat) (ks msg p : List Int) (L : Nat) (hL : msg.length = L) (v : Value) (w : World) (h : DigFor w d ks msg) (hK : WAt w 4 ks) (hdK : d ≠ 4) (hv : BIn w v p) (ho : BOff v d) (htot : L + p.length < 1152921504606846976) :
    Calls Tryd.prog 84 #[.pointer (some ⟨d, 0, none⟩), v] w fun e w' => (∃ n, e = .returned (.tuple #[n, .nilIface])) ∧ DigFor w' d ks (msg ++ p) ∧ But d w w' := by
  obtain ⟨A, c, rfl, h1, h2, h3⟩ := hv
  by_cases hc : c = 0
  · subst hc
    obtain rfl : p = [] := List.eq_nil_of_length_eq_zero (by omega)
    refine (write_none A d ks msg L hL w h (by simpa using htot)).mono ?_
    rintro e w' ⟨he, h1, h2⟩
    exact ⟨⟨_, he⟩, by simpa using h1, h2⟩
  · rcases h3 with h3 | ⟨b, off, rfl, hlt, hcell⟩
    · exact absurd h3 hc
    refine (write_some d ks msg p L p.length hL rfl b off c w h hK hdK h1 h2 hlt (ho _ _ _ _ rfl (by omega)) hcell htot).mono ?_
    rintro e w' ⟨he, h1, h2⟩
    exact ⟨⟨_, he⟩, h1, h2⟩

set_option maxHeartbeats 4000000 in
set_option maxRecDepth 20000 in
theorem recordHash_any (ks p : List Int) (v : Value) (w : World) (hK : WAt w 4 ks) (hv : BIn w v p) (hp : p.length < 1125899906842624) :
    Calls Tryd.prog 38 #[v] w fun e w' => e = .returned (.agg ((sha ks (0 :: p)).map (Value.int .u8)).toArray) ∧ Below w.heap.size w w' := by
  have hz := zh_zero
  have hmw := fun p w => m_write p w
  generalize hG : ((List.replicate 32 (0 : Int)).map (Value.int .u8)).toArray = G at *
  have HGG := Lib.hid hG
  have hK0 : 4 < w.heap.size := (Array.getElem?_eq_some_iff.1 hK.2.2).1
  have HK := Lib.hid hK
  have HV := Lib.hid hv
  clear hG hK hv
  go_enter Tryd.func38, Tryd.ntmps38
  go_wp2_with (go_at_call 51; refine (cnew_any _).mono ?_; rintro e w1 ⟨rfl, HD1, HB1⟩; rw [show (w.alloc (Obj.cells G 54)).heap.size = w.heap.size + 1 by simp] at HD1; have HD1' := Lib.hid HD1; have HB1' := Lib.hid HB1; clear HD1 HB1)
  have HW1 : Hid (Below w.heap.size w w1) := Lib.hid ((((Below.refl w.heap.size w).alloc (Nat.le_refl _) _).trans (HB1'.out.mono (by simp))))
  have HR1 : Hid (BAt w1 w.heap.size 54 (List.replicate 32 0)) := Lib.hid (by
    have e : BAt (w.alloc (Obj.cells G 54)) w.heap.size 54 (List.replicate 32 0) := by rw [← HGG.out]; exact heap_alloc_new w _
    exact e.below HB1'.out (by simp))
  have HK1 : Hid (WAt w1 4 ks) := Lib.hid (HK.out.below HW1.out hK0)
  have hs1 : w.heap.size + 2 ≤ w1.heap.size := (Array.getElem?_eq_some_iff.1 HD1'.out.2.2).1
  have HA1 : Hid (Below w1.heap.size w1 (w1.alloc (Obj.cells #[Value.int IntKind.u8 0] 5))) := Lib.hid ((Below.refl w1.heap.size w1).alloc (Nat.le_refl _) _)
  have HC1 := Lib.hid (write_some (w.heap.size + 1) ks [] [0] 0 1 rfl rfl w1.heap.size 0 1 (w1.alloc (Obj.cells #[Value.int IntKind.u8 0] 5)) ((dig_new ks HD1'.out).below HA1.out) (HK1.out.below HA1.out (by omega)) (by omega) (Nat.le_refl _) (by omega) (by simp) (by omega) (fun j hj => by
    obtain rfl : j = 0 := by omega
    simp) (by omega))
  refine HC1.out.mono ?_
  rintro e w2 ⟨rfl, HF2, HB2⟩
  have HF2' : Hid (DigFor w2 (w.heap.size + 1) ks [0]) := Lib.hid HF2
  have HX2 : Hid (But (w.heap.size + 1) w1 w2) := Lib.hid ((((But.refl _ w1).alloc _).trans HB2))
  have HK2 : Hid (WAt w2 4 ks) := Lib.hid (HK1.out.but HX2.out (by omega))
  have HW2 : Hid (Below w.heap.size w w2) := Lib.hid (by
    have b := (But.of_below (d := w.heap.size + 1) HW1.out).trans HX2.out
    exact ⟨b.1, b.2.1, b.2.2.1, b.2.2.2.1, fun k hk => b.2.2.2.2 k hk (by omega)⟩)
  have HC2 := Lib.hid (write_any (w.heap.size + 1) ks [0] p 1 rfl v w2 HF2 HK2.out (by omega) (HV.out.below HW2.out) (HV.out.off (by omega)) (by omega))
  clear HF2 HB2
  go_upto_region 5 with (go_at_call 84; refine HC2.out.mono ?_; rintro e w3 ⟨⟨n3, rfl⟩, HF3, HB3⟩; have HF3' := Lib.hid HF3; have HB3' := Lib.hid HB3; clear HF3 HB3)
  have hms := fun p w => m_sum p w
  have hmn := fun p w => m_nil p w
  go_still_tail 5, (by kernel_rfl)
  have hs3 : w1.heap.size ≤ w3.heap.size := Nat.le_trans HX2.out.2.2.2.1 HB3'.out.2.2.2.1
  obtain ⟨w4, hw4⟩ : ∃ w4, w4 = (w3.alloc (Obj.cells G 54)).drew := ⟨_, rfl⟩
  change wpList _ _ _ _ _ (w3.alloc (Obj.cells G 54)).drew
  rw [← hw4]
  have HA3 : Hid (Below w3.heap.size w3 w4) := Lib.hid (by rw [hw4]; exact ((Below.refl w3.heap.size w3).alloc (Nat.le_refl _) _).drew)
  have HG4 : Hid (BAt w4 w3.heap.size 54 (List.replicate 32 0)) := Lib.hid (by rw [hw4, ← HGG.out]; exact heap_alloc_new w3 _)
  have HX4 : Hid (But (w.heap.size + 1) w3 w4) := Lib.hid (by rw [hw4]; exact (But.refl _ w3).alloc _)
  clear hw4
  have HC3 := Lib.hid (sum_any (w.heap.size + 1) ks ([0] ++ p) (p.length + 1) (by simp) w4 (HF3'.out.below HA3.out) ((HK2.out.but HB3'.out (by omega)).below HA3.out (by omega)) w3.heap.size 54 (List.replicate 32 0) HG4.out rfl (by omega))
  go_upto_region 6 with (go_at_call 83; refine HC3.out.mono ?_; rintro e w5 ⟨rfl, HG5, HX5⟩; have HG5' := Lib.hid HG5; have HX5' := Lib.hid HX5; clear HG5 HX5)
  go_step
  have HB5 : Hid (But (w.heap.size + 1) w1 w5) := Lib.hid (((HX2.out.trans HB3'.out).trans HX4.out).new HX5'.out (by omega))
  have HL5 : Hid ((sha ks ([0] ++ p)).length = 32) := Lib.hid (sha_len _ _)
  have HR5 : Hid (BAt w5 w.heap.size 54 (List.replicate 32 0)) := Lib.hid (HR1.out.but HB5.out (by omega))
  have HFY : Hid (sha ks (0 :: p) = sha ks ([0] ++ p)) := Lib.hid rfl
  generalize sha ks ([0] ++ p) = Y at *
  refine wpList_loadH rfl (.tmp 4) rfl w3.heap.size rfl 54 Y HG5'.out HL5.out ?_
  refine wpList_storeH rfl (.tmp 2) (.tmp 18) rfl w.heap.size Y rfl rfl 54 (List.replicate 32 0) HR5.out rfl HL5.out ?_
  intro w6 HR6 HX6
  go_wp2_with fail
  try simp only [Exit.inBlock, Exit.then]
  refine bodyPost_ret (results_cell_row rfl _ _ w.heap.size 54 _ (0, 0) _ rfl HR6.out Tryd.underlying54 rfl (arr_hh _ HL5.out)) rfl ?_
  refine ⟨by rw [HFY.out], ?_⟩
  have b := (But.of_below (d := w.heap.size + 1) HW1.out).trans (HB5.out)
  exact ⟨HX6.out.1.trans b.1, HX6.out.2.1.trans b.2.1, HX6.out.2.2.1.trans b.2.2.1, Nat.le_trans b.2.2.2.1 HX6.out.2.2.2.1, fun k hk => (HX6.out.2.2.2.2 k (Nat.lt_of_lt_of_le hk b.2.2.2.1) (by omega)).trans (b.2.2.2.2 k hk (by omega))⟩

theorem owns_mono {w : World} {base base' : Nat} {e : TypeId} {size : Nat} {v : Value} {n : Nat} {xs : List Value} (h : w.ownsRow base e size v n xs) (hb : base' ≤ base) : w.ownsRow base' e size v n xs :=
  ⟨h.1, h.2.imp id fun ⟨g, cap, cur, h1, h2, h3⟩ => ⟨g, cap, cur, h1, Nat.le_trans hb h2, h3⟩⟩

set_option maxHeartbeats 1000000 in
theorem impl_RecordHash_any (ks p : List Int) (v : Value) (w : World) (hK : WAt w 4 ks) (hv : BIn w v p) (hp : p.length < 1125899906842624) :
    Calls Tryd.prog 24 #[v] w fun e w' => (∃ g cap, e = .returned (.slice (some ⟨g, 0, none⟩) 32 cap) ∧ w'.ownsRow w.heap.size 5 1 (.slice (some ⟨g, 0, none⟩) 32 cap) 32 ((sha ks (0 :: p)).map (Value.int .u8))) ∧ Below w.heap.size w w' := by
  have HC := Lib.hid (recordHash_any ks p v w hK hv hp)
  have HL : Hid ((sha ks (0 :: p)).length = 32) := Lib.hid (sha_len _ _)
  clear hK hv hp
  generalize sha ks (0 :: p) = Y at *
  go_enter Tryd.func24, Tryd.ntmps24
  go_wp2_with fail
  refine HC.out.mono ?_
  rintro e w1 ⟨rfl, hb1⟩
  have HB1 := Lib.hid hb1
  clear hb1
  go_wp2_with fail
  refine (bytesOf_any Y w1 HL.out).mono ?_
  rintro e w2 ⟨⟨g, cap, rfl, ho⟩, hb2⟩
  have HO := Lib.hid ho
  have HB2 := Lib.hid hb2
  clear ho hb2
  go_wp2_with fail
  go_ret
  exact ⟨⟨g, cap, rfl, owns_mono HO.out (by have := HB1.out.size; omega)⟩, HB1.out.trans (HB2.out.mono HB1.out.size)⟩

theorem trWorks_any (ks : List Int) (w : World) (hK : WAt w 4 ks) :
    Calls Tryd.prog 14 #[] w fun e w' => e = .returned (.bool true) ∧ Below w.heap.size w w' := by
  have HC := Lib.hid (impl_RecordHash_any ks [] (.slice none 0 0) w hK (BIn.nil_ w) (by decide))
  clear hK
  go_enter Tryd.func14, Tryd.ntmps14
  go_wp2_with fail
  refine HC.out.mono ?_
  rintro e w1 ⟨⟨g, cap, rfl, ho⟩, hb1⟩
  have HB1 := Lib.hid hb1
  clear ho hb1
  go_wp2_with fail
  go_ret
  exact ⟨rfl, HB1.out⟩

set_option maxRecDepth 50000 in
/-- the table of the 64 words holds some words -/
theorem table_of {w : World} (hsh : w.ShapedOpen Tryd.prog) : ∃ ks, WAt w 4 ks := by
  obtain ⟨cs, hh, hs, hr⟩ := hsh.1 4 (List.replicate 64 (Value.int .u32 0)).toArray 128 (of_decide_eq_true (by kernel_rfl)) (by kernel_rfl)
  obtain ⟨ts, hts, _, hall⟩ := hr (by kernel_rfl)
  have hc : Tryd.prog.cellTypes Tryd.prog.depth 128 = some (List.replicate 64 101) := by kernel_rfl
  rw [hc] at hts
  cases hts
  have h64 : cs.size = 64 := by simpa using hs
  have hv : ∀ v ∈ cs.toList, ∃ n, v = Value.int .u32 n ∧ W32 n := by
    intro v hv
    obtain ⟨i, hi, rfl⟩ := List.getElem_of_mem hv
    have hi' : i < cs.size := by simpa using hi
    obtain ⟨u, hu, hok⟩ := hall i cs[i] (Array.getElem?_eq_getElem hi')
    have : u = 101 := by
      simp only [List.length_replicate] at hu
      rw [List.getElem?_replicate, if_pos (by omega)] at hu
      exact (Option.some.inj hu).symm
    subst this
    unfold Cell.ok at hok
    rw [Tryd.underlying101] at hok
    rw [show cs.toList[i] = cs[i] by simp]
    cases hw : cs[i] <;> rw [hw] at hok <;> simp at hok
    case int k n =>
      obtain ⟨rfl, hn⟩ := hok
      have h1 : IntKind.u32.min = 0 := by decide
      have h2 : IntKind.u32.max = 4294967295 := by decide
      have h3 := hn.1
      have h4 := hn.2
      rw [h1] at h3
      rw [h2] at h4
      exact ⟨n, rfl, h3, by omega⟩
  have hlist : ∀ l : List Value, (∀ v ∈ l, ∃ n, v = Value.int .u32 n ∧ W32 n) → ∃ ws : List Int, l = ws.map (Value.int .u32) ∧ ∀ x ∈ ws, W32 x := by
    intro l
    induction l with
    | nil => exact fun _ => ⟨[], rfl, fun _ h => by cases h⟩
    | cons a l ih =>
      intro h
      obtain ⟨n, rfl, hn⟩ := h a (List.mem_cons_self ..)
      obtain ⟨ws, rfl, hw⟩ := ih (fun v hv => h v (List.mem_cons_of_mem _ hv))
      refine ⟨n :: ws, rfl, fun x hx => ?_⟩
      rcases List.mem_cons.1 hx with rfl | hx
      · exact hn
      · exact hw x hx
  obtain ⟨ws, hws, hww⟩ := hlist _ hv
  refine ⟨ws, ?_, hww, ?_⟩
  · have := congrArg List.length hws
    simpa [h64] using this.symm
  · rw [hh, ← hws]

end Go.Proofs.YtokopcbmpnnkcaaDoor
