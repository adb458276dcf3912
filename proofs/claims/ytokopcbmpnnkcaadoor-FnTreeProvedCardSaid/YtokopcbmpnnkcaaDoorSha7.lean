/- SHA-256's Sum into an array of 32 bytes, and tlog.RecordHash (under way). Condition: the digest lies in one block. -/
import Derived.Test.YtokopcbmpnnkcaaDoorSha6
import Derived.ArgAppend
namespace Go.Proofs.YtokopcbmpnnkcaaDoor
open Go.RowKit

theorem info_byte1 : (Tryd.prog.info? 5).map (fun i => i.size) = some 1 := by kernel_rfl
theorem run_append_into (w : World) (ty : TypeId) (h g : Nat) (t t' : TypeId) (old ys : List Int) (hB : BAt w h t old) (hlo : old.length = 32) (hG : BAt w g t' ys) (hl : ys.length = 32) :
    (Builtin.append_ #[23, 23] ty #[.slice (some ⟨h, 0, none⟩) 0 32, .slice (some ⟨g, 0, none⟩) 32 32]).run Tryd.prog w = .ok (.slice (some ⟨h, 0, none⟩) 32 32) (w.setRow h (ys.map (Value.int .u8)).toArray) := by
  obtain ⟨i, hi, hz⟩ := Option.map_eq_some_iff.1 info_byte1
  have hone : ∀ u ∈ ys.map (Value.int .u8), u.oneCell' = true := by
    intro u hu
    obtain ⟨x, _, rfl⟩ := List.mem_map.1 hu
    rfl
  have hfc := run_firstCells_some (P := Tryd.prog) w i.size 32 ⟨g, 0, none⟩ 32 32 (ys.map (Value.int .u8)) (by simp [hl, hz]) (fun j u hj => by
    rw [Addr.add_lit, Nat.zero_add, cell_of_row w g j _ t' (0, 0) hG]
    simpa using hj)
  have hst := run_storeCells_at (P := Tryd.prog) h 0 t (ys.map (Value.int .u8)) 0 _ w hB (by simp [hl, hlo]) hone
  have e : ((old.map (Value.int .u8)).toArray.toList.take (0 + 0) ++ ys.map (Value.int .u8) ++ (old.map (Value.int .u8)).toArray.toList.drop (0 + 0 + (ys.map (Value.int .u8)).length)).toArray = (ys.map (Value.int .u8)).toArray := by
    have hd : (old.map (Value.int .u8)).toArray.toList.drop (0 + 0 + (ys.map (Value.int .u8)).length) = [] := List.drop_eq_nil_of_le (by
      show (old.map (Value.int .u8)).length ≤ _
      rw [List.length_map, List.length_map, hl, hlo]
      exact Nat.le_refl _)
    rw [hd, Nat.add_zero, List.take_zero, List.nil_append, List.append_nil]
  rw [e] at hst
  simp [Builtin.append_, run_underlying Tryd.underlying23, sizeOf, typeInfo, hi, Builtin.lenOf, hfc, Addr.add_lit, hst]
theorem wpList_append_into {ops : Array Oper} {rest : List Oper} {o : Oper} {a : Act} {w : World} {Q : Exit → Act → World → Prop} (hgd : o.guard = none) (s x : Operand)
    (ho : o.op = .call { callee := .builtin .append, args := #[s, x], argTypes := #[23, 23] }) (h g : Nat) (hs : a.eval s = .slice (some ⟨h, 0, none⟩) 0 32) (hx : a.eval x = .slice (some ⟨g, 0, none⟩) 32 32)
    (t t' : TypeId) (old ys : List Int) (hB : BAt w h t old) (hlo : old.length = 32) (hG : BAt w g t' ys) (hl : ys.length = 32)
    (hK : ∀ w', Hid (BAt w' h t ys) → Hid (But h w w') → wpList Tryd.prog ops Q rest (a.put o.dst (.slice (some ⟨h, 0, none⟩) 32 32)) w') : wpList Tryd.prog ops Q (o :: rest) a w := by
  refine wpList_plain hgd fun K hK' => ?_
  have hrun := run_append_into w o.type h g t t' old ys hB hlo hG hl
  unfold Oper.wp
  simp [execOp, ho, resolve, invoke, builtin, hs, hx, hrun, Result.andThen]
  exact hK' _ _ (hK _ (Lib.hid (setRow_heap w h _ _ t _ hB)) (Lib.hid ((But.refl h w).setRow _)))

theorem size_dig : (Tryd.prog.info? 105).map (·.size) = some 75 := by kernel_rfl
theorem size_cells {hs xs : List Int} {nx len : Int} (h1 : hs.length = 8) (h2 : xs.length = 64) : (Tryd.prog.info? 105).map (·.size) = some (digCells hs xs nx len).toArray.size := by
  rw [size_dig]; simp [digCells, h1, h2]
theorem one_cells (hs xs : List Int) (nx len : Int) : (digCells hs xs nx len).toArray.all (·.oneCell') = true := by
  rw [Array.all_eq_true_iff_forall_mem]
  intro v hv
  have hv' : v ∈ digCells hs xs nx len := by simpa using hv
  unfold digCells at hv'
  rcases List.mem_append.1 hv' with h | h
  · obtain ⟨z, _, rfl⟩ := List.mem_map.1 h; rfl
  · rcases List.mem_append.1 h with h | h
    · obtain ⟨z, _, rfl⟩ := List.mem_map.1 h; rfl
    · simp at h
      rcases h with rfl | rfl | rfl <;> rfl
theorem wpList_loadDig {ops : Array Oper} {rest : List Oper} {o : Oper} {a : Act} {w : World} {Q : Exit → Act → World → Prop} (hgd : o.guard = none) (x : Operand) (ho : o.op = .load 105 x)
    (d : Nat) (hx : a.eval x = .pointer (some ⟨d, 0, none⟩)) (hs xs : List Int) (nx len : Int) (hD : DigAt w d hs xs nx len) (h : wpList Tryd.prog ops Q rest (a.put o.dst (.agg (digCells hs xs nx len).toArray)) w) : wpList Tryd.prog ops Q (o :: rest) a w :=
  wpList_load_row hgd _ x ho d hx _ _ (0, 0) _ hD.2.2 Tryd.underlying105 rfl (size_cells hD.1 hD.2.1) h
theorem wpList_storeDig {ops : Array Oper} {rest : List Oper} {o : Oper} {a : Act} {w : World} {Q : Exit → Act → World → Prop} (hgd : o.guard = none) (x y : Operand) (ho : o.op = .store 105 x y)
    (d : Nat) (hx : a.eval x = .pointer (some ⟨d, 0, none⟩)) (hs xs : List Int) (nx len : Int) (hy : a.eval y = .agg (digCells hs xs nx len).toArray) (hs0 xs0 : List Int) (nx0 len0 : Int) (hD : DigAt w d hs0 xs0 nx0 len0) (h1 : hs.length = 8) (h2 : xs.length = 64)
    (h : ∀ w', Hid (DigAt w' d hs xs nx len) → Hid (But d w w') → wpList Tryd.prog ops Q rest (a.put o.dst undef) w') : wpList Tryd.prog ops Q (o :: rest) a w :=
  wpList_store_row hgd _ x y ho d _ hx hy _ _ hD.2.2 (size_cells h1 h2) (by simp [digCells, h1, h2, hD.1, hD.2.1]) (one_cells _ _ _ _) (h _ (Lib.hid ⟨h1, h2, setRow_heap w d _ _ _ _ hD.2.2⟩) (Lib.hid ((But.refl d w).setRow _)))

set_option maxHeartbeats 4000000 in
set_option maxRecDepth 20000 in
theorem sum_any (d : Nat) (ks msg : List Int) (L : Nat) (hL : msg.length = L) (w : World) (hF : DigFor w d ks msg) (hK : WAt w 4 ks) (h : Nat) (t : TypeId) (old : List Int) (hB : BAt w h t old) (hlo : old.length = 32) (hL60 : L < 1152921504606840000) :
    Calls Tryd.prog 83 #[.pointer (some ⟨d, 0, none⟩), .slice (some ⟨h, 0, none⟩) 0 32] w fun e w' => e = .returned (.slice (some ⟨h, 0, none⟩) 32 32) ∧ BAt w' h t (sha ks msg) ∧ But h w w' := by
  have hK0 : 4 < w.heap.size := (Array.getElem?_eq_some_iff.1 hK.2.2).1
  have hh0 : h < w.heap.size := (Array.getElem?_eq_some_iff.1 hB).1
  obtain ⟨xs, hdig, hxs⟩ := hF
  have HDG := Lib.hid hdig
  have HDF : Hid (∀ wx dx, DigAt wx dx (sh ks msg ini (msg.length / 64)).list xs ((msg.length % 64 : Nat) : Int) ((msg.length : Nat) : Int) → DigFor wx dx ks msg) := Lib.hid (fun wx dx hx => ⟨xs, hx, hxs⟩)
  have hz := dig_zero
  have HZ : Hid (DigAt (w.alloc (Obj.cells (digCells (List.replicate 8 0) (List.replicate 64 0) 0 0).toArray 105)) w.heap.size (List.replicate 8 0) (List.replicate 64 0) 0 0) := Lib.hid ⟨rfl, rfl, heap_alloc_new w _⟩
  generalize (digCells (List.replicate 8 0) (List.replicate 64 0) 0 0).toArray = G at *
  have hz1 := z32_zero
  generalize hG1 : ((List.replicate 32 (0 : Int)).map (Value.int .u8)).toArray = G1 at *
  have HGG := Lib.hid hG1
  clear hG1
  have HK := Lib.hid hK
  have HL := Lib.hid hL
  have HBH := Lib.hid hB
  have HLO := Lib.hid hlo
  generalize hH1 : (sh ks msg ini (msg.length / 64)).list = S1 at *
  generalize hN1 : ((msg.length % 64 : Nat) : Int) = N1 at *
  generalize hN2 : ((msg.length : Nat) : Int) = N2 at *
  clear hH1 hN1 hN2 hdig hxs hK hL hB hlo
  have HKW : Hid (∀ wx, But w.heap.size (w.alloc (Obj.cells G 105)) wx → WAt wx 4 ks) := Lib.hid (fun wx hb => (HK.out.below ((Below.refl w.heap.size w).alloc (Nat.le_refl _) _) hK0).but hb (by omega))
  have HS8 : Hid (S1.length = 8) := Lib.hid HDG.out.1
  have HX64 : Hid (xs.length = 64) := Lib.hid HDG.out.2.1
  go_enter Tryd.func83, Tryd.ntmps83
  go_upto_region 2 with (go_at_call 85; refine (approved_any _).mono ?_; rintro e w' ⟨rfl, rfl⟩)
  go_step
  go_upto_region 4 with (first
    | ((with_reducible refine wpList_loadDig ?a1 (.tmp 9) ?a2 d ?a3 S1 xs N1 N2 HDG.out ?a4); (case a1 => rfl); (case a2 => rfl); (case a3 => rfl))
    | ((with_reducible refine wpList_storeDig ?b1 (.tmp 5) (.tmp 10) ?b2 w.heap.size ?b3 S1 xs N1 N2 ?b4 _ _ _ _ HZ.out HS8.out HX64.out ?b5); (case b1 => rfl); (case b2 => rfl); (case b3 => rfl); (case b4 => rfl); intro w2 HD2 HB2)
    | (go_at_call 86; refine (checkSum_any w.heap.size ks msg L HL.out w2 (HDF.out _ _ HD2.out) (HKW.out w2 HB2.out) (by omega) hL60).mono ?_; rintro e w3 ⟨rfl, HB3, hs3, xs3, nx3, len3, HD3⟩; have HB3' := Lib.hid HB3; have HD3' := Lib.hid HD3; clear HB3 HD3; obtain ⟨Y, hY⟩ : ∃ Y, Y = sha ks msg := ⟨_, rfl⟩; rw [← hY]; have HYY := Lib.hid hY; have HYL : Hid (Y.length = 32) := Lib.hid (by rw [hY]; exact sha_len _ _); clear hY; have HG31 : Hid (BAt (w3.alloc (Obj.cells G1 53)) w3.heap.size 53 (List.replicate 32 0)) := Lib.hid (by rw [← HGG.out]; exact heap_alloc_new w3 _))
    | ((with_reducible refine wpList_store32 ?c1 (.tmp 6) (.tmp 11) ?c2 w3.heap.size Y ?c3 ?c4 53 (List.replicate 32 0) HG31.out ?c5 HYL.out ?c6); (case c1 => rfl); (case c2 => rfl); (case c3 => rfl); (case c4 => rfl); (case c5 => rfl); intro w5 HG5 HX5))
  have u74 : w5.cell? ⟨w.heap.size, 74, none⟩ = some (.bool false) := ((HD3'.out.below ((Below.refl w3.heap.size w3).alloc (Nat.le_refl _) _)).but HX5.out (by have := (Array.getElem?_eq_some_iff.1 HD3'.out.2.2).1; omega)).cell 74 |>.1.trans (dig_flag HD3'.out.1 HD3'.out.2.1)
  go_upto_region 6 with fail
  have hs3 : w.heap.size + 1 ≤ w3.heap.size := (Array.getElem?_eq_some_iff.1 HD3'.out.2.2).1
  have HW5 : Hid (Below w.heap.size w w5) := Lib.hid (by
    have b1 : Below w.heap.size w (w.alloc (Obj.cells G 105)) := (Below.refl w.heap.size w).alloc (Nat.le_refl _) _
    have b2 := ((((But.of_below (d := w.heap.size) b1).trans HB2.out).trans HB3'.out).alloc (Obj.cells G1 53)).new HX5.out (by omega)
    exact ⟨b2.1, b2.2.1, b2.2.2.1, b2.2.2.2.1, fun k hk => b2.2.2.2.2 k hk (by omega)⟩)
  have HH5 : Hid (BAt w5 h t old) := Lib.hid (HBH.out.below HW5.out hh0)
  go_wp2_with (at_builtin; refine wpList_append_into rfl (.tmp 17) (.tmp 18) rfl h w3.heap.size rfl rfl t 53 old Y HH5.out HLO.out HG5.out HYL.out ?_; intro w6 HH6 HX6)
  go_ret
  refine ⟨rfl, HYY.out ▸ HH6.out, ?_⟩
  exact (But.of_below HW5.out).trans HX6.out

end Go.Proofs.YtokopcbmpnnkcaaDoor
