/- impl.toHashes: lists of bytes as hashes. Condition: the lists lie in memory, fewer than the form's reach allows. -/
import Derived.Test.YtokopcbmpnnkcaaDoorT4
import Derived.Deep.DeepAppendWide
namespace Go.Proofs.YtokopcbmpnnkcaaDoor
open Go.RowKit

/-- a row of hashes of one's own -/
def HOwn (w : World) (base : Nat) (v : Value) (hs : List (List Int)) : Prop := (∀ h ∈ hs, h.length = 32) ∧ w.ownsRow base 54 32 v hs.length (hs.flatMap hcs)
theorem flat_at (hs : List (List Int)) (h32 : ∀ h ∈ hs, h.length = 32) (j i : Nat) (h : List Int) (hj : hs[j]? = some h) (hi : i < 32) : (hs.flatMap hcs)[j * 32 + i]? = (hcs h)[i]? := by
  induction hs generalizing j with
  | nil => simp at hj
  | cons a r ih =>
    have ha : (hcs a).length = 32 := by rw [hcs_len]; exact h32 a (by simp)
    rw [List.flatMap_cons]
    cases j with
    | zero =>
      obtain rfl : a = h := by simpa using hj
      rw [Nat.zero_mul, Nat.zero_add, List.getElem?_append_left (by omega)]
    | succ j =>
      rw [List.getElem?_append_right (by rw [ha, Nat.add_mul]; omega), ha, show (j + 1) * 32 + i - 32 = j * 32 + i by omega]
      exact ih (fun x hx => h32 x (by simp [hx])) j (by simpa using hj)
theorem HOwn.in_ {w : World} {base : Nat} {v : Value} {hs : List (List Int)} (h : HOwn w base v hs) : HIn w v hs := by
  obtain ⟨h32, ho⟩ := h
  refine ⟨h32, ?_⟩
  have ho' := ho
  rcases ho.2 with ⟨rfl, h0⟩ | ⟨g, cap, cur, rfl, hb, hh, hnc, hm, hcs', htk⟩
  · exact ⟨none, 0, by rw [h0], by omega, by omega, .inl rfl⟩
  · refine ⟨_, cap, rfl, hnc, by simpa [maxLen] using hm, .inr ⟨g, 0, rfl, (ho.lt g rfl).2, fun j x hj i u hu => ?_⟩⟩
    have hi : i < 32 := by
      have := (List.getElem?_eq_some_iff.1 hu).1
      rw [hcs_len, h32 x (List.mem_of_getElem? hj)] at this
      exact this
    have hjl : j < hs.length := (List.getElem?_eq_some_iff.1 hj).1
    rw [Nat.zero_add, ho'.cellAt (j * 32 + i) (by omega), flat_at hs h32 j i x hj hi]
    exact hu
theorem hash_src (w : World) (h : List Int) (t : TypeId) : ∀ j x, (hcs h)[j]? = some x → (w.alloc (Obj.cells (hcs h).toArray t)).cell? ((⟨w.heap.size, 0, none⟩ : Addr).add j) = some x := by
  intro j x hj
  rw [Addr.add_lit, Nat.zero_add, cell_of_row (w.alloc _) _ _ _ t (0, 0) (heap_alloc_new w _)]
  simpa using hj
theorem owns_below {w w' : World} {base : Nat} {e : TypeId} {size : Nat} {v : Value} {n : Nat} {xs : List Value} (h : w.ownsRow base e size v n xs) (hb : Below w.heap.size w w') : w'.ownsRow base e size v n xs :=
  ⟨h.1, h.2.imp id fun ⟨g, cap, cur, h1, h2, h3, h4⟩ => ⟨g, cap, cur, h1, h2, (hb.block g (Array.getElem?_eq_some_iff.1 h3).1).trans h3, h4⟩⟩
theorem zh_cells : (Value.agg ((List.replicate 32 (0 : Int)).map (Value.int .u8)).toArray).cells.size = 32 := by rfl
theorem fold_put (l : List Value) : ∀ (a : Array Value) (k : Nat), a.size = k + l.length → List.foldl (fun (cs : Array Value) (x : Value × Nat) => cs.setIfInBounds x.snd x.fst) a (l.zipIdx k) = (a.toList.take k ++ l).toArray := by
  induction l with
  | nil =>
    intro a k h
    obtain rfl : a.size = k := by simpa using h
    rw [List.zipIdx_nil, List.foldl_nil, List.append_nil, show a.size = a.toList.length by simp, List.take_length]
  | cons v l ih =>
    intro a k h
    rw [List.zipIdx_cons, List.foldl_cons, ih _ (k + 1) (by simp at h ⊢; omega)]
    congr 1
    have hk : k < a.toList.length := by simp at h ⊢; omega
    simp only [Array.toList_setIfInBounds]
    rw [List.set_eq_take_append_cons_drop, if_pos hk, List.take_append, List.length_take, Nat.min_eq_left (by omega), List.take_take, Nat.min_eq_right (by omega), show k + 1 - k = 1 by omega]
    simp
theorem fold32 (x : List Int) (h : x.length = 32) : List.foldl (fun (cs : Array Value) (x : Value × Nat) => cs.setIfInBounds x.snd x.fst) #[Value.int IntKind.u8 0, Value.int IntKind.u8 0, Value.int IntKind.u8 0, Value.int IntKind.u8 0, Value.int IntKind.u8 0, Value.int IntKind.u8 0, Value.int IntKind.u8 0, Value.int IntKind.u8 0, Value.int IntKind.u8 0, Value.int IntKind.u8 0, Value.int IntKind.u8 0, Value.int IntKind.u8 0, Value.int IntKind.u8 0, Value.int IntKind.u8 0, Value.int IntKind.u8 0, Value.int IntKind.u8 0, Value.int IntKind.u8 0, Value.int IntKind.u8 0, Value.int IntKind.u8 0, Value.int IntKind.u8 0, Value.int IntKind.u8 0, Value.int IntKind.u8 0, Value.int IntKind.u8 0, Value.int IntKind.u8 0, Value.int IntKind.u8 0, Value.int IntKind.u8 0, Value.int IntKind.u8 0, Value.int IntKind.u8 0, Value.int IntKind.u8 0, Value.int IntKind.u8 0, Value.int IntKind.u8 0, Value.int IntKind.u8 0] ((x.map (Value.int IntKind.u8)).zipIdx) = (hcs x).toArray := by
  rw [fold_put (x.map (Value.int IntKind.u8)) _ 0 (by simp [h])]
  simp [hcs]
set_option maxHeartbeats 4000000 in
set_option maxRecDepth 50000 in
theorem toHashes_any (ls : List (List Int)) (v : Value) (w : World) (hv : RowsIn w v ls) (hl : ls.length ≤ 5864062014640) :
    Calls Tryd.prog 30 #[v] w fun e w' => (∃ v', e = .returned v' ∧ HOwn w' w.heap.size v' (ls.map h32)) ∧ Below w.heap.size w w' := by
  obtain ⟨i0, hi0, hz0, hz1, hz2⟩ := info_parts info_hash
  have HI0 := Lib.hid hi0
  have HZ0 := Lib.hid hz0
  have HZ1 := Lib.hid hz1
  have HZ2 := Lib.hid hz2
  obtain ⟨A, c, rfl, hc1, hc2, hc3⟩ := hv
  have HC3 := Lib.hid hc3
  clear hi0 hz0 hz1 hz2 hc3
  go_enter Tryd.func30, Tryd.ntmps30
  go_wp2
  go_loopw [9, 3] (fun i o wr => ∃ k : Nat, i = .int .i64 k ∧ k ≤ ls.length ∧ Hid (HOwn wr w.heap.size o ((ls.take k).map h32)) ∧ Hid (Below w.heap.size w wr)) (fun i _ _ => ls.length - (intOf i).toNat)
  case atStart => exact ⟨0, rfl, Nat.zero_le _, Lib.hid ⟨by simp, by simp, .inr ⟨w.heap.size, 0, #[], rfl, Nat.le_refl _, heap_alloc_new w _, Nat.le_refl _, by simp [maxLen], rfl, rfl⟩⟩, Lib.hid ((Below.refl _ _).alloc (Nat.le_refl _) _)⟩
  case round =>
    obtain ⟨k, rfl, hk, hO, hB⟩ := hrel
    by_cases hlt : k < ls.length
    · obtain ⟨b, off, rfl, hblt, hcell⟩ := HC3.out.resolve_left (by omega)
      obtain ⟨u, hu, hui⟩ := hcell k ls[k] (List.getElem?_eq_getElem hlt)
      have hcu : wr.cell? ⟨b, off + k, none⟩ = some u := (hB.out.cell (p := ⟨b, off + k, none⟩) hblt).trans hu
      have HH := Lib.hid (hashOf_any ls[k] u wr (hui.below hB.out))
      have HTK : Hid ((ls.take (k + 1)).map h32 = (ls.take k).map h32 ++ [h32 ls[k]]) := Lib.hid (by rw [List.take_succ_eq_append_getElem hlt, List.map_append]; rfl)
      have HLK : Hid ((h32 ls[k]).length = 32) := Lib.hid (h32_len _)
      generalize h32 ls[k] = x at *
      clear hu hui hcell
      have hkl : ((ls.take k).map h32).length = k := by simp; omega
      have HKL := Lib.hid hkl
      clear hkl
      generalize (ls.take k).map h32 = os at *
      have hfold := fold32 x HLK.out
      have hxl : x.length = 32 := HLK.out
      go_wp2_with (first
        | (go_at_call 31; (with_reducible refine HH.out.mono ?_); rintro e w1 ⟨rfl, hb1⟩; have HB1 := Lib.hid hb1; clear hb1)
        | (at_builtin; (refine wpList_append_own_wide _ rfl (.tmp 13) (.tmp 16) 40 rfl w.heap.size 54 i0 _ 32 32 Tryd.underlying40 HI0.out HZ0.out HZ1.out HZ2.out zh_cells (by omega) _ os.length (os.flatMap hcs) rfl (World.ownsRow.alloc (owns_below hO.out.2 HB1.out) _) ⟨w1.heap.size, 0, none⟩ 1 1 (hcs x) rfl (by rw [hcs_len, HLK.out]) (hash_src _ _ _) (hcs_one x) (by rw [HKL.out]; unfold maxLen; omega) (by rw [HKL.out]; omega) (by have := hB.out.size; have := HB1.out.size; simp; omega) ?_); intro v2 w2 hown2 hgrow2 hnil2; have HO2 := Lib.hid hown2; have HG2 := Lib.hid hgrow2; clear hown2 hgrow2 hnil2))
      clear hfold hxl
      go_roundw
      case rel =>
        refine ⟨k + 1, by go_num, by omega, Lib.hid ?_, Lib.hid ?_⟩
        · rw [HTK.out]
          refine ⟨fun h hm => ?_, ?_⟩
          · rcases List.mem_append.1 hm with hm | hm
            · exact hO.out.1 h hm
            · obtain rfl : h = x := by simpa using hm
              exact HLK.out
          · have h := HO2.out
            rw [List.length_append, List.flatMap_append]
            simpa using h
        · have hb1 := hB.out.trans (HB1.out.mono hB.out.size)
          exact (hb1.alloc hb1.size _).grown HG2.out (by have := hb1.size; simp; omega) (fun j hj => (hO.out.2.lt j hj).1)
      case measure => simp [intOf]; omega
    · obtain rfl : k = ls.length := by omega
      go_wp2
      go_ret
      exact ⟨⟨_, rfl, by have := hO.out; rwa [List.take_length] at this⟩, hB.out⟩

end Go.Proofs.YtokopcbmpnnkcaaDoor
