/- The contract of the reference's ParseVersion. Condition: the text is no longer than 2 to the power of 20. -/
import Derived.Test.YtienkoadkhcghaaSpec3
import Derived.Handy
namespace Go.Proofs.Ytienkoadkhcghaa
open Go.RowKit
attribute [local go_sem] app_str

namespace Sem
def sBuild (s : Bs) : List Bs := if firstOf s 43 < s.length then ids (s.drop (firstOf s 43 + 1)) else []
def sPre (s : Bs) : List Bs := if firstOf (s.take (firstOf s 43)) 45 < (s.take (firstOf s 43)).length then ids ((s.take (firstOf s 43)).drop (firstOf (s.take (firstOf s 43)) 45 + 1)) else []
def sNums (s : Bs) : List Bs := ids ((s.take (firstOf s 43)).take (firstOf (s.take (firstOf s 43)) 45))
def sParse : Bs → Option (List Bs × List Bs × List Bs)
  | [] => none
  | c :: s => if c = 118 then (if verGood (sNums s) (sPre s) (sBuild s) then some (sNums s, sPre s, sBuild s) else none) else none
theorem firstOf_le (s : Bs) (b : UInt8) : firstOf s b ≤ s.length := by
  unfold firstOf
  exact List.Sublist.length_le (List.takeWhile_sublist _)
end Sem

def nilS : Value := .slice none 0 0
def SRet (o : Option (List (List UInt8) × List (List UInt8) × List (List UInt8))) (e : Ending) (w : World) : Prop :=
  (∃ v1 v2 v3 ns ps bs, o = some (ns, ps, bs) ∧ e = .returned (.tuple #[.agg #[v1, v2, v3], .bool true]) ∧ StrsAt w v1 ns ∧ StrsAt w v2 ps ∧ StrsAt w v3 bs) ∨
  (o = none ∧ e = .returned (.tuple #[.agg #[nilS, nilS, nilS], .bool false]))

theorem strs_nil (w : World) : StrsAt w nilS [] := ⟨none, 0, rfl, Nat.le_refl _, by omega, .inl rfl⟩

theorem ids_len (l : List UInt8) : (Sem.ids l).length ≤ l.length + 1 ∧ ∀ x ∈ Sem.ids l, x.length ≤ l.length := by
  induction l with
  | nil => simp [Sem.ids]
  | cons c r ih =>
    unfold Sem.ids
    split
    · refine ⟨by simp; omega, fun x hx => ?_⟩
      rcases List.mem_cons.1 hx with e | e
      · subst e; simp
      · have := ih.2 x e; simp; omega
    · split
      · simp
      · rename_i y ys hy
        rw [hy] at ih
        refine ⟨by have := ih.1; simp at this ⊢; omega, fun x hx => ?_⟩
        rcases List.mem_cons.1 hx with e | e
        · subst e; have := ih.2 y (by simp); simp; omega
        · have := ih.2 x (by simp [e]); simp; omega

theorem ids_bound {l : List UInt8} (h : l.length ≤ 1048575) : (Sem.ids l).length ≤ 1048577 ∧ ∀ x ∈ Sem.ids l, x.length ≤ 1048576 := by
  have k := ids_len l
  exact ⟨by omega, fun x hx => by have := k.2 x hx; omega⟩
theorem set3_cells {w : World} {B : Nat} {x y z : Value} (z0 : w.cell? ⟨B, 0, none⟩ = some x) (z1 : w.cell? ⟨B, 1, none⟩ = some y) (z2 : w.cell? ⟨B, 2, none⟩ = some z) (a b c : Value) :
    (((w.setCell ⟨B, 0, none⟩ a).setCell ⟨B, 1, none⟩ b).setCell ⟨B, 2, none⟩ c).cell? ⟨B, 0, none⟩ = some a ∧ (((w.setCell ⟨B, 0, none⟩ a).setCell ⟨B, 1, none⟩ b).setCell ⟨B, 2, none⟩ c).cell? ⟨B, 1, none⟩ = some b ∧
      (((w.setCell ⟨B, 0, none⟩ a).setCell ⟨B, 1, none⟩ b).setCell ⟨B, 2, none⟩ c).cell? ⟨B, 2, none⟩ = some c := by
  have n01 : (⟨B, 0, none⟩ : Addr) ≠ ⟨B, 1, none⟩ := by simp
  have n02 : (⟨B, 0, none⟩ : Addr) ≠ ⟨B, 2, none⟩ := by simp
  have n12 : (⟨B, 1, none⟩ : Addr) ≠ ⟨B, 2, none⟩ := by simp
  refine ⟨?_, ?_, ?_⟩
  · rw [World.cell?_setCell_other _ _ _ _ n02.symm, World.cell?_setCell_other _ _ _ _ n01.symm]; exact World.cell?_setCell_same _ _ _ z0
  · rw [World.cell?_setCell_other _ _ _ _ n12.symm]; exact World.cell?_setCell_same _ _ _ (by rw [World.cell?_setCell_other _ _ _ _ n01]; exact z1)
  · exact World.cell?_setCell_same _ _ _ (by rw [World.cell?_setCell_other _ _ _ _ n12, World.cell?_setCell_other _ _ _ _ n02]; exact z2)
theorem StrsAt.set {w : World} {v : Value} {xs : List (List UInt8)} (h : StrsAt w v xs) {B : Nat} (hne : ∀ g, v.ownBlock = some g → B < g) (k : Nat) (u : Value) : StrsAt (w.setCell ⟨B, k, none⟩ u) v xs := by
  obtain ⟨A, c, hv, hc, hm, h⟩ := h
  refine ⟨A, c, hv, hc, hm, ?_⟩
  rcases h with h | ⟨b, off, hA, hlt, hcell⟩
  · exact .inl h
  · have hb : B < b := hne b (by rw [hv, hA]; rfl)
    refine .inr ⟨b, off, hA, by simpa using hlt, fun k u hu => ?_⟩
    rw [World.cell?_setCell_other _ _ _ _ (fun e => by cases e; omega)]
    exact hcell k u hu

/-- the two structs of the call: the result's, still empty, and the one that is filled -/
structure Own2 (w wr : World) (v1 v2 v3 : Value) : Prop where
  bel : Below w.heap.size w wr
  sz : w.heap.size + 2 ≤ wr.heap.size
  r : wr.heap[w.heap.size]? = some (.cells #[.slice none 0 0, .slice none 0 0, .slice none 0 0] 51 (0, 0))
  v : wr.heap[w.heap.size + 1]? = some (.cells #[v1, v2, v3] 51 (0, 0))
theorem Own2.below {w wr wr' : World} {v1 v2 v3 : Value} (h : Own2 w wr v1 v2 v3) (hb : Below wr.heap.size wr wr') : Own2 w wr' v1 v2 v3 := by
  have := h.sz
  exact ⟨h.bel.trans (hb.mono (by omega)), Nat.le_trans h.sz hb.size, (hb.block _ (by omega)).trans h.r, (hb.block _ (by omega)).trans h.v⟩
theorem Own2.set {w wr : World} {v1 v2 v3 : Value} (h : Own2 w wr v1 v2 v3) (k : Nat) (u : Value) {a b c : Value} (e : #[v1, v2, v3].setIfInBounds k u = #[a, b, c]) : Own2 w (wr.setCell ⟨w.heap.size + 1, k, none⟩ u) a b c := by
  refine ⟨h.bel.setCell (by simp) u, by simpa using h.sz, ?_, ?_⟩
  · rw [heap_setCell_other _ _ _ _ (by simp)]; exact h.r
  · rw [heap_setCell_same _ _ _ _ _ _ h.v, e]
theorem own2_init (w : World) : Own2 w ((w.alloc (Obj.cells #[.slice none 0 0, .slice none 0 0, .slice none 0 0] 51)).alloc (Obj.cells #[.slice none 0 0, .slice none 0 0, .slice none 0 0] 51)) (.slice none 0 0) (.slice none 0 0) (.slice none 0 0) := by
  refine ⟨(bl_new w _).alloc (by simp) _, by simp, ?_, ?_⟩
  · exact (Below.heap_alloc _ _ _ (by simp)).trans (heap_alloc_new w _)
  · have := heap_alloc_new (w.alloc (Obj.cells #[.slice none 0 0, .slice none 0 0, .slice none 0 0] 51)) (Obj.cells #[.slice none 0 0, .slice none 0 0, .slice none 0 0] 51)
    simpa using this
theorem Own2.cells {w wr : World} {v1 v2 v3 : Value} (h : Own2 w wr v1 v2 v3) :
    (wr.cell? ⟨w.heap.size, 0, none⟩ = some (.slice none 0 0) ∧ wr.cell? ⟨w.heap.size, 1, none⟩ = some (.slice none 0 0) ∧ wr.cell? ⟨w.heap.size, 2, none⟩ = some (.slice none 0 0)) ∧
    (wr.cell? ⟨w.heap.size + 1, 0, none⟩ = some v1 ∧ wr.cell? ⟨w.heap.size + 1, 1, none⟩ = some v2 ∧ wr.cell? ⟨w.heap.size + 1, 2, none⟩ = some v3) ∧
    (wr.frozen? ⟨w.heap.size, 0, none⟩ = false ∧ wr.frozen? ⟨w.heap.size, 1, none⟩ = false ∧ wr.frozen? ⟨w.heap.size, 2, none⟩ = false) ∧
    (wr.frozen? ⟨w.heap.size + 1, 0, none⟩ = false ∧ wr.frozen? ⟨w.heap.size + 1, 1, none⟩ = false ∧ wr.frozen? ⟨w.heap.size + 1, 2, none⟩ = false) := by
  simp [World.cell?, World.frozen?, h.r, h.v]

set_option maxHeartbeats 2000000 in
theorem parseVersion_any (l : List UInt8) (w : World) (hl : l.length ≤ 1048576) :
    Calls Try.prog 47 #[str l] w fun e w' => SRet (Sem.sParse l) e w' ∧ Below w.heap.size w w' := by
  rcases l with _ | ⟨c0, s⟩
  · go_enter Try.func47, Try.ntmps47
    go_wp2
    go_returns
    exact ⟨.inr ⟨rfl, rfl⟩, by (repeat (first | (with_reducible refine bl_put ?_ _ _) | (with_reducible refine bl_drewN ?_ _) | (with_reducible exact bl_new _ _) | exact Below.refl _ _))⟩
  · have hlen : s.length + 1 ≤ 1048576 := hl
    have hbR0 := get_bl (c0 :: s)
    have heR0 : (c0 :: s : List UInt8).isEmpty = false := rfl
    have hfR0 : (!(c0 :: s : List UInt8).isEmpty) = true := rfl
    have hdR0 : (c0 :: s : List UInt8).drop 1 = s := rfl
    have hnR0 : (c0 :: s : List UInt8).length = s.length + 1 := rfl
    have hpR0 : 0 < (c0 :: s : List UInt8).length := by simp
    by_cases hc0 : c0 = 118
    · obtain ⟨hx0, hy0⟩ := hd_eq (d := 118) s hc0
      change (Sem.bt (c0 :: s) 0 != 118) = false at hx0
      have HR : Hid (Sem.sParse (c0 :: s) = if Sem.verGood (Sem.sNums s) (Sem.sPre s) (Sem.sBuild s) then some (Sem.sNums s, Sem.sPre s, Sem.sBuild s) else none) := Lib.hid (by rw [Sem.sParse, if_pos hc0])
      clear hc0 hy0
      generalize hGR0 : c0 :: s = R0 at *
      have HDR0 := Lib.hid hdR0
      have HNR0 := Lib.hid hnR0
      clear hGR0 hdR0 hnR0
      go_enter Try.func47, Try.ntmps47
      go_wp2_with fail
      rw [ext_str, HDR0.out, List.take_of_length_le (by have := HNR0.out; omega)]
      refine (veFirst_any s 43 _ (by omega)).mono ?_
      rintro e w' ⟨rfl, rfl⟩
      have hp := Sem.firstOf_le s 43
      generalize hP : Sem.firstOf s 43 = p at *
      have HP := Lib.hid hP
      clear hP
      have o0 := own2_init w
      by_cases hpl : p < s.length
      · go_wp2_with fail
        rw [ext_str, List.take_of_length_le (by simp)]
        refine (veSplit_any (s.drop (p + 1)) _ (by rw [List.length_drop]; omega)).mono ?_
        rintro e w1 ⟨⟨v3, rfl, hs3, hf3⟩, hb1⟩
        have HBS : Hid (Sem.sBuild s = Sem.ids (s.drop (p + 1))) := Lib.hid (by unfold Sem.sBuild; rw [HP.out, if_pos hpl])
        have HKB := Lib.hid (ids_bound (l := s.drop (p + 1)) (by rw [List.length_drop]; omega))
        generalize Sem.ids (s.drop (p + 1)) = bs at *
        have hs3c := hs3
        obtain ⟨A3, c3, rfl, -⟩ := hs3c
        have o0b := o0.below hb1
        have hf3' : ∀ g, (Value.slice A3 bs.length c3).ownBlock = some g → w.heap.size + 1 < g := fun g hg => by have h1 := hf3 g hg; have h2 := o0.sz; omega
        have o1 := o0b.set 2 (Value.slice A3 bs.length c3) (a := .slice none 0 0) (b := .slice none 0 0) (c := (Value.slice A3 bs.length c3)) rfl
        replace hs3 := hs3.set hf3' 2 (Value.slice A3 bs.length c3)
        obtain ⟨⟨z0, z1, z2⟩, ⟨y0, y1, y2⟩, ⟨f0, f1, f2⟩, ⟨g0, g1, g2⟩⟩ := o0b.cells
        clear hb1 o0 hf3
        go_wp2_with fail
        clear z0 z1 z2 y0 y1 y2 f0 f1 f2 g0 g1 g2
        generalize w1.setCell ⟨w.heap.size + 1, 2, none⟩ (Value.slice A3 bs.length c3) = wA at *
        rw [ext_str, List.drop_zero, Nat.sub_zero]
        have hs1l : (s.take p).length ≤ p := by rw [List.length_take]; omega
        generalize hS1 : s.take p = s1 at *
        have HS1 := Lib.hid hS1
        clear hS1
        refine (veFirst_any s1 45 _ (by omega)).mono ?_
        rintro e w' ⟨rfl, rfl⟩
        have hq := Sem.firstOf_le s1 45
        generalize hQ : Sem.firstOf s1 45 = q at *
        have HQ := Lib.hid hQ
        clear hQ
        by_cases hql : q < s1.length
        · go_wp2_with fail
          rw [ext_str, List.take_of_length_le (by simp)]
          refine (veSplit_any (s1.drop (q + 1)) _ (by rw [List.length_drop]; omega)).mono ?_
          rintro e w2 ⟨⟨v2, rfl, hs2, hf2⟩, hb2⟩
          have HPS : Hid (Sem.sPre s = Sem.ids (s1.drop (q + 1))) := Lib.hid (by unfold Sem.sPre; rw [HP.out, HS1.out, HQ.out, if_pos hql])
          have HKP := Lib.hid (ids_bound (l := s1.drop (q + 1)) (by rw [List.length_drop]; omega))
          generalize Sem.ids (s1.drop (q + 1)) = ps at *
          have hs2c := hs2
          obtain ⟨A2, c2, rfl, -⟩ := hs2c
          have o1b := o1.below hb2
          replace hs3 := hs3.below hb2
          have hf2' : ∀ g, (Value.slice A2 ps.length c2).ownBlock = some g → w.heap.size + 1 < g := fun g hg => by have h1 := hf2 g hg; have h2 := o1.sz; omega
          have o2 := o1b.set 1 (Value.slice A2 ps.length c2) (a := .slice none 0 0) (b := (Value.slice A2 ps.length c2)) (c := (Value.slice A3 bs.length c3)) rfl
          replace hs2 := hs2.set hf2' 1 (Value.slice A2 ps.length c2)
          replace hs3 := hs3.set hf3' 1 (Value.slice A2 ps.length c2)
          obtain ⟨⟨z0, z1, z2⟩, ⟨y0, y1, y2⟩, ⟨f0, f1, f2⟩, ⟨g0, g1, g2⟩⟩ := o1b.cells
          clear hb2 o1 hf2
          go_wp2_with fail
          clear z0 z1 z2 y0 y1 y2 f0 f1 f2 g0 g1 g2
          generalize w2.setCell ⟨w.heap.size + 1, 1, none⟩ (Value.slice A2 ps.length c2) = wB at *
          rw [ext_str, List.drop_zero, Nat.sub_zero]
          refine (veSplit_any (s1.take q) _ (by rw [List.length_take]; omega)).mono ?_
          rintro e w3 ⟨⟨v1, rfl, hs1, hf1⟩, hb3⟩
          have HN : Hid (Sem.sNums s = Sem.ids (s1.take q)) := Lib.hid (by unfold Sem.sNums; rw [HP.out, HS1.out, HQ.out])
          have HKN := Lib.hid (ids_bound (l := s1.take q) (by rw [List.length_take]; omega))
          generalize Sem.ids (s1.take q) = ns at *
          have hs1c := hs1
          obtain ⟨A1, c1, rfl, -⟩ := hs1c
          have o3 := o2.below hb3
          replace hs2 := hs2.below hb3
          replace hs3 := hs3.below hb3
          have hf1' : ∀ g, (Value.slice A1 ns.length c1).ownBlock = some g → w.heap.size + 1 < g := fun g hg => by have h1 := hf1 g hg; have h2 := o2.sz; omega
          have o4 := o3.set 0 (Value.slice A1 ns.length c1) (a := (Value.slice A1 ns.length c1)) (b := (Value.slice A2 ps.length c2)) (c := (Value.slice A3 bs.length c3)) rfl
          replace hs1 := hs1.set hf1' 0 (Value.slice A1 ns.length c1)
          replace hs2 := hs2.set hf2' 0 (Value.slice A1 ns.length c1)
          replace hs3 := hs3.set hf3' 0 (Value.slice A1 ns.length c1)
          obtain ⟨⟨z0, z1, z2⟩, ⟨y0, y1, y2⟩, ⟨f0, f1, f2⟩, ⟨g0, g1, g2⟩⟩ := o3.cells
          clear hb3 o2 hf1
          go_wp2_with fail
          clear z0 z1 z2 y0 y1 y2 f0 f1 f2 g0 g1 g2
          generalize w3.setCell ⟨w.heap.size + 1, 0, none⟩ (Value.slice A1 ns.length c1) = w4 at *
          refine (versionGood_any (Value.slice A1 ns.length c1) (Value.slice A2 ps.length c2) (Value.slice A3 bs.length c3) ns ps bs _ hs1 hs2 hs3 (fun x hx => by have := HKN.out.2 x hx; omega) (fun x hx => by have := HKP.out.2 x hx; omega) (fun x hx => by have := HKB.out.2 x hx; omega) (by have := HKN.out.1; omega) (by have := HKP.out.1; omega) (by have := HKB.out.1; omega)).mono ?_
          rintro e w5 ⟨rfl, hb5⟩
          have o5 := o4.below hb5
          replace hs1 := hs1.below hb5
          replace hs2 := hs2.below hb5
          replace hs3 := hs3.below hb5
          obtain ⟨⟨z0, z1, z2⟩, ⟨y0, y1, y2⟩, ⟨f0, f1, f2⟩, ⟨g0, g1, g2⟩⟩ := o5.cells
          have hb6 := o5.bel
          clear hb5 o4 o3
          cases hg : Sem.verGood ns ps bs with
          | true =>
            have HR2 : Hid (Sem.sParse R0 = some (ns, ps, bs)) := Lib.hid (by rw [HR.out, HN.out, HPS.out, HBS.out, hg]; rfl)
            clear hg
            go_wp2_with fail
            have t1 := ((hs1.set (B := w.heap.size) (fun g hg => by have := hf1' g hg; omega) 0 (Value.slice A1 ns.length c1)).set (B := w.heap.size) (fun g hg => by have := hf1' g hg; omega) 1 (Value.slice A2 ps.length c2)).set (B := w.heap.size) (fun g hg => by have := hf1' g hg; omega) 2 (Value.slice A3 bs.length c3)
            have t2 := ((hs2.set (B := w.heap.size) (fun g hg => by have := hf2' g hg; omega) 0 (Value.slice A1 ns.length c1)).set (B := w.heap.size) (fun g hg => by have := hf2' g hg; omega) 1 (Value.slice A2 ps.length c2)).set (B := w.heap.size) (fun g hg => by have := hf2' g hg; omega) 2 (Value.slice A3 bs.length c3)
            have t3 := ((hs3.set (B := w.heap.size) (fun g hg => by have := hf3' g hg; omega) 0 (Value.slice A1 ns.length c1)).set (B := w.heap.size) (fun g hg => by have := hf3' g hg; omega) 1 (Value.slice A2 ps.length c2)).set (B := w.heap.size) (fun g hg => by have := hf3' g hg; omega) 2 (Value.slice A3 bs.length c3)
            have tb := bl_put (bl_put (bl_put hb6 0 (Value.slice A1 ns.length c1)) 1 (Value.slice A2 ps.length c2)) 2 (Value.slice A3 bs.length c3)
            obtain ⟨e0, e1, e2⟩ := set3_cells z0 z1 z2 (Value.slice A1 ns.length c1) (Value.slice A2 ps.length c2) (Value.slice A3 bs.length c3)
            generalize ((w5.setCell ⟨w.heap.size, 0, none⟩ (Value.slice A1 ns.length c1)).setCell ⟨w.heap.size, 1, none⟩ (Value.slice A2 ps.length c2)).setCell ⟨w.heap.size, 2, none⟩ (Value.slice A3 bs.length c3) = wF at *
            try simp only [Exit.inBlock, Exit.then]
            refine bodyPost_ret (by simp [results, Try.results47, go_sem, e0, e1, e2]; try rfl) rfl ?_
            exact ⟨.inl ⟨_, _, _, _, _, _, HR2.out, rfl, t1, t2, t3⟩, tb⟩
          | false =>
            have HR2 : Hid (Sem.sParse R0 = none) := Lib.hid (by rw [HR.out, HN.out, HPS.out, HBS.out, hg]; rfl)
            clear hg
            go_wp2_with fail
            have tb := bl_put (bl_put (bl_put hb6 0 (.slice none 0 0)) 1 (.slice none 0 0)) 2 (.slice none 0 0)
            obtain ⟨e0, e1, e2⟩ := set3_cells z0 z1 z2 (.slice none 0 0) (.slice none 0 0) (.slice none 0 0)
            generalize ((w5.setCell ⟨w.heap.size, 0, none⟩ (.slice none 0 0)).setCell ⟨w.heap.size, 1, none⟩ (.slice none 0 0)).setCell ⟨w.heap.size, 2, none⟩ (.slice none 0 0) = wF at *
            try simp only [Exit.inBlock, Exit.then]
            refine bodyPost_ret (by simp [results, Try.results47, go_sem, e0, e1, e2]; try rfl) rfl ?_
            exact ⟨.inr ⟨HR2.out, rfl⟩, tb⟩
        · go_wp2_with fail
          have o2 := o1
          have HPS : Hid (Sem.sPre s = []) := Lib.hid (by unfold Sem.sPre; rw [HP.out, HS1.out, HQ.out, if_neg hql])
          have HKP : Hid (([] : List (List UInt8)).length ≤ 1048577 ∧ ∀ x ∈ ([] : List (List UInt8)), x.length ≤ 1048576) := Lib.hid ⟨by simp, fun x hx => by cases hx⟩
          rw [ext_str, List.drop_zero, Nat.sub_zero]
          refine (veSplit_any (s1.take q) _ (by rw [List.length_take]; omega)).mono ?_
          rintro e w3 ⟨⟨v1, rfl, hs1, hf1⟩, hb3⟩
          have HN : Hid (Sem.sNums s = Sem.ids (s1.take q)) := Lib.hid (by unfold Sem.sNums; rw [HP.out, HS1.out, HQ.out])
          have HKN := Lib.hid (ids_bound (l := s1.take q) (by rw [List.length_take]; omega))
          generalize Sem.ids (s1.take q) = ns at *
          have hs1c := hs1
          obtain ⟨A1, c1, rfl, -⟩ := hs1c
          have o3 := o2.below hb3
          replace hs3 := hs3.below hb3
          have hf1' : ∀ g, (Value.slice A1 ns.length c1).ownBlock = some g → w.heap.size + 1 < g := fun g hg => by have h1 := hf1 g hg; have h2 := o2.sz; omega
          have o4 := o3.set 0 (Value.slice A1 ns.length c1) (a := (Value.slice A1 ns.length c1)) (b := (.slice none 0 0)) (c := (Value.slice A3 bs.length c3)) rfl
          replace hs1 := hs1.set hf1' 0 (Value.slice A1 ns.length c1)
          replace hs3 := hs3.set hf3' 0 (Value.slice A1 ns.length c1)
          obtain ⟨⟨z0, z1, z2⟩, ⟨y0, y1, y2⟩, ⟨f0, f1, f2⟩, ⟨g0, g1, g2⟩⟩ := o3.cells
          clear hb3 o2 hf1
          go_wp2_with fail
          clear z0 z1 z2 y0 y1 y2 f0 f1 f2 g0 g1 g2
          generalize w3.setCell ⟨w.heap.size + 1, 0, none⟩ (Value.slice A1 ns.length c1) = w4 at *
          refine (versionGood_any (Value.slice A1 ns.length c1) (.slice none 0 0) (Value.slice A3 bs.length c3) ns [] bs _ hs1 (strs_nil _) hs3 (fun x hx => by have := HKN.out.2 x hx; omega) (fun x hx => by have := HKP.out.2 x hx; omega) (fun x hx => by have := HKB.out.2 x hx; omega) (by have := HKN.out.1; omega) (by have := HKP.out.1; omega) (by have := HKB.out.1; omega)).mono ?_
          rintro e w5 ⟨rfl, hb5⟩
          have o5 := o4.below hb5
          replace hs1 := hs1.below hb5
          replace hs3 := hs3.below hb5
          obtain ⟨⟨z0, z1, z2⟩, ⟨y0, y1, y2⟩, ⟨f0, f1, f2⟩, ⟨g0, g1, g2⟩⟩ := o5.cells
          have hb6 := o5.bel
          clear hb5 o4 o3
          cases hg : Sem.verGood ns [] bs with
          | true =>
            have HR2 : Hid (Sem.sParse R0 = some (ns, [], bs)) := Lib.hid (by rw [HR.out, HN.out, HPS.out, HBS.out, hg]; rfl)
            clear hg
            go_wp2_with fail
            have t1 := ((hs1.set (B := w.heap.size) (fun g hg => by have := hf1' g hg; omega) 0 (Value.slice A1 ns.length c1)).set (B := w.heap.size) (fun g hg => by have := hf1' g hg; omega) 1 (.slice none 0 0)).set (B := w.heap.size) (fun g hg => by have := hf1' g hg; omega) 2 (Value.slice A3 bs.length c3)
            have t3 := ((hs3.set (B := w.heap.size) (fun g hg => by have := hf3' g hg; omega) 0 (Value.slice A1 ns.length c1)).set (B := w.heap.size) (fun g hg => by have := hf3' g hg; omega) 1 (.slice none 0 0)).set (B := w.heap.size) (fun g hg => by have := hf3' g hg; omega) 2 (Value.slice A3 bs.length c3)
            have tb := bl_put (bl_put (bl_put hb6 0 (Value.slice A1 ns.length c1)) 1 (.slice none 0 0)) 2 (Value.slice A3 bs.length c3)
            obtain ⟨e0, e1, e2⟩ := set3_cells z0 z1 z2 (Value.slice A1 ns.length c1) (.slice none 0 0) (Value.slice A3 bs.length c3)
            generalize ((w5.setCell ⟨w.heap.size, 0, none⟩ (Value.slice A1 ns.length c1)).setCell ⟨w.heap.size, 1, none⟩ (.slice none 0 0)).setCell ⟨w.heap.size, 2, none⟩ (Value.slice A3 bs.length c3) = wF at *
            try simp only [Exit.inBlock, Exit.then]
            refine bodyPost_ret (by simp [results, Try.results47, go_sem, e0, e1, e2]; try rfl) rfl ?_
            exact ⟨.inl ⟨_, _, _, _, _, _, HR2.out, rfl, t1, strs_nil _, t3⟩, tb⟩
          | false =>
            have HR2 : Hid (Sem.sParse R0 = none) := Lib.hid (by rw [HR.out, HN.out, HPS.out, HBS.out, hg]; rfl)
            clear hg
            go_wp2_with fail
            have tb := bl_put (bl_put (bl_put hb6 0 (.slice none 0 0)) 1 (.slice none 0 0)) 2 (.slice none 0 0)
            obtain ⟨e0, e1, e2⟩ := set3_cells z0 z1 z2 (.slice none 0 0) (.slice none 0 0) (.slice none 0 0)
            generalize ((w5.setCell ⟨w.heap.size, 0, none⟩ (.slice none 0 0)).setCell ⟨w.heap.size, 1, none⟩ (.slice none 0 0)).setCell ⟨w.heap.size, 2, none⟩ (.slice none 0 0) = wF at *
            try simp only [Exit.inBlock, Exit.then]
            refine bodyPost_ret (by simp [results, Try.results47, go_sem, e0, e1, e2]; try rfl) rfl ?_
            exact ⟨.inr ⟨HR2.out, rfl⟩, tb⟩
      · go_wp2_with fail
        have o1 := o0
        clear o0
        generalize ((w.alloc (Obj.cells #[Value.slice none 0 0, Value.slice none 0 0, Value.slice none 0 0] 51)).alloc (Obj.cells #[Value.slice none 0 0, Value.slice none 0 0, Value.slice none 0 0] 51)) = wA at *
        have hs3 : StrsAt wA nilS [] := strs_nil wA
        have hf3' : ∀ g, nilS.ownBlock = some g → w.heap.size + 1 < g := fun g hg => by cases hg
        have HBS : Hid (Sem.sBuild s = []) := Lib.hid (by unfold Sem.sBuild; rw [HP.out, if_neg hpl])
        have HKB : Hid (([] : List (List UInt8)).length ≤ 1048577 ∧ ∀ x ∈ ([] : List (List UInt8)), x.length ≤ 1048576) := Lib.hid ⟨by simp, fun x hx => by cases hx⟩
        rw [ext_str, List.drop_zero, Nat.sub_zero]
        have hs1l : (s.take p).length ≤ p := by rw [List.length_take]; omega
        generalize hS1 : s.take p = s1 at *
        have HS1 := Lib.hid hS1
        clear hS1
        refine (veFirst_any s1 45 _ (by omega)).mono ?_
        rintro e w' ⟨rfl, rfl⟩
        have hq := Sem.firstOf_le s1 45
        generalize hQ : Sem.firstOf s1 45 = q at *
        have HQ := Lib.hid hQ
        clear hQ
        by_cases hql : q < s1.length
        · go_wp2_with fail
          rw [ext_str, List.take_of_length_le (by simp)]
          refine (veSplit_any (s1.drop (q + 1)) _ (by rw [List.length_drop]; omega)).mono ?_
          rintro e w2 ⟨⟨v2, rfl, hs2, hf2⟩, hb2⟩
          have HPS : Hid (Sem.sPre s = Sem.ids (s1.drop (q + 1))) := Lib.hid (by unfold Sem.sPre; rw [HP.out, HS1.out, HQ.out, if_pos hql])
          have HKP := Lib.hid (ids_bound (l := s1.drop (q + 1)) (by rw [List.length_drop]; omega))
          generalize Sem.ids (s1.drop (q + 1)) = ps at *
          have hs2c := hs2
          obtain ⟨A2, c2, rfl, -⟩ := hs2c
          have o1b := o1.below hb2
          replace hs3 := hs3.below hb2
          have hf2' : ∀ g, (Value.slice A2 ps.length c2).ownBlock = some g → w.heap.size + 1 < g := fun g hg => by have h1 := hf2 g hg; have h2 := o1.sz; omega
          have o2 := o1b.set 1 (Value.slice A2 ps.length c2) (a := .slice none 0 0) (b := (Value.slice A2 ps.length c2)) (c := (.slice none 0 0)) rfl
          replace hs2 := hs2.set hf2' 1 (Value.slice A2 ps.length c2)
          replace hs3 := hs3.set hf3' 1 (Value.slice A2 ps.length c2)
          obtain ⟨⟨z0, z1, z2⟩, ⟨y0, y1, y2⟩, ⟨f0, f1, f2⟩, ⟨g0, g1, g2⟩⟩ := o1b.cells
          clear hb2 o1 hf2
          go_wp2_with fail
          clear z0 z1 z2 y0 y1 y2 f0 f1 f2 g0 g1 g2
          generalize w2.setCell ⟨w.heap.size + 1, 1, none⟩ (Value.slice A2 ps.length c2) = wB at *
          rw [ext_str, List.drop_zero, Nat.sub_zero]
          refine (veSplit_any (s1.take q) _ (by rw [List.length_take]; omega)).mono ?_
          rintro e w3 ⟨⟨v1, rfl, hs1, hf1⟩, hb3⟩
          have HN : Hid (Sem.sNums s = Sem.ids (s1.take q)) := Lib.hid (by unfold Sem.sNums; rw [HP.out, HS1.out, HQ.out])
          have HKN := Lib.hid (ids_bound (l := s1.take q) (by rw [List.length_take]; omega))
          generalize Sem.ids (s1.take q) = ns at *
          have hs1c := hs1
          obtain ⟨A1, c1, rfl, -⟩ := hs1c
          have o3 := o2.below hb3
          replace hs2 := hs2.below hb3
          replace hs3 := hs3.below hb3
          have hf1' : ∀ g, (Value.slice A1 ns.length c1).ownBlock = some g → w.heap.size + 1 < g := fun g hg => by have h1 := hf1 g hg; have h2 := o2.sz; omega
          have o4 := o3.set 0 (Value.slice A1 ns.length c1) (a := (Value.slice A1 ns.length c1)) (b := (Value.slice A2 ps.length c2)) (c := (.slice none 0 0)) rfl
          replace hs1 := hs1.set hf1' 0 (Value.slice A1 ns.length c1)
          replace hs2 := hs2.set hf2' 0 (Value.slice A1 ns.length c1)
          replace hs3 := hs3.set hf3' 0 (Value.slice A1 ns.length c1)
          obtain ⟨⟨z0, z1, z2⟩, ⟨y0, y1, y2⟩, ⟨f0, f1, f2⟩, ⟨g0, g1, g2⟩⟩ := o3.cells
          clear hb3 o2 hf1
          go_wp2_with fail
          clear z0 z1 z2 y0 y1 y2 f0 f1 f2 g0 g1 g2
          generalize w3.setCell ⟨w.heap.size + 1, 0, none⟩ (Value.slice A1 ns.length c1) = w4 at *
          refine (versionGood_any (Value.slice A1 ns.length c1) (Value.slice A2 ps.length c2) (.slice none 0 0) ns ps [] _ hs1 hs2 hs3 (fun x hx => by have := HKN.out.2 x hx; omega) (fun x hx => by have := HKP.out.2 x hx; omega) (fun x hx => by have := HKB.out.2 x hx; omega) (by have := HKN.out.1; omega) (by have := HKP.out.1; omega) (by have := HKB.out.1; omega)).mono ?_
          rintro e w5 ⟨rfl, hb5⟩
          have o5 := o4.below hb5
          replace hs1 := hs1.below hb5
          replace hs2 := hs2.below hb5
          replace hs3 := hs3.below hb5
          obtain ⟨⟨z0, z1, z2⟩, ⟨y0, y1, y2⟩, ⟨f0, f1, f2⟩, ⟨g0, g1, g2⟩⟩ := o5.cells
          have hb6 := o5.bel
          clear hb5 o4 o3
          cases hg : Sem.verGood ns ps [] with
          | true =>
            have HR2 : Hid (Sem.sParse R0 = some (ns, ps, [])) := Lib.hid (by rw [HR.out, HN.out, HPS.out, HBS.out, hg]; rfl)
            clear hg
            go_wp2_with fail
            have t1 := ((hs1.set (B := w.heap.size) (fun g hg => by have := hf1' g hg; omega) 0 (Value.slice A1 ns.length c1)).set (B := w.heap.size) (fun g hg => by have := hf1' g hg; omega) 1 (Value.slice A2 ps.length c2)).set (B := w.heap.size) (fun g hg => by have := hf1' g hg; omega) 2 (.slice none 0 0)
            have t2 := ((hs2.set (B := w.heap.size) (fun g hg => by have := hf2' g hg; omega) 0 (Value.slice A1 ns.length c1)).set (B := w.heap.size) (fun g hg => by have := hf2' g hg; omega) 1 (Value.slice A2 ps.length c2)).set (B := w.heap.size) (fun g hg => by have := hf2' g hg; omega) 2 (.slice none 0 0)
            have t3 := ((hs3.set (B := w.heap.size) (fun g hg => by have := hf3' g hg; omega) 0 (Value.slice A1 ns.length c1)).set (B := w.heap.size) (fun g hg => by have := hf3' g hg; omega) 1 (Value.slice A2 ps.length c2)).set (B := w.heap.size) (fun g hg => by have := hf3' g hg; omega) 2 (.slice none 0 0)
            have tb := bl_put (bl_put (bl_put hb6 0 (Value.slice A1 ns.length c1)) 1 (Value.slice A2 ps.length c2)) 2 (.slice none 0 0)
            obtain ⟨e0, e1, e2⟩ := set3_cells z0 z1 z2 (Value.slice A1 ns.length c1) (Value.slice A2 ps.length c2) (.slice none 0 0)
            generalize ((w5.setCell ⟨w.heap.size, 0, none⟩ (Value.slice A1 ns.length c1)).setCell ⟨w.heap.size, 1, none⟩ (Value.slice A2 ps.length c2)).setCell ⟨w.heap.size, 2, none⟩ (.slice none 0 0) = wF at *
            try simp only [Exit.inBlock, Exit.then]
            refine bodyPost_ret (by simp [results, Try.results47, go_sem, e0, e1, e2]; try rfl) rfl ?_
            exact ⟨.inl ⟨_, _, _, _, _, _, HR2.out, rfl, t1, t2, t3⟩, tb⟩
          | false =>
            have HR2 : Hid (Sem.sParse R0 = none) := Lib.hid (by rw [HR.out, HN.out, HPS.out, HBS.out, hg]; rfl)
            clear hg
            go_wp2_with fail
            have tb := bl_put (bl_put (bl_put hb6 0 (.slice none 0 0)) 1 (.slice none 0 0)) 2 (.slice none 0 0)
            obtain ⟨e0, e1, e2⟩ := set3_cells z0 z1 z2 (.slice none 0 0) (.slice none 0 0) (.slice none 0 0)
            generalize ((w5.setCell ⟨w.heap.size, 0, none⟩ (.slice none 0 0)).setCell ⟨w.heap.size, 1, none⟩ (.slice none 0 0)).setCell ⟨w.heap.size, 2, none⟩ (.slice none 0 0) = wF at *
            try simp only [Exit.inBlock, Exit.then]
            refine bodyPost_ret (by simp [results, Try.results47, go_sem, e0, e1, e2]; try rfl) rfl ?_
            exact ⟨.inr ⟨HR2.out, rfl⟩, tb⟩
        · go_wp2_with fail
          have o2 := o1
          have HPS : Hid (Sem.sPre s = []) := Lib.hid (by unfold Sem.sPre; rw [HP.out, HS1.out, HQ.out, if_neg hql])
          have HKP : Hid (([] : List (List UInt8)).length ≤ 1048577 ∧ ∀ x ∈ ([] : List (List UInt8)), x.length ≤ 1048576) := Lib.hid ⟨by simp, fun x hx => by cases hx⟩
          rw [ext_str, List.drop_zero, Nat.sub_zero]
          refine (veSplit_any (s1.take q) _ (by rw [List.length_take]; omega)).mono ?_
          rintro e w3 ⟨⟨v1, rfl, hs1, hf1⟩, hb3⟩
          have HN : Hid (Sem.sNums s = Sem.ids (s1.take q)) := Lib.hid (by unfold Sem.sNums; rw [HP.out, HS1.out, HQ.out])
          have HKN := Lib.hid (ids_bound (l := s1.take q) (by rw [List.length_take]; omega))
          generalize Sem.ids (s1.take q) = ns at *
          have hs1c := hs1
          obtain ⟨A1, c1, rfl, -⟩ := hs1c
          have o3 := o2.below hb3
          replace hs3 := hs3.below hb3
          have hf1' : ∀ g, (Value.slice A1 ns.length c1).ownBlock = some g → w.heap.size + 1 < g := fun g hg => by have h1 := hf1 g hg; have h2 := o2.sz; omega
          have o4 := o3.set 0 (Value.slice A1 ns.length c1) (a := (Value.slice A1 ns.length c1)) (b := (.slice none 0 0)) (c := (.slice none 0 0)) rfl
          replace hs1 := hs1.set hf1' 0 (Value.slice A1 ns.length c1)
          replace hs3 := hs3.set hf3' 0 (Value.slice A1 ns.length c1)
          obtain ⟨⟨z0, z1, z2⟩, ⟨y0, y1, y2⟩, ⟨f0, f1, f2⟩, ⟨g0, g1, g2⟩⟩ := o3.cells
          clear hb3 o2 hf1
          go_wp2_with fail
          clear z0 z1 z2 y0 y1 y2 f0 f1 f2 g0 g1 g2
          generalize w3.setCell ⟨w.heap.size + 1, 0, none⟩ (Value.slice A1 ns.length c1) = w4 at *
          refine (versionGood_any (Value.slice A1 ns.length c1) (.slice none 0 0) (.slice none 0 0) ns [] [] _ hs1 (strs_nil _) hs3 (fun x hx => by have := HKN.out.2 x hx; omega) (fun x hx => by have := HKP.out.2 x hx; omega) (fun x hx => by have := HKB.out.2 x hx; omega) (by have := HKN.out.1; omega) (by have := HKP.out.1; omega) (by have := HKB.out.1; omega)).mono ?_
          rintro e w5 ⟨rfl, hb5⟩
          have o5 := o4.below hb5
          replace hs1 := hs1.below hb5
          replace hs3 := hs3.below hb5
          obtain ⟨⟨z0, z1, z2⟩, ⟨y0, y1, y2⟩, ⟨f0, f1, f2⟩, ⟨g0, g1, g2⟩⟩ := o5.cells
          have hb6 := o5.bel
          clear hb5 o4 o3
          cases hg : Sem.verGood ns [] [] with
          | true =>
            have HR2 : Hid (Sem.sParse R0 = some (ns, [], [])) := Lib.hid (by rw [HR.out, HN.out, HPS.out, HBS.out, hg]; rfl)
            clear hg
            go_wp2_with fail
            have t1 := ((hs1.set (B := w.heap.size) (fun g hg => by have := hf1' g hg; omega) 0 (Value.slice A1 ns.length c1)).set (B := w.heap.size) (fun g hg => by have := hf1' g hg; omega) 1 (.slice none 0 0)).set (B := w.heap.size) (fun g hg => by have := hf1' g hg; omega) 2 (.slice none 0 0)
            have t3 := ((hs3.set (B := w.heap.size) (fun g hg => by have := hf3' g hg; omega) 0 (Value.slice A1 ns.length c1)).set (B := w.heap.size) (fun g hg => by have := hf3' g hg; omega) 1 (.slice none 0 0)).set (B := w.heap.size) (fun g hg => by have := hf3' g hg; omega) 2 (.slice none 0 0)
            have tb := bl_put (bl_put (bl_put hb6 0 (Value.slice A1 ns.length c1)) 1 (.slice none 0 0)) 2 (.slice none 0 0)
            obtain ⟨e0, e1, e2⟩ := set3_cells z0 z1 z2 (Value.slice A1 ns.length c1) (.slice none 0 0) (.slice none 0 0)
            generalize ((w5.setCell ⟨w.heap.size, 0, none⟩ (Value.slice A1 ns.length c1)).setCell ⟨w.heap.size, 1, none⟩ (.slice none 0 0)).setCell ⟨w.heap.size, 2, none⟩ (.slice none 0 0) = wF at *
            try simp only [Exit.inBlock, Exit.then]
            refine bodyPost_ret (by simp [results, Try.results47, go_sem, e0, e1, e2]; try rfl) rfl ?_
            exact ⟨.inl ⟨_, _, _, _, _, _, HR2.out, rfl, t1, strs_nil _, t3⟩, tb⟩
          | false =>
            have HR2 : Hid (Sem.sParse R0 = none) := Lib.hid (by rw [HR.out, HN.out, HPS.out, HBS.out, hg]; rfl)
            clear hg
            go_wp2_with fail
            have tb := bl_put (bl_put (bl_put hb6 0 (.slice none 0 0)) 1 (.slice none 0 0)) 2 (.slice none 0 0)
            obtain ⟨e0, e1, e2⟩ := set3_cells z0 z1 z2 (.slice none 0 0) (.slice none 0 0) (.slice none 0 0)
            generalize ((w5.setCell ⟨w.heap.size, 0, none⟩ (.slice none 0 0)).setCell ⟨w.heap.size, 1, none⟩ (.slice none 0 0)).setCell ⟨w.heap.size, 2, none⟩ (.slice none 0 0) = wF at *
            try simp only [Exit.inBlock, Exit.then]
            refine bodyPost_ret (by simp [results, Try.results47, go_sem, e0, e1, e2]; try rfl) rfl ?_
            exact ⟨.inr ⟨HR2.out, rfl⟩, tb⟩
    · obtain ⟨hx0, hy0⟩ := hd_ne (d := 118) s hc0
      change (Sem.bt (c0 :: s) 0 != 118) = true at hx0
      have HR : Hid (Sem.sParse (c0 :: s) = none) := Lib.hid (by rw [Sem.sParse, if_neg hc0])
      clear hc0 hy0
      generalize c0 :: s = R0 at *
      go_enter Try.func47, Try.ntmps47
      go_wp2
      go_returns
      exact ⟨.inr ⟨HR.out, rfl⟩, by (repeat (first | (with_reducible refine bl_put ?_ _ _) | (with_reducible refine bl_drewN ?_ _) | (with_reducible exact bl_new _ _) | exact Below.refl _ _))⟩

end Go.Proofs.Ytienkoadkhcghaa
