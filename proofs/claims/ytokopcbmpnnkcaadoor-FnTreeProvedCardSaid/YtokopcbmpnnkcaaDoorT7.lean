/- impl.reader, its function, and the call of it through tlog.HashReader: the hashes that are read at some places, or that one is missing. Conditions: at most 100000 places, each a number of 63 bits; the stored hashes lie in memory; the variable errMissing holds an error. -/
import Derived.Test.YtokopcbmpnnkcaaDoorRows2
import Derived.Test.YtokopcbmpnnkcaaDoorRd
namespace Go.Proofs.YtokopcbmpnnkcaaDoor
open Go.RowKit
set_option linter.unusedVariables false

/-- numbers in memory -/
def IIn (w : World) (v : Value) (xs : List Nat) : Prop := ∃ A c, v = .slice A xs.length c ∧ xs.length ≤ c ∧ c ≤ 9223372036854775807 ∧
  (c = 0 ∨ ∃ b off, A = some ⟨b, off, none⟩ ∧ b < w.heap.size ∧ ∀ (j : Nat) x, xs[j]? = some x → w.cell? ⟨b, off + j, none⟩ = some (.int .i64 (x : Nat)))
theorem IIn.below {w w' : World} {v : Value} {xs : List Nat} (h : IIn w v xs) (hb : Below w.heap.size w w') : IIn w' v xs := by
  obtain ⟨A, c, e, h1, h2, h3⟩ := h
  refine ⟨A, c, e, h1, h2, ?_⟩
  rcases h3 with h3 | ⟨b, off, hA, hlt, hc⟩
  · exact .inl h3
  · exact .inr ⟨b, off, hA, Nat.lt_of_lt_of_le hlt hb.size, fun j l hj => (hb.cell (p := ⟨b, off + j, none⟩) hlt).trans (hc j l hj)⟩
theorem IOwn.in_ {w : World} {base : Nat} {v : Value} {xs : List Nat} (h : IOwn w base v xs) : IIn w v xs := by
  have ho : w.ownsRow base 2 1 v xs.length (ints xs) := h
  rcases ho.2 with ⟨rfl, h0⟩ | ⟨g, cap, cur, rfl, hb, hh, hnc, hm, hcs', htk⟩
  · exact ⟨none, 0, by rw [h0], by omega, by omega, .inl rfl⟩
  · refine ⟨_, cap, rfl, hnc, by simpa [maxLen] using hm, .inr ⟨g, 0, rfl, (ho.lt g rfl).2, fun j x hj => ?_⟩⟩
    have hj' : j < xs.length := (List.getElem?_eq_some_iff.1 hj).1
    rw [Nat.zero_add, ho.cellAt j (by omega)]
    simp [ints, hj]
/-- a reader, as a value -/
def RV (g : Nat) : Value := .iface 71 (.func (.func 43) #[] #[.pointer (some ⟨g, 0, none⟩)])
/-- what a reader reads: the stored hashes; what it gives where one is missing -/
structure Rdr (w : World) (g : Nat) (ls : List (List Int)) (E : Value) : Prop where
  cell : ∃ sv, w.cell? ⟨g, 0, none⟩ = some sv ∧ RowsIn w sv ls
  lt : g < w.heap.size
  err : w.cell? ⟨0, 0, none⟩ = some E
  elt : 0 < w.heap.size
theorem Rdr.below {w w' : World} {g : Nat} {ls : List (List Int)} {E : Value} (h : Rdr w g ls E) (hb : Below w.heap.size w w') : Rdr w' g ls E := by
  obtain ⟨⟨sv, h1, h2⟩, h3, h4, h5⟩ := h
  exact ⟨⟨sv, (hb.cell (p := ⟨g, 0, none⟩) h3).trans h1, h2.below hb⟩, Nat.lt_of_lt_of_le h3 hb.size, (hb.cell (p := ⟨0, 0, none⟩) h5).trans h4, Nat.lt_of_lt_of_le h5 hb.size⟩
/-- what comes of reading -/
def RdOut (r : Option (List (List Int))) (E : Value) (base : Nat) (e : Ending) (w' : World) : Prop := match r with
  | some os => ∃ v', e = .returned (.tuple #[v', .nilIface]) ∧ HOwn w' base v' os
  | none => e = .returned (.tuple #[.slice none 0 0, E])
set_option maxHeartbeats 4000000 in
set_option maxRecDepth 50000 in
theorem readerFn_any (ls : List (List Int)) (xs : List Nat) (v : Value) (g : Nat) (E : Value) (w : World) (hv : IIn w v xs) (hx : ∀ x ∈ xs, x ≤ 9223372036854775807) (hn : xs.length ≤ 100000) (hs : Rdr w g ls E) :
    Calls Tryd.prog 43 #[v, .pointer (some ⟨g, 0, none⟩)] w fun e w' => RdOut (rd ls xs) E w.heap.size e w' ∧ Below w.heap.size w w' := by
  obtain ⟨i0, hi0, hz0, hz1, hz2⟩ := info_parts info_hash
  have HI0 := Lib.hid hi0
  have HZ0 := Lib.hid hz0
  have HZ1 := Lib.hid hz1
  have HZ2 := Lib.hid hz2
  obtain ⟨A, c, rfl, hc1, hc2, hc3⟩ := hv
  have HC3 := Lib.hid hc3
  obtain ⟨⟨sv, hsv, hrow⟩, hg, hE, hE0⟩ := hs
  obtain ⟨A2, c2, rfl, hd1, hd2, hd3⟩ := hrow
  have HD3 := Lib.hid hd3
  have HSV := Lib.hid hsv
  have HE := Lib.hid hE
  have HX := Lib.hid hx
  clear hi0 hz0 hz1 hz2 hc3 hd3 hsv hE hx
  go_enter Tryd.func43, Tryd.ntmps43
  go_wp2
  go_loopw [11, 5] (fun i o wr => ∃ (k : Nat) (os : List (List Int)), i = .int .i64 k ∧ k ≤ xs.length ∧ Hid (rd ls (xs.take k) = some os) ∧ Hid (HOwn wr w.heap.size o os) ∧ Hid (Below w.heap.size w wr)) (fun i _ _ => xs.length - (intOf i).toNat)
  case atStart => exact ⟨0, [], rfl, Nat.zero_le _, Lib.hid rfl, Lib.hid ⟨by simp, by simp, .inr ⟨w.heap.size, 0, #[], rfl, Nat.le_refl _, heap_alloc_new w _, Nat.le_refl _, by simp [maxLen], rfl, rfl⟩⟩, Lib.hid ((Below.refl _ _).alloc (Nat.le_refl _) _)⟩
  case round =>
    obtain ⟨k, os, rfl, hk, hR, hO, hB⟩ := hrel
    by_cases hlt : k < xs.length
    · obtain ⟨b, off, rfl, hblt, hcell⟩ := HC3.out.resolve_left (by omega)
      have hcx := hcell k xs[k] (List.getElem?_eq_getElem hlt)
      have hxm := HX.out xs[k] (List.getElem_mem hlt)
      have HTK : Hid (xs.take (k + 1) = xs.take k ++ [xs[k]]) := Lib.hid (List.take_succ_eq_append_getElem hlt)
      have HXK : Hid (xs[k]? = some xs[k]) := Lib.hid (List.getElem?_eq_getElem hlt)
      have hol : os.length = k := by have := rd_len hR.out; rw [List.length_take] at this; omega
      have HOL := Lib.hid hol
      generalize xs[k] = x at *
      have hcw : wr.cell? ⟨b, off + k, none⟩ = some (.int .i64 (x : Nat)) := (hB.out.cell (p := ⟨b, off + k, none⟩) hblt).trans hcx
      have hgw : wr.cell? ⟨g, 0, none⟩ = some (.slice A2 ls.length c2) := (hB.out.cell (p := ⟨g, 0, none⟩) hg).trans HSV.out
      have hb1 : decide ((x : Int) < 0) = false := by simp
      clear hcx hcell hol
      by_cases hxl : x < ls.length
      · have hb2 : decide ((ls.length : Int) ≤ (x : Int)) = false := by simp; omega
        obtain ⟨b2, off2, rfl, hblt2, hcell2⟩ := HD3.out.resolve_left (by omega)
        obtain ⟨u, hu, hui⟩ := hcell2 x ls[x] (List.getElem?_eq_getElem hxl)
        have hcu : wr.cell? ⟨b2, off2 + x, none⟩ = some u := (hB.out.cell (p := ⟨b2, off2 + x, none⟩) hblt2).trans hu
        have HH := Lib.hid (hashOf_any ls[x] u wr (hui.below hB.out))
        have HRS : Hid (rd ls (xs.take k ++ [x]) = some (os ++ [h32 ls[x]])) := Lib.hid (rd_snoc hR.out (List.getElem?_eq_getElem hxl))
        have HLK : Hid ((h32 ls[x]).length = 32) := Lib.hid (h32_len _)
        generalize h32 ls[x] = y at *
        clear hu hui hcell2
        have hfold := fold32 y HLK.out
        have hxl' : y.length = 32 := HLK.out
        go_wp2_with (first
          | (go_at_call 31; (with_reducible refine HH.out.mono ?_); rintro e w1 ⟨rfl, hb1⟩; have HB1 := Lib.hid hb1; clear hb1)
          | (at_builtin; (refine wpList_append_own_wide _ rfl (.tmp 24) (.tmp 30) 40 rfl w.heap.size 54 i0 _ 32 32 Tryd.underlying40 HI0.out HZ0.out HZ1.out HZ2.out zh_cells (by omega) _ os.length (os.flatMap hcs) rfl (World.ownsRow.alloc (owns_below hO.out.2 HB1.out) _) ⟨w1.heap.size, 0, none⟩ 1 1 (hcs y) rfl (by rw [hcs_len, HLK.out]) (hash_src _ _ _) (hcs_one y) (by rw [HOL.out]; unfold maxLen; omega) (by rw [HOL.out]; omega) (by have := hB.out.size; have := HB1.out.size; simp; omega) ?_); intro v2 w2 hown2 hgrow2 hnil2; have HO2 := Lib.hid hown2; have HG2 := Lib.hid hgrow2; clear hown2 hgrow2 hnil2))
        clear hfold hxl'
        go_roundw
        case rel =>
          refine ⟨k + 1, os ++ [y], by go_num, by omega, Lib.hid (by rw [HTK.out]; exact HRS.out), Lib.hid ?_, Lib.hid ?_⟩
          · refine ⟨fun h hm => ?_, ?_⟩
            · rcases List.mem_append.1 hm with hm | hm
              · exact hO.out.1 h hm
              · obtain rfl : h = y := by simpa using hm
                exact HLK.out
            · have h := HO2.out
              rw [List.length_append, List.flatMap_append]
              simpa using h
          · have hb1 := hB.out.trans (HB1.out.mono hB.out.size)
            exact (hb1.alloc hb1.size _).grown HG2.out (by have := hb1.size; simp; omega) (fun j hj => (hO.out.2.lt j hj).1)
        case measure => simp [intOf]; omega
      · have hb2 : decide ((ls.length : Int) ≤ (x : Int)) = true := by simp; omega
        have hcE : wr.cell? ⟨0, 0, none⟩ = some E := (hB.out.cell (p := ⟨0, 0, none⟩) hE0).trans HE.out
        have HN : Hid (rd ls xs = none) := Lib.hid (rd_none HXK.out (by omega))
        go_upto_region 6 with fail
        go_region
        all_goals (try go_wp2)
        all_goals go_ret2
        all_goals exact ⟨by rw [HN.out]; rfl, hB.out.drew⟩
    · obtain rfl : k = xs.length := by omega
      go_wp2
      go_ret2
      exact ⟨by have h := hR.out; rw [List.take_length] at h; rw [h]; exact ⟨_, rfl, hO.out⟩, hB.out⟩

theorem reader_any (ls : List (List Int)) (v E : Value) (w : World) (hv : RowsIn w v ls) (hE : w.cell? ⟨0, 0, none⟩ = some E) (hE0 : 0 < w.heap.size) :
    Calls Tryd.prog 27 #[v] w fun e w' => e = .returned (RV w.heap.size) ∧ Rdr w' w.heap.size ls E ∧ Below w.heap.size w w' := by
  have hv' := hv
  obtain ⟨A, c, rfl, hc1, hc2, hc3⟩ := hv
  have hb : ∀ o, Below w.heap.size w (w.alloc o) := fun o => (Below.refl _ _).alloc (Nat.le_refl _) o
  have HB := Lib.hid hb
  have HV := Lib.hid hv'
  have HE := Lib.hid hE
  clear hb hv' hE hc3
  have hmf : ∀ (fn : Fn) (first cap : Array Value) (w : World), (Instr.makeFunc fn first cap).run Tryd.prog w = .ok (.func fn first cap) w := fun _ _ _ _ => rfl
  go_enter Tryd.func27, Tryd.ntmps27
  go_wp2
  go_ret
  exact ⟨rfl, ⟨⟨_, cell_of_row (w.alloc _) _ _ _ 22 (0, 0) (heap_alloc_new w _), HV.out.below (HB.out _)⟩, by simp, ((HB.out _).cell (p := ⟨0, 0, none⟩) hE0).trans HE.out, by first | (simp; done) | (simp; omega)⟩, HB.out _⟩

set_option maxHeartbeats 4000000 in
theorem readHashes_any (ls : List (List Int)) (xs : List Nat) (v : Value) (g : Nat) (E : Value) (w : World) (hv : IIn w v xs) (hx : ∀ x ∈ xs, x ≤ 9223372036854775807) (hn : xs.length ≤ 100000) (hs : Rdr w g ls E) :
    Calls Tryd.prog 79 #[.func (.func 43) #[] #[.pointer (some ⟨g, 0, none⟩)], v] w fun e w' => RdOut (rd ls xs) E w.heap.size e w' ∧ Below w.heap.size w w' := by
  have HC := Lib.hid (readerFn_any ls xs v g E w hv hx hn hs)
  clear hv hx hn hs
  cases hr : rd ls xs with
  | none =>
    rw [hr] at HC
    go_enter Tryd.func79, Tryd.ntmps79
    go_wp2_with (go_at_call 43; (with_reducible refine HC.out.mono ?_); rintro e w1 ⟨h1, hb1⟩; obtain rfl : e = .returned (.tuple #[.slice none 0 0, E]) := h1; have HB1 := Lib.hid hb1; clear hb1)
    go_ret2
    exact ⟨rfl, HB1.out⟩
  | some os =>
    rw [hr] at HC
    go_enter Tryd.func79, Tryd.ntmps79
    go_wp2_with (go_at_call 43; (with_reducible refine HC.out.mono ?_); rintro e w1 ⟨⟨v', rfl, ho⟩, hb1⟩; have HB1 := Lib.hid hb1; have HO1 := Lib.hid ho; clear hb1 ho)
    go_ret2
    exact ⟨⟨_, rfl, HO1.out⟩, HB1.out⟩
theorem m_read (g : Nat) (w : World) : (method 231 71 (.func (.func 43) #[] #[.pointer (some ⟨g, 0, none⟩)]) "ReadHashes").run Tryd.prog w = .ok (79, .func (.func 43) #[] #[.pointer (some ⟨g, 0, none⟩)]) w := by kernel_rfl

end Go.Proofs.YtokopcbmpnnkcaaDoor
