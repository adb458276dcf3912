/- Lists of bytes behind lists of bytes of one's own, whatever slice they come from. Condition: at most 5864062014635 lists in all. -/
import Derived.Test.YtokopcbmpnnkcaaDoorRows2
import Derived.Laws.AppendOwnNone
namespace Go.Proofs.YtokopcbmpnnkcaaDoor
open Go.RowKit
set_option linter.unusedVariables false

/-- a slice of slices of bytes in memory, with the slices that it holds -/
def RowsAt (w : World) (y : Value) (vs : List Value) (ms : List (List Int)) : Prop := ∃ A c, y = .slice A ms.length c ∧ ms.length ≤ c ∧ c ≤ 9223372036854775807 ∧ vs.length = ms.length ∧
  (∀ (j : Nat) u l, vs[j]? = some u → ms[j]? = some l → BIn w u l) ∧
  (c = 0 ∨ ∃ b off, A = some ⟨b, off, none⟩ ∧ b < w.heap.size ∧ ∀ (j : Nat) u, vs[j]? = some u → w.cell? ⟨b, off + j, none⟩ = some u)
theorem RowsAt.in_ {w : World} {y : Value} {vs : List Value} {ms : List (List Int)} (h : RowsAt w y vs ms) : RowsIn w y ms := by
  obtain ⟨A, c, e, h1, h2, h3, h4, h5⟩ := h
  refine ⟨A, c, e, h1, h2, ?_⟩
  rcases h5 with h5 | ⟨b, off, hA, hlt, hc⟩
  · exact .inl h5
  · refine .inr ⟨b, off, hA, hlt, fun j l hj => ?_⟩
    have hj' : j < vs.length := by have := (List.getElem?_eq_some_iff.1 hj).1; omega
    exact ⟨vs[j], hc j _ (List.getElem?_eq_getElem hj'), h4 j _ l (List.getElem?_eq_getElem hj') hj⟩
theorem RowsIn.at_ {w : World} {y : Value} {ms : List (List Int)} (h : RowsIn w y ms) : ∃ vs, RowsAt w y vs ms := by
  obtain ⟨A, c, e, h1, h2, h3⟩ := h
  rcases h3 with h3 | ⟨b, off, hA, hlt, hc⟩
  · obtain rfl : ms = [] := List.eq_nil_of_length_eq_zero (by omega)
    exact ⟨[], A, c, e, h1, h2, rfl, fun j u l hu => by simp at hu, .inl h3⟩
  · let f : Nat → Value := fun j => if hj : j < ms.length then (hc j ms[j] (List.getElem?_eq_getElem hj)).choose else .nilIface
    have hf : ∀ j l, ms[j]? = some l → w.cell? ⟨b, off + j, none⟩ = some (f j) ∧ BIn w (f j) l := by
      intro j l hl
      obtain ⟨hj, rfl⟩ := List.getElem?_eq_some_iff.1 hl
      have := (hc j ms[j] (List.getElem?_eq_getElem hj)).choose_spec
      simp only [f, dif_pos hj]
      exact this
    generalize f = f at hf
    have hget : ∀ (j : Nat) u, ((List.range ms.length).map f)[j]? = some u → j < ms.length ∧ u = f j := by
      intro j u hj
      rw [List.getElem?_map, Option.map_eq_some_iff] at hj
      obtain ⟨k, hk, rfl⟩ := hj
      obtain ⟨h1, h2⟩ := List.getElem?_eq_some_iff.1 hk
      simp at h1 h2
      exact ⟨h1, by rw [h2]⟩
    refine ⟨(List.range ms.length).map f, A, c, e, h1, h2, by simp, fun j u l hu hl => ?_, .inr ⟨b, off, hA, hlt, fun j u hu => ?_⟩⟩
    · obtain ⟨_, rfl⟩ := hget j u hu
      exact (hf j l hl).2
    · obtain ⟨hj, rfl⟩ := hget j u hu
      exact (hf j _ (List.getElem?_eq_getElem hj)).1
theorem BRow.at_ {w : World} {base : Nat} {v : Value} {us : List Value} {ls : List (List Int)} (h : BRow w base v us ls) : RowsAt w v us ls := by
  have hl := h.len
  have ho := h.1
  rcases h.1.2 with ⟨rfl, h0⟩ | ⟨g, cap, cur, rfl, hb, hh, hnc, hm, hcs', htk⟩
  · exact ⟨none, 0, by rw [h0], by omega, by omega, hl, fun j u l hu hj => (h.2 j u l hu hj).1, .inl rfl⟩
  · refine ⟨_, cap, rfl, hnc, by simpa [maxLen] using hm, hl, fun j u l hu hj => (h.2 j u l hu hj).1, .inr ⟨g, 0, rfl, (ho.lt g rfl).2, fun j u hu => ?_⟩⟩
    have hj' : j < us.length := (List.getElem?_eq_some_iff.1 hu).1
    rw [Nat.zero_add, ho.cellAt j (by omega)]
    exact hu
theorem RowsAt.below {w w' : World} {y : Value} {vs : List Value} {ms : List (List Int)} (h : RowsAt w y vs ms) (hb : Below w.heap.size w w') : RowsAt w' y vs ms := by
  obtain ⟨A, c, e, h1, h2, h3, h4, h5⟩ := h
  refine ⟨A, c, e, h1, h2, h3, fun j u l hu hl => (h4 j u l hu hl).below hb, ?_⟩
  rcases h5 with h5 | ⟨b, off, hA, hlt, hc⟩
  · exact .inl h5
  · exact .inr ⟨b, off, hA, Nat.lt_of_lt_of_le hlt hb.size, fun j u hu => (hb.cell (p := ⟨b, off + j, none⟩) hlt).trans (hc j u hu)⟩
theorem RowsAt.off {w : World} {y : Value} {vs : List Value} {ms : List (List Int)} (h : RowsAt w y vs ms) {g : Nat} (hg : w.heap.size ≤ g) : ∀ u ∈ vs, BOff u g := by
  obtain ⟨A, c, e, h1, h2, h3, h4, h5⟩ := h
  intro u hu
  obtain ⟨j, hj⟩ := List.getElem?_of_mem hu
  have hj' : j < ms.length := by have := (List.getElem?_eq_some_iff.1 hj).1; omega
  exact (h4 j u _ hj (List.getElem?_eq_getElem hj')).off hg
theorem RowsAt.one {w : World} {u : Value} {l : List Int} (h : BIn w u l) : RowsAt (w.alloc (Obj.cells #[u] 23)) (.slice (some ⟨w.heap.size, 0, none⟩) 1 1) [u] [l] := by
  refine ⟨_, 1, rfl, by simp, by omega, rfl, fun j v m hv hm => ?_, .inr ⟨w.heap.size, 0, rfl, by simp, fun j v hv => ?_⟩⟩
  · have h0 : j = 0 := by have := (List.getElem?_eq_some_iff.1 hv).1; simp at this; exact this
    subst h0
    obtain rfl : u = v := by simpa using hv
    obtain rfl : l = m := by simpa using hm
    exact h.below ((Below.refl _ _).alloc (Nat.le_refl _) _)
  · have h0 : j = 0 := by have := (List.getElem?_eq_some_iff.1 hv).1; simp at this; exact this
    subst h0
    obtain rfl : u = v := by simpa using hv
    exact cell_of_row (w.alloc _) _ _ _ 23 (0, 0) (heap_alloc_new w _)
theorem bin_one {w : World} {u : Value} {l : List Int} (h : BIn w u l) : u.oneCell' = true := by
  obtain ⟨A, c, rfl, _⟩ := h
  rfl
/-- lists of bytes behind lists of bytes -/
theorem app_rows {w : World} {ops : Array Oper} {rest : List Oper} {o : Oper} {a : Act} {Q : Exit → Act → World → Prop} (hgd : o.guard = none) (s x : Operand)
    (ho : o.op = .call { callee := .builtin .append, args := #[s, x], argTypes := #[22, 22] })
    (base : Nat) (v : Value) (us : List Value) (ls : List (List Int)) (hs : a.eval s = v) (hown : BRow w base v us ls)
    (y : Value) (vs : List Value) (ms : List (List Int)) (hx : a.eval x = y) (hy : RowsAt w y vs ms) (hoff : ∀ g, v.ownBlock = some g → ∀ u ∈ vs, BOff u g) (hlen : ls.length + ms.length ≤ 5864062014635) (hbase : base ≤ w.heap.size)
    (h : ∀ v' w', BRow w' base v' (us ++ vs) (ls ++ ms) → w.grownBy w' v.ownBlock → wpList Tryd.prog ops Q rest (a.put o.dst v') w') : wpList Tryd.prog ops Q (o :: rest) a w := by
  obtain ⟨i0, hi, hz0, hz1, hz2⟩ := info_parts info_bytes_row
  obtain ⟨A, c, rfl, hc, hm, hvl, hb, hcell⟩ := hy
  cases A with
  | none =>
    obtain rfl : c = 0 := by
      rcases hcell with h | ⟨_, _, e, _⟩
      · exact h
      · cases e
    obtain rfl : ms = [] := List.eq_nil_of_length_eq_zero (by omega)
    obtain rfl : vs = [] := List.eq_nil_of_length_eq_zero (by simpa using hvl)
    refine wpList_append_own_none hgd s x 22 ho base 23 i0 1 Tryd.underlying22 hi v ls.length us hs hown.1 hx ?_
    exact h v w (by simpa using hown) (World.grownBy.refl _ _)
  | some ad =>
    refine wpList_append_own_at w hgd s x 22 ho base 23 i0 (.slice none 0 0) 1 24 Tryd.underlying22 hi hz0 hz1 hz2 rfl (by decide) v ls.length us hs hown.1 ad ms.length c vs hx (by omega) ?_ ?_ (by unfold maxLen; omega) (by omega) hbase ?_
    · intro j u hu
      rcases hcell with h0 | ⟨b, off, e, hlt, hc'⟩
      · obtain rfl : vs = [] := List.eq_nil_of_length_eq_zero (by omega)
        simp at hu
      · cases e
        rw [Addr.add_lit]
        exact hc' j u hu
    · intro u hu
      obtain ⟨j, hj⟩ := List.getElem?_of_mem hu
      have hj' : j < ms.length := by have := (List.getElem?_eq_some_iff.1 hj).1; omega
      exact bin_one (hb j u _ hj (List.getElem?_eq_getElem hj'))
    · intro v' w' h1 h2 h3 h4
      refine h v' w' (hown.app h1 h2 h4 fun j u l hu hl => ⟨hb j u l hu hl, fun g hg => hoff g hg u (List.mem_of_getElem? hu)⟩) h2
theorem RowsIn.tail_ {w : World} {b off n c : Nat} {ls : List (List Int)} (h : RowsIn w (.slice (some ⟨b, off, none⟩) n c) ls) (h1 : 1 ≤ n) : RowsIn w (.slice (if c = 1 then some ⟨b, off, none⟩ else some ⟨b, off + 1, none⟩) (n - 1) (c - 1)) ls.tail := by
  obtain ⟨A, c', e, h2, h3, h4⟩ := h
  cases e
  refine ⟨_, c - 1, by rw [List.length_tail], by rw [List.length_tail]; omega, by omega, ?_⟩
  by_cases hc : c = 1
  · exact .inl (by omega)
  · rw [if_neg hc]
    obtain ⟨b', off', e', hlt, hr⟩ := h4.resolve_left (by omega)
    cases e'
    refine .inr ⟨b, off + 1, rfl, hlt, fun j l hj => ?_⟩
    have := hr (j + 1) l (by simpa using hj)
    rwa [Nat.add_assoc, Nat.add_comm 1 j]
theorem RowsIn.init_ {w : World} {b off n c : Nat} {ls : List (List Int)} (h : RowsIn w (.slice (some ⟨b, off, none⟩) n c) ls) : RowsIn w (.slice (some ⟨b, off, none⟩) (n - 1) c) ls.dropLast := by
  obtain ⟨A, c', e, h2, h3, h4⟩ := h
  cases e
  refine ⟨_, c, by rw [List.length_dropLast], by rw [List.length_dropLast]; omega, h3, ?_⟩
  rcases h4 with h4 | ⟨b', off', e', hlt, hr⟩
  · exact .inl h4
  · cases e'
    refine .inr ⟨b, off, rfl, hlt, fun j l hj => hr j l ?_⟩
    have hj' := (List.getElem?_eq_some_iff.1 hj).1
    rw [List.length_dropLast] at hj'
    rw [List.getElem?_dropLast, if_pos (by omega)] at hj
    exact hj
/-- a slice of lists of bytes, as it stands in a place -/
theorem RowsIn.form {w : World} {y : Value} {ms : List (List Int)} (h : RowsIn w y ms) : ∃ A c, y = .slice A ms.length c := by
  obtain ⟨A, c, e, _⟩ := h
  exact ⟨A, c, e⟩

end Go.Proofs.YtokopcbmpnnkcaaDoor
