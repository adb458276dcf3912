/- How arguments of the types []byte and [][]byte are opened. No condition. -/
import Derived.Test.YtokopcbmpnnkcaaDoorSha9
import Derived.ProofKit
import Derived.OpenShut
import Derived.SizedLaws
import Derived.Deep.Slices
import Derived.ChangeSlices
namespace Go.Proofs.YtokopcbmpnnkcaaDoor
open Go.RowKit Go.ChangeShapes Go.WideShapes Go.Deep

def bulkB (xs : List Int) : Nat := xs.length + 1
set_option maxRecDepth 50000 in
theorem cells_byte : Tryd.prog.cellsOf 5 = 1 := by kernel_rfl
set_option maxRecDepth 50000 in
theorem bytes_byte : Tryd.prog.bytesOf 5 = 1 := by kernel_rfl
set_option maxRecDepth 50000 in
theorem lits_bulk {H : Type} (k : IntKind) (zs : List Int) : Rows.uptoBulkAll (lits (H := H) k zs) = zs.length := by
  induction zs with
  | nil => rfl
  | cons z r ih => simp only [lits, List.map_cons, Rows.uptoBulkAll, Rows.uptoBulk, List.length_cons] at ih ⊢; omega
set_option maxRecDepth 50000 in
theorem opened_cells {H : Type} {enc : TypeId × Value → H} {W : World} {base fuel : Nat} {held : Bool} {cs : List Value} {x : DataW H × List MemPlace}
    (h : DataW.trod enc Tryd.prog W base (fun _ => true) held fuel 23 cs = some x) :
    ∃ v, cs = [v] ∧ ∃ xs : List Int, (BIn W v xs ∧ Oct xs) ∧ bulkB xs ≤ Rows.uptoBulk x.1 ∧ ((∀ n ∈ x.1.weights Tryd.prog 23, n ≤ reachBytes) → xs.length ≤ 140737488351232) := by
  rcases open_ints Tryd.underlying23 Tryd.underlying5 cells_byte h with ⟨rfl, rfl⟩ | ⟨a, len, cap, zs, rfl, _, hl, hm, hz, rfl, hcell, hwf⟩
  · exact ⟨_, rfl, [], ⟨BIn.nil_ W, fun x hx => by cases hx⟩, by simp [bulkB, Rows.uptoBulk], fun _ => by simp⟩
  · have hzc : zs.length = cap := by simpa using hz
    have htl : (zs.take len).length = len := by simp; omega
    refine ⟨_, rfl, zs.take len, ⟨⟨some a, cap, by rw [htl], by omega, by simpa [maxLen] using hm, ?_⟩, ?_⟩, ?_, ?_⟩
    · by_cases h0 : cap = 0
      · exact .inl h0
      · right
        obtain ⟨b, off, sp⟩ := a
        have hc0 := hcell 0 (by omega)
        have hsp : sp = none := by simpa [Addr.add] using World.cell?_spot hc0
        subst hsp
        refine ⟨b, off, rfl, ?_, fun j hj => ?_⟩
        · exact World.block_lt_of_cell? W ⟨b, off, none⟩ (by simpa [Addr.add] using hc0)
        · have hj' : j < zs.length := by omega
          have hjl : j < len := by omega
          have := hcell j hj'
          have e : (⟨b, off, none⟩ : Addr).add j = ⟨b, off + j, none⟩ := Addr.add_lit _ _ _
          rw [e] at this
          rw [this]
          simp [List.getD, hjl]
    · intro x hx
      have := hwf x (List.mem_of_mem_take hx)
      simp only [Lit.wf, Bool.and_eq_true, decide_eq_true_eq] at this
      have h1 : IntKind.u8.min = 0 := by decide
      have h2 : IntKind.u8.max = 255 := by decide
      rw [h1, h2] at this
      omega
    · simp only [Rows.uptoBulk, lits_bulk, bulkB]; omega
    · intro hw
      have := hw _ (by simp only [DataW.weights, Tryd.underlying23]; exact List.mem_cons_self ..)
      rw [bytes_byte] at this
      simp [lits, reachBytes] at this
      omega
set_option maxRecDepth 50000 in
theorem opened_bytes {H : Type} {enc : TypeId × Value → H} {W : World} {base : Nat} {v : Value} {d : DataW H} {ps : List MemPlace}
    (hok : Value.okWide Tryd.prog W .any base 23 v) (h : DataW.Trod enc Tryd.prog W 0 (fun _ => true) true 23 v d ps) :
    ∃ xs : List Int, (BIn W v xs ∧ Oct xs) ∧ bulkB xs ≤ Rows.uptoBulk d ∧ ((∀ n ∈ d.weights Tryd.prog 23, n ≤ reachBytes) → xs.length ≤ 140737488351232) := by
  obtain ⟨a0, len, cap, rfl⟩ := okWide_slice Tryd.underlying23 hok
  obtain ⟨fuel, hf⟩ := h
  obtain ⟨u, e, xs, h1, h2, h3⟩ := opened_cells hf
  simp [Value.cells] at e
  subst e
  exact ⟨xs, h1, h2, h3⟩

/-- a slice of slices of bytes in memory -/
def RowsIn (w : World) (v : Value) (ls : List (List Int)) : Prop := ∃ A c, v = .slice A ls.length c ∧ ls.length ≤ c ∧ c ≤ 9223372036854775807 ∧
  (c = 0 ∨ ∃ b off, A = some ⟨b, off, none⟩ ∧ b < w.heap.size ∧ ∀ j l, ls[j]? = some l → ∃ u, w.cell? ⟨b, off + j, none⟩ = some u ∧ BIn w u l)
set_option maxRecDepth 50000 in
theorem RowsIn.nil_ (w : World) : RowsIn w (.slice none 0 0) [] := ⟨none, 0, rfl, Nat.le_refl _, by omega, .inl rfl⟩
set_option maxRecDepth 50000 in
theorem RowsIn.below {w w' : World} {v : Value} {ls : List (List Int)} (h : RowsIn w v ls) (hb : Below w.heap.size w w') : RowsIn w' v ls := by
  obtain ⟨A, c, e, h1, h2, h3⟩ := h
  refine ⟨A, c, e, h1, h2, ?_⟩
  rcases h3 with h3 | ⟨b, off, hA, hlt, hc⟩
  · exact .inl h3
  · refine .inr ⟨b, off, hA, Nat.lt_of_lt_of_le hlt hb.size, fun j l hj => ?_⟩
    obtain ⟨u, hu, hi⟩ := hc j l hj
    exact ⟨u, (hb.cell (p := ⟨b, off + j, none⟩) hlt).trans hu, hi.below hb⟩
def OctR (ls : List (List Int)) : Prop := ∀ l ∈ ls, Oct l
def bulkBB (ls : List (List Int)) : Nat := (ls.map bulkB).sum + 1
set_option maxRecDepth 50000 in
theorem cells_row : Tryd.prog.cellsOf 23 = 1 := by kernel_rfl
set_option maxRecDepth 50000 in
theorem bytes_row : Tryd.prog.bytesOf 23 = 24 := by kernel_rfl
set_option maxRecDepth 50000 in
theorem bulk_mem {H : Type} {ds : List (DataW H)} (ls : List (List Int)) (hl : ls.length ≤ ds.length) (h : ∀ (j : Nat) l d, ls[j]? = some l → ds[j]? = some d → bulkB l ≤ Rows.uptoBulk d) : (ls.map bulkB).sum ≤ Rows.uptoBulkAll ds := by
  induction ls generalizing ds with
  | nil => simp
  | cons l r ih =>
    cases ds with
    | nil => simp at hl
    | cons d ds =>
      have h0 := h 0 l d rfl rfl
      have := ih (ds := ds) (by simpa using hl) (fun j l d a b => h (j + 1) l d (by simpa using a) (by simpa using b))
      simp only [List.map_cons, List.sum_cons, Rows.uptoBulkAll]
      omega
set_option maxRecDepth 50000 in
theorem weights_mem {H : Type} {P : Program} {e : TypeId} {ds : List (DataW H)} {d : DataW H} (h : d ∈ ds) {n : Nat} (hn : n ∈ d.weights P e) : n ∈ DataW.weightsAll P e ds := by
  induction ds with
  | nil => cases h
  | cons x r ih =>
    simp only [DataW.weightsAll, List.mem_append]
    rcases List.mem_cons.1 h with e | e
    · left; rw [← e]; exact hn
    · right; exact ih e
set_option maxRecDepth 50000 in
theorem opened_rows {H : Type} {enc : TypeId × Value → H} {W : World} {base : Nat} {v : Value} {d : DataW H} {ps : List MemPlace}
    (hok : Value.okWide Tryd.prog W .any base 22 v) (h : DataW.Trod enc Tryd.prog W 0 (fun _ => true) true 22 v d ps) :
    ∃ ls : List (List Int), (RowsIn W v ls ∧ OctR ls) ∧ bulkBB ls ≤ Rows.uptoBulk d ∧ ((∀ n ∈ d.weights Tryd.prog 22, n ≤ reachBytes) → ls.length ≤ 5864062014634 ∧ ∀ l ∈ ls, l.length ≤ 140737488351232) := by
  obtain ⟨a0, len0, cap0, rfl⟩ := okWide_slice Tryd.underlying22 hok
  obtain ⟨fuel, hf⟩ := h
  rcases open_slice Tryd.underlying22 hf with ⟨hcs, hx⟩ | ⟨a, len, cap, m, n, D, Pl, hcs, _, hl, hm, hmm, hx, hi⟩
  · simp [Value.cells] at hcs
    obtain ⟨rfl, rfl, rfl⟩ := hcs
    simp only [Prod.mk.injEq] at hx
    refine ⟨[], ⟨RowsIn.nil_ W, fun x hx => by cases hx⟩, ?_, fun _ => ⟨by simp, fun x hx => by cases hx⟩⟩
    rw [hx.1]
    simp [bulkBB, Rows.uptoBulk]
  · simp [Value.cells] at hcs
    obtain ⟨rfl, rfl, rfl⟩ := hcs
    simp only [Prod.mk.injEq] at hx
    have hmc : m = cap0 := by simpa using hmm
    subst hmc
    have key : ∀ i, i < m → ∃ l u, W.cell? (a.add i) = some u ∧ BIn W u l ∧ Oct l ∧ bulkB l ≤ Rows.uptoBulk (D i) ∧ ((∀ n ∈ (D i).weights Tryd.prog 23, n ≤ reachBytes) → l.length ≤ 140737488351232) := by
      intro i him
      obtain ⟨cs', hc, ht⟩ := hi i him
      rw [cells_row, Nat.mul_one] at hc
      obtain ⟨_, hlen, hat⟩ := World.cells?_some hc
      obtain ⟨u, rfl, l, ⟨h1, h2⟩, h3, h4⟩ := opened_cells ht
      have h5 := hat 0 (by omega)
      exact ⟨l, u, by simpa [Addr.add] using h5, h1, h2, h3, h4⟩
    let L : Nat → List Int := fun i => if h : i < m then (key i h).choose else []
    have hL : ∀ i, i < m → ∃ u, W.cell? (a.add i) = some u ∧ BIn W u (L i) ∧ Oct (L i) ∧ bulkB (L i) ≤ Rows.uptoBulk (D i) ∧ ((∀ n ∈ (D i).weights Tryd.prog 23, n ≤ reachBytes) → (L i).length ≤ 140737488351232) := by
      intro i him
      have := (key i him).choose_spec
      simp only [L, dif_pos him]
      exact this
    generalize L = L at hL
    have hget : ∀ j l, ((List.range len0).map L)[j]? = some l → j < len0 ∧ l = L j := by
      intro j l hj
      rw [List.getElem?_map, Option.map_eq_some_iff] at hj
      obtain ⟨k, hk, rfl⟩ := hj
      rw [List.getElem?_eq_some_iff] at hk
      obtain ⟨h1, h2⟩ := hk
      simp at h1 h2
      exact ⟨h1, by rw [h2]⟩
    refine ⟨(List.range len0).map L, ⟨⟨some a, m, by simp, by simpa using hl, by simpa [maxLen] using hm, ?_⟩, ?_⟩, ?_, ?_⟩
    · by_cases h0 : m = 0
      · exact .inl h0
      · right
        obtain ⟨b, off, sp⟩ := a
        obtain ⟨u0, hc0, _⟩ := hL 0 (by omega)
        have hsp : sp = none := by simpa [Addr.add] using World.cell?_spot hc0
        subst hsp
        refine ⟨b, off, rfl, World.block_lt_of_cell? W ⟨b, off, none⟩ (by simpa [Addr.add] using hc0), fun j l hj => ?_⟩
        obtain ⟨hj1, rfl⟩ := hget j l hj
        obtain ⟨u, hu, hb, _⟩ := hL j (by omega)
        have e : (⟨b, off, none⟩ : Addr).add j = ⟨b, off + j, none⟩ := Addr.add_lit _ _ _
        rw [e] at hu
        exact ⟨u, hu, hb⟩
    · intro l hl'
      obtain ⟨j, hj⟩ := List.getElem?_of_mem hl'
      obtain ⟨hj1, rfl⟩ := hget j l hj
      obtain ⟨u, hu, hb, ho, _⟩ := hL j (by omega)
      exact ho
    · rw [hx.1]
      have := bulk_mem ((List.range len0).map L) (ds := (List.range len0).map D) (by simp) (fun j l d hj hd => by
        obtain ⟨hj1, rfl⟩ := hget j l hj
        obtain ⟨u, hu, hb, ho, hk, _⟩ := hL j (by omega)
        simp [hj1] at hd
        rw [← hd]; exact hk)
      simp only [bulkBB, Rows.uptoBulk]
      omega
    · intro hw
      rw [hx.1] at hw
      simp only [DataW.weights, Tryd.underlying22] at hw
      refine ⟨?_, fun l hl' => ?_⟩
      · have := hw _ (List.mem_cons_self ..)
        rw [bytes_row] at this
        simp [reachBytes] at this
        simp
        omega
      · obtain ⟨j, hj⟩ := List.getElem?_of_mem hl'
        obtain ⟨hj1, rfl⟩ := hget j l hj
        obtain ⟨u, hu, hb, ho, hk, hlen⟩ := hL j (by omega)
        refine hlen fun n hn => hw n (List.mem_cons_of_mem _ (List.mem_append_left _ (weights_mem (d := D j) ?_ hn)))
        exact List.mem_map.2 ⟨j, by simpa using hj1, rfl⟩

end Go.Proofs.YtokopcbmpnnkcaaDoor
