/- Slices of texts in memory: 'StrsAt w v xs' says that the value v is a slice that reads as the texts xs in the world w; how an argument of type []string is opened. No condition. -/
import Derived.Test.YtienkoadkhcghaaSemLaws2
import Derived.ProofKit
import Derived.OpenShut
import Derived.ShutString
import Derived.SizedLaws
namespace Go.Proofs.Ytienkoadkhcghaa
open Go.RowKit Go.ChangeShapes Go.WideShapes

def StrsAt (w : World) (v : Value) (xs : List (List UInt8)) : Prop :=
  ∃ A c, v = .slice A xs.length c ∧ xs.length ≤ c ∧ c ≤ 9223372036854775807 ∧ (xs = [] ∨ ∃ b off, A = some ⟨b, off, none⟩ ∧ b < w.heap.size ∧ ∀ k u, xs[k]? = some u → w.cell? ⟨b, off + k, none⟩ = some (str u))

theorem StrsAt.below {w w' : World} {v : Value} {xs : List (List UInt8)} (h : StrsAt w v xs) (hb : Below w.heap.size w w') : StrsAt w' v xs := by
  obtain ⟨A, c, hv, hc, hm, h⟩ := h
  refine ⟨A, c, hv, hc, hm, ?_⟩
  rcases h with h | ⟨b, off, hA, hlt, hcell⟩
  · exact .inl h
  · exact .inr ⟨b, off, hA, Nat.lt_of_lt_of_le hlt hb.size, fun k u hu => (hb.cell (p := ⟨b, off + k, none⟩) hlt).trans (hcell k u hu)⟩
theorem StrsAt.alloc {w : World} {v : Value} {xs : List (List UInt8)} (h : StrsAt w v xs) (o : Obj) : StrsAt (w.alloc o) v xs := h.below (bl_new w o)
theorem StrsAt.drewN {w : World} {v : Value} {xs : List (List UInt8)} (h : StrsAt w v xs) (n : Nat) : StrsAt (w.drewN n) v xs := h

/-- how many values and letters -/
def bulkS (xs : List (List UInt8)) : Nat := (xs.map fun x => x.length + 1).sum + 1

theorem sum_bulk {H : Type} (ss : List ByteArray) : Rows.uptoBulkAll (strs (H := H) ss) = ((ss.map fun s => s.data.toList).map fun x => x.length + 1).sum := by
  induction ss with
  | nil => rfl
  | cons s r ih => simp only [strs, List.map_cons, Rows.uptoBulkAll, Rows.uptoBulk, List.sum_cons] at ih ⊢; rw [ih]

theorem weights_strs {H : Type} {P : Program} {e : TypeId} {ss : List ByteArray} {s : ByteArray} (h : s ∈ ss) : s.data.toList.length ∈ DataW.weightsAll P e (strs (H := H) ss) := by
  induction ss with
  | nil => cases h
  | cons x r ih =>
    simp only [strs, List.map_cons, DataW.weightsAll, DataW.weights, List.mem_append]
    rcases List.mem_cons.1 h with e | e
    · left; rw [e]; simp
    · right; exact ih e
theorem cells_string : Try.prog.cellsOf 9 = 1 := by kernel_rfl

theorem opened_strings {H : Type} {enc : TypeId × Value → H} {W : World} {base : Nat} {v : Value} {d : DataW H} {ps : List MemPlace}
    (hok : Value.okWide Try.prog W .any base 22 v) (h : DataW.Trod enc Try.prog W 0 (fun _ => true) true 22 v d ps) :
    ∃ xs : List (List UInt8), StrsAt W v xs ∧ bulkS xs ≤ Rows.uptoBulk d ∧ ((∀ n ∈ d.weights Try.prog 22, n ≤ reachBytes) → (∀ x ∈ xs, x.length ≤ 140737488351232)) := by
  have hlt : ∀ x ∈ ps, x.block < W.heap.size := by obtain ⟨m, hm⟩ := h; exact DataW.trod_lt m _ _ _ hm
  obtain ⟨a0, len, cap, rfl⟩ := okWide_slice Try.underlying22 hok
  obtain ⟨fuel, hf⟩ := h
  rcases open_strings Try.underlying22 Try.underlying9 cells_string hf with ⟨hcs, hx⟩ | ⟨a, len', cap', ss, hcs, _, hl, hm, hz, hx, hcell, hws⟩
  · simp [Value.cells] at hcs
    obtain ⟨rfl, rfl, rfl⟩ := hcs
    simp only [Prod.mk.injEq] at hx
    refine ⟨[], ⟨none, 0, rfl, Nat.le_refl _, by omega, .inl rfl⟩, ?_, fun _ x hx => by cases hx⟩
    rw [hx.1]
    simp [bulkS, Rows.uptoBulk]
  · simp [Value.cells] at hcs
    obtain ⟨rfl, rfl, rfl⟩ := hcs
    simp only [Prod.mk.injEq] at hx
    have hlen : ss.length = cap := by simpa using hz
    have hll : ((ss.take len).map fun s => s.data.toList).length = len := by simp; omega
    refine ⟨(ss.take len).map fun s => s.data.toList, ⟨some a, cap, by rw [hll], by rw [hll]; exact hl, hm, ?_⟩, ?_, ?_⟩
    · rcases Nat.eq_zero_or_pos len with h0 | h0
      · left; rw [h0]; rfl
      · right
        obtain ⟨b, off, sp⟩ := a
        have hc0 := hcell 0 (by omega)
        have hsp : sp = none := by simpa [Addr.add] using World.cell?_spot hc0
        subst hsp
        refine ⟨b, off, rfl, ?_, ?_⟩
        · have : MemPlace.row ⟨b, off, none⟩ ss.length = ps := hx.2.symm
          have hmem : MemPlace.cell b off ∈ ps := by
            rw [← this]
            simp [MemPlace.row]
            omega
          exact hlt _ hmem
        · intro k u hu
          rw [List.getElem?_map] at hu
          cases hs : (ss.take len)[k]? with
          | none => rw [hs] at hu; cases hu
          | some s =>
            rw [hs] at hu
            cases hu
            have hk : k < len := by
              have := (List.getElem?_eq_some_iff.1 hs).1
              simp at this; omega
            rw [List.getElem?_take_of_lt hk] at hs
            have hk2 : k < ss.length := (List.getElem?_eq_some_iff.1 hs).1
            have := hcell k hk2
            have e : (⟨b, off, none⟩ : Addr).add k = ⟨b, off + k, none⟩ := by unfold Addr.add; split <;> simp_all
            rw [e] at this
            rw [this, ← str_of]
            simp [List.getD, hs]
    · rw [hx.1]
      simp only [Rows.uptoBulk, bulkS]
      rw [sum_bulk (H := H)]
      omega
    · rw [hx.1]
      intro hz x hx'
      simp only [List.mem_map] at hx'
      obtain ⟨s, hs, rfl⟩ := hx'
      refine hz _ ?_
      simp only [DataW.weights, Try.underlying22]
      refine List.mem_cons_of_mem _ (List.mem_append_left _ ?_)
      exact weights_strs hs

end Go.Proofs.Ytienkoadkhcghaa
