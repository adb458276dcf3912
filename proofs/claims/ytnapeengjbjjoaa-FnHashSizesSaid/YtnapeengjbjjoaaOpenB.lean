/- How arguments of the types []byte and [][]byte are opened. No condition. -/
import Derived.Test.YtnapeengjbjjoaaSha9
import Derived.ProofKit
import Derived.OpenShut
import Derived.SizedLaws
import Derived.Deep.Slices
import Derived.ChangeSlices
namespace Go.Proofs.Ytnapeengjbjjoaa
open Go.RowKit Go.ChangeShapes Go.WideShapes Go.Deep

def bulkB (xs : List Int) : Nat := xs.length + 1
theorem cells_byte : Try.prog.cellsOf 5 = 1 := by kernel_rfl
theorem bytes_byte : Try.prog.bytesOf 5 = 1 := by kernel_rfl
theorem lits_bulk {H : Type} (k : IntKind) (zs : List Int) : Rows.uptoBulkAll (lits (H := H) k zs) = zs.length := by
  induction zs with
  | nil => rfl
  | cons z r ih => simp only [lits, List.map_cons, Rows.uptoBulkAll, Rows.uptoBulk, List.length_cons] at ih ⊢; omega
theorem opened_cells {H : Type} {enc : TypeId × Value → H} {W : World} {base fuel : Nat} {held : Bool} {cs : List Value} {x : DataW H × List MemPlace}
    (h : DataW.trod enc Try.prog W base (fun _ => true) held fuel 22 cs = some x) :
    ∃ v, cs = [v] ∧ ∃ xs : List Int, (BIn W v xs ∧ Oct xs) ∧ bulkB xs ≤ Rows.uptoBulk x.1 ∧ ((∀ n ∈ x.1.weights Try.prog 22, n ≤ reachBytes) → xs.length ≤ 140737488351232) := by
  rcases open_ints Try.underlying22 Try.underlying5 cells_byte h with ⟨rfl, rfl⟩ | ⟨a, len, cap, zs, rfl, _, hl, hm, hz, rfl, hcell, hwf⟩
  · exact ⟨_, rfl, [], ⟨BIn.nil_ W, fun x hx => by cases hx⟩, by simp [bulkB, Rows.uptoBulk], fun _ => by simp⟩
  · have hzc : zs.length = cap := by simpa using hz
    have htl : (zs.take len).length = len := by simp; omega
    refine ⟨_, rfl, zs.take len, ⟨⟨some a, cap, by rw [htl], by omega, by simpa [maxLen] using hm, ?_⟩, ?_⟩, ?_, ?_⟩
    · by_cases h0 : cap = 0
      · exact .inl h0
      · right
        obtain ⟨b, off, sp⟩ := a
        have hc0 := hcell 0 (by omega)
        have hsp : sp = none := by simpa [Addr.add] using World.cell?_spot hc0
        subst hsp
        refine ⟨b, off, rfl, ?_, fun j hj => ?_⟩
        · exact World.block_lt_of_cell? W ⟨b, off, none⟩ (by simpa [Addr.add] using hc0)
        · have hj' : j < zs.length := by omega
          have hjl : j < len := by omega
          have := hcell j hj'
          have e : (⟨b, off, none⟩ : Addr).add j = ⟨b, off + j, none⟩ := by unfold Addr.add; split <;> simp_all
          rw [e] at this
          rw [this]
          simp [List.getD, hjl]
    · intro x hx
      have := hwf x (List.mem_of_mem_take hx)
      simp only [Lit.wf, Bool.and_eq_true, decide_eq_true_eq] at this
      have h1 : IntKind.u8.min = 0 := by decide
      have h2 : IntKind.u8.max = 255 := by decide
      rw [h1, h2] at this
      omega
    · simp only [Rows.uptoBulk, lits_bulk, bulkB]; omega
    · intro hw
      have := hw _ (by simp only [DataW.weights, Try.underlying22]; exact List.mem_cons_self ..)
      rw [bytes_byte] at this
      simp [lits, reachBytes] at this
      omega
theorem opened_bytes {H : Type} {enc : TypeId × Value → H} {W : World} {base : Nat} {v : Value} {d : DataW H} {ps : List MemPlace}
    (hok : Value.okWide Try.prog W .any base 22 v) (h : DataW.Trod enc Try.prog W 0 (fun _ => true) true 22 v d ps) :
    ∃ xs : List Int, (BIn W v xs ∧ Oct xs) ∧ bulkB xs ≤ Rows.uptoBulk d ∧ ((∀ n ∈ d.weights Try.prog 22, n ≤ reachBytes) → xs.length ≤ 140737488351232) := by
  obtain ⟨a0, len, cap, rfl⟩ := okWide_slice Try.underlying22 hok
  obtain ⟨fuel, hf⟩ := h
  obtain ⟨u, e, xs, h1, h2, h3⟩ := opened_cells hf
  simp [Value.cells] at e
  subst e
  exact ⟨xs, h1, h2, h3⟩


end Go.Proofs.Ytnapeengjbjjoaa
