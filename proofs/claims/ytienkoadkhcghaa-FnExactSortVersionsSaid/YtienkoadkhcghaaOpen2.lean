/- How an argument of type []string is opened, with a bound on how many texts it has. No condition. -/
import Derived.Test.YtienkoadkhcghaaStrs
namespace Go.Proofs.Ytienkoadkhcghaa
open Go.RowKit Go.ChangeShapes Go.WideShapes

theorem opened_strings2 {H : Type} {enc : TypeId × Value → H} {W : World} {base : Nat} {v : Value} {d : DataW H} {ps : List MemPlace}
    (hok : Value.okWide Try.prog W .any base 22 v) (h : DataW.Trod enc Try.prog W 0 (fun _ => true) true 22 v d ps) :
    ∃ xs : List (List UInt8), StrsAt W v xs ∧ bulkS xs ≤ Rows.uptoBulk d ∧ ((∀ n ∈ d.weights Try.prog 22, n ≤ reachBytes) → (∀ x ∈ xs, x.length ≤ 140737488351232) ∧ xs.length ≤ 8796093021952) := by
  obtain ⟨xs, h1, h2, h3⟩ := opened_strings hok h
  refine ⟨xs, h1, h2, fun hz => ⟨h3 hz, ?_⟩⟩
  obtain ⟨a0, len, cap, rfl⟩ := okWide_slice Try.underlying22 hok
  obtain ⟨A, c, e, -⟩ := h1
  cases e
  obtain ⟨fuel, hf⟩ := h
  rcases open_strings Try.underlying22 Try.underlying9 cells_string hf with ⟨hcs, hx⟩ | ⟨a, len', cap', ss, hcs, _, hl, hm, hs, hx, hcell, hws⟩
  · simp [Value.cells] at hcs
    simp [hcs.2.1]
  · simp [Value.cells] at hcs
    obtain ⟨rfl, e2, rfl⟩ := hcs
    simp only [Prod.mk.injEq] at hx
    rw [hx.1] at hz
    simp only [DataW.weights, Try.underlying22] at hz
    have hb : Try.prog.bytesOf 9 = 16 := by kernel_rfl
    have := hz _ (List.mem_cons_self ..)
    rw [hb] at this
    simp [strs, reachBytes] at this
    simp at hs
    omega

end Go.Proofs.Ytienkoadkhcghaa
