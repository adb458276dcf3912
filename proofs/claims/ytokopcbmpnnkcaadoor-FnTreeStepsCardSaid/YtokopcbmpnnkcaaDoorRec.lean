/- The walks of FnRecordRoot and FnRecordLong: they return true at every input, whatever words the table of SHA-256 holds. Condition: tlog.errProofFailed holds an error. -/
import Derived.Test.YtokopcbmpnnkcaaDoorT6
import Derived.Test.YtokopcbmpnnkcaaDoorRows2
import Derived.Test.YtokopcbmpnnkcaaDoorOpenB
import Derived.Test.YtokopcbmpnnkcaaDoorBwt
import Derived.Stop.LaidErr
import Derived.MakeChecks
namespace Go.Proofs.YtokopcbmpnnkcaaDoor
open Go.RowKit
set_option linter.unusedVariables false

theorem proofFailed_of {W : World} {nm : String} {text : List UInt8} {rest : List (String × DataW Unit)} (hn : nm = "*errors.errorString") (h : laidMet Tryd.prog (("loop.example/pub-g01440/pub/tlog.errProofFailed", .iface nm (.ptr (.agg [.lit (.string text)]))) :: rest) W) :
    ∃ T a, W.cell? ⟨1, 0, none⟩ = some (.iface T (.pointer (some a))) ∧ 1 < W.heap.size := by
  subst hn
  obtain ⟨a, s, hv, _⟩ := laid_sentinel (g := 1) (ti := 43) (tp := 86) (te := 88) (ts := 9) h (by kernel_rfl) (by kernel_rfl) Tryd.underlying43 (fun u h => typeName_ptr_named (nm := "errors.errorString") (by rw [show "*" ++ "errors.errorString" = "*errors.errorString" by decide]; kernel_rfl) (by kernel_rfl) (by decide) u (by rw [show "*" ++ "errors.errorString" = "*errors.errorString" by decide]; exact h)) Tryd.underlying86 Tryd.underlying88 rfl rfl Tryd.underlying9 (by kernel_rfl) (by kernel_rfl)
  have hc := World.var?_cell (g := 1) (by kernel_rfl) hv 0
  exact ⟨_, _, hc, World.block_lt_of_cell? W ⟨_, 0, none⟩ hc⟩
theorem oct_h32 {p : List Int} (h : Oct p) : Oct (h32 p) := by
  intro x hx
  rcases List.mem_append.1 hx with hx | hx
  · exact h x (List.mem_of_mem_take hx)
  · obtain rfl := (List.mem_replicate.1 hx).2
    exact ⟨by omega, by omega⟩
theorem bat_in {w : World} {g : Nat} {t : TypeId} {ys : List Int} (h : BAt w g t ys) (hl : ys.length = 32) : BIn w (.slice (some ⟨g, 0, none⟩) 32 32) ys :=
  ⟨_, 32, by rw [hl], by omega, by omega, .inr ⟨g, 0, rfl, (Array.getElem?_eq_some_iff.1 h).1, fun j hj => by rw [Nat.zero_add]; exact h.cell hj⟩⟩
end Go.Proofs.YtokopcbmpnnkcaaDoor
