/- The walk of FnRecordLong: it returns true at every input, whatever words the table of SHA-256 holds. Condition: tlog.errProofFailed holds an error. -/
import Derived.Test.YtokopcbmpnnkcaaDoorRec
import Derived.Test.YtokopcbmpnnkcaaDoorRows3
namespace Go.Proofs.YtokopcbmpnnkcaaDoor
open Go.RowKit
set_option linter.unusedVariables false

theorem recOK_len {ks : List Int} {ls ls' : List (List Int)} {t n : Int} {th h : List Int} (h1 : recOK ks ls t n th h = true) (hl : ls.length ≠ ls'.length) : recOK ks ls' t n th h = false := by
  cases h2 : recOK ks ls' t n th h with
  | false => rfl
  | true =>
    exfalso
    unfold recOK at h1 h2
    obtain ⟨_, _, a⟩ := of_decide_eq_true h1
    obtain ⟨_, _, b⟩ := of_decide_eq_true h2
    have c := Tr.runRec_some (nhK ks) (ls.map h32) 0 (t % 1099511627776).toNat n.toNat (h32 h)
    have d := Tr.runRec_some (nhK ks) (ls'.map h32) 0 (t % 1099511627776).toNat n.toNat (h32 h)
    rw [a] at c
    rw [b] at d
    have c' := of_decide_eq_true c.symm
    have d' := of_decide_eq_true d.symm
    rw [List.length_map] at c' d'
    omega
theorem BIn.form {w : World} {v : Value} {p : List Int} (h : BIn w v p) : ∃ A c, v = .slice A p.length c := by
  obtain ⟨A, c, e, _⟩ := h
  exact ⟨A, c, e⟩

end Go.Proofs.YtokopcbmpnnkcaaDoor
