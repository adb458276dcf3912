/- The walks of laws on the comparison of versions that take texts alone: FnCompareSwap, FnCompareChain, FnInvalidLess, FnCompareCanonical, FnCompareBuild: each returns true. Condition: each text takes at most 2 to the power of 47 bytes. -/
import Derived.Test.YtienkoadkhcghaaSemWalks7
import Derived.Test.YtienkoadkhcghaaSemFacts
namespace Go.Proofs.Ytienkoadkhcghaa
open Go.RowKit

theorem bl_next' {w w1 w2 : World} (h1 : Below w.heap.size w w1) (h2 : Below w1.heap.size w1 w2) : Below w.heap.size w w2 := h1.trans (h2.mono h1.size)
theorem canonical_len' (x : List UInt8) : (Sem.canonical x).length ≤ x.length + 4 := by
  unfold Sem.canonical
  split
  · simp
  · rename_i p h
    have := (Sem.parse_len h).2.2.2.1
    split
    · rw [List.length_take]; omega
    · split
      · rw [List.length_append]; omega
      · omega
theorem str_of (s : ByteArray) : Value.string s = str s.data.toList := by cases s; rfl
theorem len_of (s : ByteArray) : s.data.toList.length = s.size := by rw [Array.length_toList]; rfl

set_option maxHeartbeats 400000 in
theorem veWorks_any (w : World) : Calls Try.prog 11 #[] w fun e w' => e = .returned (.bool true) ∧ Below w.heap.size w w' := by
  have h1 : Sem.isValid [118, 49, 46, 50, 46, 51, 45, 97] = true := by decide
  have h2 : Sem.isValid [49, 46, 50, 46, 51] = false := by decide
  have h3 : (Sem.compare [118, 49, 46, 49, 48] [118, 49, 46, 57] == 1) = true := by decide
  go_enter Try.func11, Try.ntmps11
  go_wp2_with fail
  refine (impl_VersionOk [118, 49, 46, 50, 46, 51, 45, 97] _ (by decide)).mono ?_
  rintro e w1 ⟨rfl, hb1⟩
  go_wp2_with fail
  refine (impl_VersionOk [49, 46, 50, 46, 51] _ (by decide)).mono ?_
  rintro e w2 ⟨rfl, hb2⟩
  go_wp2_with fail
  refine (impl_CompareVersions [118, 49, 46, 49, 48] [118, 49, 46, 57] _ (by decide) (by decide)).mono ?_
  rintro e w3 ⟨rfl, hb3⟩
  go_wp2_with fail
  go_ret
  exact ⟨rfl, bl_next' (bl_next' hb1 hb2) hb3⟩






end Go.Proofs.Ytienkoadkhcghaa
