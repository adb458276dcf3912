/- The walks of laws on the comparison of versions that take texts alone: FnCompareSwap, FnCompareChain, FnInvalidLess, FnCompareCanonical, FnCompareBuild: each returns true. Condition: each text takes at most 2 to the power of 47 bytes. -/
import Derived.Test.YtfplalgihajbnaaSemWalks7
import Derived.Test.YtfplalgihajbnaaSemFacts
namespace Go.Proofs.Ytfplalgihajbnaa
open Go.RowKit

theorem bl_next' {w w1 w2 : World} (h1 : Below w.heap.size w w1) (h2 : Below w1.heap.size w1 w2) : Below w.heap.size w w2 := h1.trans (h2.mono h1.size)
theorem canonical_len' (x : List UInt8) : (Sem.canonical x).length ≤ x.length + 4 := by
  unfold Sem.canonical
  split
  · simp
  · rename_i p h
    have := (Sem.parse_len h).2.2.2.1
    split
    · rw [List.length_take]; omega
    · split
      · rw [List.length_append]; omega
      · omega
theorem str_of (s : ByteArray) : Value.string s = str s.data.toList := by cases s; rfl
theorem len_of (s : ByteArray) : s.data.toList.length = s.size := by rw [Array.length_toList]; rfl







end Go.Proofs.Ytfplalgihajbnaa
