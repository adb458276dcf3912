/-
  No cell of these rows narrows 'for every input' (looked for: loops, veiled, ifaces, maps, wideKeys, modest, calm, conditions, laid).
  DERIVED. THE GIVEN ROWS OF THIS SEAT. 7 by the template 'for every input the law returns true; each argument reads behind the call as it read before'; 0 by the template 'total and deterministic' (their statements: YtienkoadkhcghaaTotals.lean).
  GIVEN WITH THE SEED: the statements are not yours to turn. If you find one false, say at which input.
  Laid BY PROGRAM, IN A SANDBOX (cutbox-rows.mjs): the forced cells as the released guide's own fill.sh prints them over the translation 7d7dff6c2bbddbd0… (all of the seat's roots in one cut). By AI agents, Wed Nov 11 2026. No macro, syntax, notation, axiom, sorry.
-/
import Derived.Test.YtienkoadkhcghaaChecked
import GoSem.Claim
import GoSem.ClaimJoined
import GoSem.ClaimMapViews
import Derived.JoinedTies
import Derived.KernelRfl
namespace Go.Proofs.Ytienkoadkhcghaa
/- THE CELL 'sum', in the pinned program and in every row, IS THE sha256 OF THE DUMP (.gsa) THAT YtienkoadkhcghaaProg.lean LOADS. Nothing in Lean hashes anything: it is a label: what it is worth is what the hold of that sum in a sandbox is worth. -/
noncomputable def Try.pinned : Pinned := { name := "ytienkoadkhcghaa", sum := "7d7dff6c2bbddbd0a6091d0e784b1f99a52471ecc366125c0af6913f58807725", checked := Try.checked }
namespace Rows
def none {H : Type} : Left H := { results := [], args := [] }

/-- 'laws.FnLessSort': WHATEVER THE INPUT: true; the input reads as it did. -/
def fnLessSortSpec : ChangeSpec := { name := "fnLessSort", fn := fun _ => fun
  | [d1, d2, d3] => { results := [.lit (.bool true)], args := [d1, d2, d3] }
  | _ => none }
def fnLessSortRow : OpenClaim := { program := "ytienkoadkhcghaa", sum := "7d7dff6c2bbddbd0a6091d0e784b1f99a52471ecc366125c0af6913f58807725", func := "loop.example/pub-g01440/laws.FnLessSort", spec := "fnLessSort", inPlace := ["internal/bytealg.abigen_runtime_cmpstring"], unfollowed := true, recurses := true, apart := false }
def FnLessSortSaid : Prop := fnLessSortRow.holds Try.pinned (OpenSpec.ofChange fnLessSortSpec)

/-- ITS FALSE NEIGHBOUR: 'it returns false'. Refute it at one input. -/
def fnLessSortWrong : ChangeSpec := { name := "fnLessSort", fn := fun _ => fun
  | [d1, d2, d3] => { results := [.lit (.bool false)], args := [d1, d2, d3] }
  | _ => none }
def FnLessSortWrongFalsely : Prop := fnLessSortRow.holds Try.pinned (OpenSpec.ofChange fnLessSortWrong)

/-- 'laws.FnSortCanonical': WHATEVER THE INPUT: true; the input reads as it did. -/
def fnSortCanonicalSpec : ChangeSpec := { name := "fnSortCanonical", fn := fun _ => fun
  | [d] => { results := [.lit (.bool true)], args := [d] }
  | _ => none }
def fnSortCanonicalRow : OpenClaim := { program := "ytienkoadkhcghaa", sum := "7d7dff6c2bbddbd0a6091d0e784b1f99a52471ecc366125c0af6913f58807725", func := "loop.example/pub-g01440/laws.FnSortCanonical", spec := "fnSortCanonical", inPlace := ["internal/bytealg.abigen_runtime_cmpstring"], unfollowed := true, recurses := true, apart := false }
def FnSortCanonicalSaid : Prop := fnSortCanonicalRow.holds Try.pinned (OpenSpec.ofChange fnSortCanonicalSpec)

/-- ITS FALSE NEIGHBOUR: 'it returns false'. Refute it at one input. -/
def fnSortCanonicalWrong : ChangeSpec := { name := "fnSortCanonical", fn := fun _ => fun
  | [d] => { results := [.lit (.bool false)], args := [d] }
  | _ => none }
def FnSortCanonicalWrongFalsely : Prop := fnSortCanonicalRow.holds Try.pinned (OpenSpec.ofChange fnSortCanonicalWrong)

/-- 'laws.FnMaxSort': WHATEVER THE INPUT: true; the input reads as it did. -/
def fnMaxSortSpec : ChangeSpec := { name := "fnMaxSort", fn := fun _ => fun
  | [d] => { results := [.lit (.bool true)], args := [d] }
  | _ => none }
def fnMaxSortRow : OpenClaim := { program := "ytienkoadkhcghaa", sum := "7d7dff6c2bbddbd0a6091d0e784b1f99a52471ecc366125c0af6913f58807725", func := "loop.example/pub-g01440/laws.FnMaxSort", spec := "fnMaxSort", inPlace := ["internal/bytealg.abigen_runtime_cmpstring"], unfollowed := true, recurses := true, apart := false }
def FnMaxSortSaid : Prop := fnMaxSortRow.holds Try.pinned (OpenSpec.ofChange fnMaxSortSpec)

/-- ITS FALSE NEIGHBOUR: 'it returns false'. Refute it at one input. -/
def fnMaxSortWrong : ChangeSpec := { name := "fnMaxSort", fn := fun _ => fun
  | [d] => { results := [.lit (.bool false)], args := [d] }
  | _ => none }
def FnMaxSortWrongFalsely : Prop := fnMaxSortRow.holds Try.pinned (OpenSpec.ofChange fnMaxSortWrong)

/-- 'laws.FnExactSortVersions': WHATEVER THE INPUT: true; the input reads as it did. -/
def fnExactSortVersionsSpec : ChangeSpec := { name := "fnExactSortVersions", fn := fun _ => fun
  | [d] => { results := [.lit (.bool true)], args := [d] }
  | _ => none }
def fnExactSortVersionsRow : OpenClaim := { program := "ytienkoadkhcghaa", sum := "7d7dff6c2bbddbd0a6091d0e784b1f99a52471ecc366125c0af6913f58807725", func := "loop.example/pub-g01440/laws.FnExactSortVersions", spec := "fnExactSortVersions", inPlace := ["internal/bytealg.abigen_runtime_cmpstring"], unfollowed := true, recurses := true, apart := false }
def FnExactSortVersionsSaid : Prop := fnExactSortVersionsRow.holds Try.pinned (OpenSpec.ofChange fnExactSortVersionsSpec)

/-- ITS FALSE NEIGHBOUR: 'it returns false'. Refute it at one input. -/
def fnExactSortVersionsWrong : ChangeSpec := { name := "fnExactSortVersions", fn := fun _ => fun
  | [d] => { results := [.lit (.bool false)], args := [d] }
  | _ => none }
def FnExactSortVersionsWrongFalsely : Prop := fnExactSortVersionsRow.holds Try.pinned (OpenSpec.ofChange fnExactSortVersionsWrong)

/-- 'laws.FnSortJoined': WHATEVER THE INPUT: true; the input reads as it did. -/
def fnSortJoinedSpec : ChangeSpec := { name := "fnSortJoined", fn := fun _ => fun
  | [d1, d2] => { results := [.lit (.bool true)], args := [d1, d2] }
  | _ => none }
def fnSortJoinedRow : OpenClaim := { program := "ytienkoadkhcghaa", sum := "7d7dff6c2bbddbd0a6091d0e784b1f99a52471ecc366125c0af6913f58807725", func := "loop.example/pub-g01440/laws.FnSortJoined", spec := "fnSortJoined", inPlace := ["internal/bytealg.abigen_runtime_cmpstring"], unfollowed := true, recurses := true, apart := false }
def FnSortJoinedSaid : Prop := fnSortJoinedRow.holds Try.pinned (OpenSpec.ofChange fnSortJoinedSpec)

/-- ITS FALSE NEIGHBOUR: 'it returns false'. Refute it at one input. -/
def fnSortJoinedWrong : ChangeSpec := { name := "fnSortJoined", fn := fun _ => fun
  | [d1, d2] => { results := [.lit (.bool false)], args := [d1, d2] }
  | _ => none }
def FnSortJoinedWrongFalsely : Prop := fnSortJoinedRow.holds Try.pinned (OpenSpec.ofChange fnSortJoinedWrong)

/-- 'laws.FnSortSorted': WHATEVER THE INPUT: true; the input reads as it did. -/
def fnSortSortedSpec : ChangeSpec := { name := "fnSortSorted", fn := fun _ => fun
  | [d] => { results := [.lit (.bool true)], args := [d] }
  | _ => none }
def fnSortSortedRow : OpenClaim := { program := "ytienkoadkhcghaa", sum := "7d7dff6c2bbddbd0a6091d0e784b1f99a52471ecc366125c0af6913f58807725", func := "loop.example/pub-g01440/laws.FnSortSorted", spec := "fnSortSorted", inPlace := ["internal/bytealg.abigen_runtime_cmpstring"], unfollowed := true, recurses := true, apart := false }
def FnSortSortedSaid : Prop := fnSortSortedRow.holds Try.pinned (OpenSpec.ofChange fnSortSortedSpec)

/-- ITS FALSE NEIGHBOUR: 'it returns false'. Refute it at one input. -/
def fnSortSortedWrong : ChangeSpec := { name := "fnSortSorted", fn := fun _ => fun
  | [d] => { results := [.lit (.bool false)], args := [d] }
  | _ => none }
def FnSortSortedWrongFalsely : Prop := fnSortSortedRow.holds Try.pinned (OpenSpec.ofChange fnSortSortedWrong)

/-- 'laws.FnSortTurned': WHATEVER THE INPUT: true; the input reads as it did. -/
def fnSortTurnedSpec : ChangeSpec := { name := "fnSortTurned", fn := fun _ => fun
  | [d] => { results := [.lit (.bool true)], args := [d] }
  | _ => none }
def fnSortTurnedRow : OpenClaim := { program := "ytienkoadkhcghaa", sum := "7d7dff6c2bbddbd0a6091d0e784b1f99a52471ecc366125c0af6913f58807725", func := "loop.example/pub-g01440/laws.FnSortTurned", spec := "fnSortTurned", inPlace := ["internal/bytealg.abigen_runtime_cmpstring"], unfollowed := true, recurses := true, apart := false }
def FnSortTurnedSaid : Prop := fnSortTurnedRow.holds Try.pinned (OpenSpec.ofChange fnSortTurnedSpec)

/-- ITS FALSE NEIGHBOUR: 'it returns false'. Refute it at one input. -/
def fnSortTurnedWrong : ChangeSpec := { name := "fnSortTurned", fn := fun _ => fun
  | [d] => { results := [.lit (.bool false)], args := [d] }
  | _ => none }
def FnSortTurnedWrongFalsely : Prop := fnSortTurnedRow.holds Try.pinned (OpenSpec.ofChange fnSortTurnedWrong)

/- THE SECOND FORM. 'bulk': how many values and letters a reading holds, each counted each time it is reached (what is shared counts as often as it is met; a slice's spare places count too). A statement '..UptoSaid' is the law's where the arguments, and the package variables that the reading takes, are together of bulk at most 1048576: NARROWER than '..Said'. Prove '..Said' where nothing that the law and all that it calls make is longer than what came in: it says more and counts as full. Else prove '..UptoSaid'. A law counts once. -/
mutual
def uptoBulk {H : Type} : DataW H → Nat
  | .lit (.string bytes) => bytes.length + 1
  | .lit _ => 1
  | .nil => 1
  | .ptr d => uptoBulk d + 1
  | .slice elems spare => uptoBulkAll elems + uptoBulkAll spare + 1
  | .agg parts => uptoBulkAll parts + 1
  | .iface _ d => uptoBulk d + 1
  | .map entries => uptoBulkEntries entries + 1
  | .held _ => 1
def uptoBulkAll {H : Type} : List (DataW H) → Nat
  | [] => 0
  | d :: r => uptoBulk d + uptoBulkAll r
def uptoBulkEntries {H : Type} : List (Lit × DataW H) → Nat
  | [] => 0
  | x :: r => uptoBulkEntry x + uptoBulkEntries r
def uptoBulkEntry {H : Type} : Lit × DataW H → Nat
  | (.string bytes, d) => bytes.length + uptoBulk d + 1
  | (_, d) => uptoBulk d + 1
 end
def uptoSmall : (H : Type) → List (DataW H) → Bool := fun _ ds => decide (uptoBulkAll ds ≤ 1048576)
def OpenSpec.upto (s : _root_.Go.ChangeSpec) : _root_.Go.OpenSpec := { _root_.Go.OpenSpec.ofChange s with cond := some uptoSmall }

/-- 'laws.FnLessSort', WHERE WHAT IT READS IS OF BULK AT MOST 1048576: true; the input reads as it did. -/
def fnLessSortUptoRow : OpenClaim := { program := "ytienkoadkhcghaa", sum := "7d7dff6c2bbddbd0a6091d0e784b1f99a52471ecc366125c0af6913f58807725", func := "loop.example/pub-g01440/laws.FnLessSort", spec := "fnLessSort", inPlace := ["internal/bytealg.abigen_runtime_cmpstring"], unfollowed := true, recurses := true, apart := false, narrowed := true }
def FnLessSortUptoSaid : Prop := fnLessSortUptoRow.holds Try.pinned (OpenSpec.upto fnLessSortSpec)

/-- 'laws.FnSortCanonical', WHERE WHAT IT READS IS OF BULK AT MOST 1048576: true; the input reads as it did. -/
def fnSortCanonicalUptoRow : OpenClaim := { program := "ytienkoadkhcghaa", sum := "7d7dff6c2bbddbd0a6091d0e784b1f99a52471ecc366125c0af6913f58807725", func := "loop.example/pub-g01440/laws.FnSortCanonical", spec := "fnSortCanonical", inPlace := ["internal/bytealg.abigen_runtime_cmpstring"], unfollowed := true, recurses := true, apart := false, narrowed := true }
def FnSortCanonicalUptoSaid : Prop := fnSortCanonicalUptoRow.holds Try.pinned (OpenSpec.upto fnSortCanonicalSpec)

/-- 'laws.FnMaxSort', WHERE WHAT IT READS IS OF BULK AT MOST 1048576: true; the input reads as it did. -/
def fnMaxSortUptoRow : OpenClaim := { program := "ytienkoadkhcghaa", sum := "7d7dff6c2bbddbd0a6091d0e784b1f99a52471ecc366125c0af6913f58807725", func := "loop.example/pub-g01440/laws.FnMaxSort", spec := "fnMaxSort", inPlace := ["internal/bytealg.abigen_runtime_cmpstring"], unfollowed := true, recurses := true, apart := false, narrowed := true }
def FnMaxSortUptoSaid : Prop := fnMaxSortUptoRow.holds Try.pinned (OpenSpec.upto fnMaxSortSpec)

/-- 'laws.FnExactSortVersions', WHERE WHAT IT READS IS OF BULK AT MOST 1048576: true; the input reads as it did. -/
def fnExactSortVersionsUptoRow : OpenClaim := { program := "ytienkoadkhcghaa", sum := "7d7dff6c2bbddbd0a6091d0e784b1f99a52471ecc366125c0af6913f58807725", func := "loop.example/pub-g01440/laws.FnExactSortVersions", spec := "fnExactSortVersions", inPlace := ["internal/bytealg.abigen_runtime_cmpstring"], unfollowed := true, recurses := true, apart := false, narrowed := true }
def FnExactSortVersionsUptoSaid : Prop := fnExactSortVersionsUptoRow.holds Try.pinned (OpenSpec.upto fnExactSortVersionsSpec)

/-- 'laws.FnSortJoined', WHERE WHAT IT READS IS OF BULK AT MOST 1048576: true; the input reads as it did. -/
def fnSortJoinedUptoRow : OpenClaim := { program := "ytienkoadkhcghaa", sum := "7d7dff6c2bbddbd0a6091d0e784b1f99a52471ecc366125c0af6913f58807725", func := "loop.example/pub-g01440/laws.FnSortJoined", spec := "fnSortJoined", inPlace := ["internal/bytealg.abigen_runtime_cmpstring"], unfollowed := true, recurses := true, apart := false, narrowed := true }
def FnSortJoinedUptoSaid : Prop := fnSortJoinedUptoRow.holds Try.pinned (OpenSpec.upto fnSortJoinedSpec)

/-- 'laws.FnSortSorted', WHERE WHAT IT READS IS OF BULK AT MOST 1048576: true; the input reads as it did. -/
def fnSortSortedUptoRow : OpenClaim := { program := "ytienkoadkhcghaa", sum := "7d7dff6c2bbddbd0a6091d0e784b1f99a52471ecc366125c0af6913f58807725", func := "loop.example/pub-g01440/laws.FnSortSorted", spec := "fnSortSorted", inPlace := ["internal/bytealg.abigen_runtime_cmpstring"], unfollowed := true, recurses := true, apart := false, narrowed := true }
def FnSortSortedUptoSaid : Prop := fnSortSortedUptoRow.holds Try.pinned (OpenSpec.upto fnSortSortedSpec)

/-- 'laws.FnSortTurned', WHERE WHAT IT READS IS OF BULK AT MOST 1048576: true; the input reads as it did. -/
def fnSortTurnedUptoRow : OpenClaim := { program := "ytienkoadkhcghaa", sum := "7d7dff6c2bbddbd0a6091d0e784b1f99a52471ecc366125c0af6913f58807725", func := "loop.example/pub-g01440/laws.FnSortTurned", spec := "fnSortTurned", inPlace := ["internal/bytealg.abigen_runtime_cmpstring"], unfollowed := true, recurses := true, apart := false, narrowed := true }
def FnSortTurnedUptoSaid : Prop := fnSortTurnedUptoRow.holds Try.pinned (OpenSpec.upto fnSortTurnedSpec)

end Rows
end Go.Proofs.Ytienkoadkhcghaa
