/-
  No cell of these rows narrows 'for every input' (looked for: loops, veiled, ifaces, maps, wideKeys, modest, calm, conditions, laid).
  DERIVED. THE GIVEN ROWS OF THIS SEAT. 9 by the template 'for every input the law returns true; each argument reads behind the call as it read before'; 0 by the template 'total and deterministic' (their statements: YtfplalgihajbnaaTotals.lean).
  GIVEN WITH THE SEED: the statements are not yours to turn. If you find one false, say at which input.
  Laid BY PROGRAM, IN A SANDBOX (cutbox-rows.mjs): the forced cells as the released guide's own fill.sh prints them over the translation 5388e4e75048c449… (all of the seat's roots in one cut). By AI agents, Wed Nov 11 2026. No macro, syntax, notation, axiom, sorry.
-/
import Derived.Test.YtfplalgihajbnaaChecked
import GoSem.Claim
import GoSem.ClaimJoined
import GoSem.ClaimMapViews
import Derived.JoinedTies
import Derived.KernelRfl
namespace Go.Proofs.Ytfplalgihajbnaa
/- THE CELL 'sum', in the pinned program and in every row, IS THE sha256 OF THE DUMP (.gsa) THAT YtfplalgihajbnaaProg.lean LOADS. Nothing in Lean hashes anything: it is a label: what it is worth is what the hold of that sum in a sandbox is worth. -/
noncomputable def Try.pinned : Pinned := { name := "ytfplalgihajbnaa", sum := "5388e4e75048c449e1e5246e7a5559b30356169e8c881034b30dea7330d882f2", checked := Try.checked }
namespace Rows
def none {H : Type} : Left H := { results := [], args := [] }

/-- 'laws.FnExactVersionOk': WHATEVER THE INPUT: true; the input reads as it did. -/
def fnExactVersionOkSpec : ChangeSpec := { name := "fnExactVersionOk", fn := fun _ => fun
  | [d] => { results := [.lit (.bool true)], args := [d] }
  | _ => none }
def fnExactVersionOkRow : OpenClaim := { program := "ytfplalgihajbnaa", sum := "5388e4e75048c449e1e5246e7a5559b30356169e8c881034b30dea7330d882f2", func := "loop.example/pub-g01440/laws.FnExactVersionOk", spec := "fnExactVersionOk", apart := false }
def FnExactVersionOkSaid : Prop := fnExactVersionOkRow.holds Try.pinned (OpenSpec.ofChange fnExactVersionOkSpec)

/-- ITS FALSE NEIGHBOUR: 'it returns false'. Refute it at one input. -/
def fnExactVersionOkWrong : ChangeSpec := { name := "fnExactVersionOk", fn := fun _ => fun
  | [d] => { results := [.lit (.bool false)], args := [d] }
  | _ => none }
def FnExactVersionOkWrongFalsely : Prop := fnExactVersionOkRow.holds Try.pinned (OpenSpec.ofChange fnExactVersionOkWrong)

/-- 'laws.FnExactBuildOf': WHATEVER THE INPUT: true; the input reads as it did. -/
def fnExactBuildOfSpec : ChangeSpec := { name := "fnExactBuildOf", fn := fun _ => fun
  | [d] => { results := [.lit (.bool true)], args := [d] }
  | _ => none }
def fnExactBuildOfRow : OpenClaim := { program := "ytfplalgihajbnaa", sum := "5388e4e75048c449e1e5246e7a5559b30356169e8c881034b30dea7330d882f2", func := "loop.example/pub-g01440/laws.FnExactBuildOf", spec := "fnExactBuildOf", apart := false }
def FnExactBuildOfSaid : Prop := fnExactBuildOfRow.holds Try.pinned (OpenSpec.ofChange fnExactBuildOfSpec)

/-- ITS FALSE NEIGHBOUR: 'it returns false'. Refute it at one input. -/
def fnExactBuildOfWrong : ChangeSpec := { name := "fnExactBuildOf", fn := fun _ => fun
  | [d] => { results := [.lit (.bool false)], args := [d] }
  | _ => none }
def FnExactBuildOfWrongFalsely : Prop := fnExactBuildOfRow.holds Try.pinned (OpenSpec.ofChange fnExactBuildOfWrong)

/-- 'laws.FnExactMajorOf': WHATEVER THE INPUT: true; the input reads as it did. -/
def fnExactMajorOfSpec : ChangeSpec := { name := "fnExactMajorOf", fn := fun _ => fun
  | [d] => { results := [.lit (.bool true)], args := [d] }
  | _ => none }
def fnExactMajorOfRow : OpenClaim := { program := "ytfplalgihajbnaa", sum := "5388e4e75048c449e1e5246e7a5559b30356169e8c881034b30dea7330d882f2", func := "loop.example/pub-g01440/laws.FnExactMajorOf", spec := "fnExactMajorOf", apart := false }
def FnExactMajorOfSaid : Prop := fnExactMajorOfRow.holds Try.pinned (OpenSpec.ofChange fnExactMajorOfSpec)

/-- ITS FALSE NEIGHBOUR: 'it returns false'. Refute it at one input. -/
def fnExactMajorOfWrong : ChangeSpec := { name := "fnExactMajorOf", fn := fun _ => fun
  | [d] => { results := [.lit (.bool false)], args := [d] }
  | _ => none }
def FnExactMajorOfWrongFalsely : Prop := fnExactMajorOfRow.holds Try.pinned (OpenSpec.ofChange fnExactMajorOfWrong)

/-- 'laws.FnExactPrereleaseOf': WHATEVER THE INPUT: true; the input reads as it did. -/
def fnExactPrereleaseOfSpec : ChangeSpec := { name := "fnExactPrereleaseOf", fn := fun _ => fun
  | [d] => { results := [.lit (.bool true)], args := [d] }
  | _ => none }
def fnExactPrereleaseOfRow : OpenClaim := { program := "ytfplalgihajbnaa", sum := "5388e4e75048c449e1e5246e7a5559b30356169e8c881034b30dea7330d882f2", func := "loop.example/pub-g01440/laws.FnExactPrereleaseOf", spec := "fnExactPrereleaseOf", apart := false }
def FnExactPrereleaseOfSaid : Prop := fnExactPrereleaseOfRow.holds Try.pinned (OpenSpec.ofChange fnExactPrereleaseOfSpec)

/-- ITS FALSE NEIGHBOUR: 'it returns false'. Refute it at one input. -/
def fnExactPrereleaseOfWrong : ChangeSpec := { name := "fnExactPrereleaseOf", fn := fun _ => fun
  | [d] => { results := [.lit (.bool false)], args := [d] }
  | _ => none }
def FnExactPrereleaseOfWrongFalsely : Prop := fnExactPrereleaseOfRow.holds Try.pinned (OpenSpec.ofChange fnExactPrereleaseOfWrong)

/-- 'laws.FnExactMajorMinorOf': WHATEVER THE INPUT: true; the input reads as it did. -/
def fnExactMajorMinorOfSpec : ChangeSpec := { name := "fnExactMajorMinorOf", fn := fun _ => fun
  | [d] => { results := [.lit (.bool true)], args := [d] }
  | _ => none }
def fnExactMajorMinorOfRow : OpenClaim := { program := "ytfplalgihajbnaa", sum := "5388e4e75048c449e1e5246e7a5559b30356169e8c881034b30dea7330d882f2", func := "loop.example/pub-g01440/laws.FnExactMajorMinorOf", spec := "fnExactMajorMinorOf", apart := false }
def FnExactMajorMinorOfSaid : Prop := fnExactMajorMinorOfRow.holds Try.pinned (OpenSpec.ofChange fnExactMajorMinorOfSpec)

/-- ITS FALSE NEIGHBOUR: 'it returns false'. Refute it at one input. -/
def fnExactMajorMinorOfWrong : ChangeSpec := { name := "fnExactMajorMinorOf", fn := fun _ => fun
  | [d] => { results := [.lit (.bool false)], args := [d] }
  | _ => none }
def FnExactMajorMinorOfWrongFalsely : Prop := fnExactMajorMinorOfRow.holds Try.pinned (OpenSpec.ofChange fnExactMajorMinorOfWrong)

/-- 'laws.FnExactCanonicalVersion': WHATEVER THE INPUT: true; the input reads as it did. -/
def fnExactCanonicalVersionSpec : ChangeSpec := { name := "fnExactCanonicalVersion", fn := fun _ => fun
  | [d] => { results := [.lit (.bool true)], args := [d] }
  | _ => none }
def fnExactCanonicalVersionRow : OpenClaim := { program := "ytfplalgihajbnaa", sum := "5388e4e75048c449e1e5246e7a5559b30356169e8c881034b30dea7330d882f2", func := "loop.example/pub-g01440/laws.FnExactCanonicalVersion", spec := "fnExactCanonicalVersion", apart := false }
def FnExactCanonicalVersionSaid : Prop := fnExactCanonicalVersionRow.holds Try.pinned (OpenSpec.ofChange fnExactCanonicalVersionSpec)

/-- ITS FALSE NEIGHBOUR: 'it returns false'. Refute it at one input. -/
def fnExactCanonicalVersionWrong : ChangeSpec := { name := "fnExactCanonicalVersion", fn := fun _ => fun
  | [d] => { results := [.lit (.bool false)], args := [d] }
  | _ => none }
def FnExactCanonicalVersionWrongFalsely : Prop := fnExactCanonicalVersionRow.holds Try.pinned (OpenSpec.ofChange fnExactCanonicalVersionWrong)

/-- 'laws.FnExactCompareVersions': WHATEVER THE INPUT: true; the input reads as it did. -/
def fnExactCompareVersionsSpec : ChangeSpec := { name := "fnExactCompareVersions", fn := fun _ => fun
  | [d1, d2] => { results := [.lit (.bool true)], args := [d1, d2] }
  | _ => none }
def fnExactCompareVersionsRow : OpenClaim := { program := "ytfplalgihajbnaa", sum := "5388e4e75048c449e1e5246e7a5559b30356169e8c881034b30dea7330d882f2", func := "loop.example/pub-g01440/laws.FnExactCompareVersions", spec := "fnExactCompareVersions", apart := false }
def FnExactCompareVersionsSaid : Prop := fnExactCompareVersionsRow.holds Try.pinned (OpenSpec.ofChange fnExactCompareVersionsSpec)

/-- ITS FALSE NEIGHBOUR: 'it returns false'. Refute it at one input. -/
def fnExactCompareVersionsWrong : ChangeSpec := { name := "fnExactCompareVersions", fn := fun _ => fun
  | [d1, d2] => { results := [.lit (.bool false)], args := [d1, d2] }
  | _ => none }
def FnExactCompareVersionsWrongFalsely : Prop := fnExactCompareVersionsRow.holds Try.pinned (OpenSpec.ofChange fnExactCompareVersionsWrong)

/-- 'laws.FnExactLessVersion': WHATEVER THE INPUT: true; the input reads as it did. -/
def fnExactLessVersionSpec : ChangeSpec := { name := "fnExactLessVersion", fn := fun _ => fun
  | [d1, d2, d3] => { results := [.lit (.bool true)], args := [d1, d2, d3] }
  | _ => none }
def fnExactLessVersionRow : OpenClaim := { program := "ytfplalgihajbnaa", sum := "5388e4e75048c449e1e5246e7a5559b30356169e8c881034b30dea7330d882f2", func := "loop.example/pub-g01440/laws.FnExactLessVersion", spec := "fnExactLessVersion", inPlace := ["internal/bytealg.abigen_runtime_cmpstring"], apart := false }
def FnExactLessVersionSaid : Prop := fnExactLessVersionRow.holds Try.pinned (OpenSpec.ofChange fnExactLessVersionSpec)

/-- ITS FALSE NEIGHBOUR: 'it returns false'. Refute it at one input. -/
def fnExactLessVersionWrong : ChangeSpec := { name := "fnExactLessVersion", fn := fun _ => fun
  | [d1, d2, d3] => { results := [.lit (.bool false)], args := [d1, d2, d3] }
  | _ => none }
def FnExactLessVersionWrongFalsely : Prop := fnExactLessVersionRow.holds Try.pinned (OpenSpec.ofChange fnExactLessVersionWrong)

/-- 'laws.FnExactMaxVersion': WHATEVER THE INPUT: true; the input reads as it did. -/
def fnExactMaxVersionSpec : ChangeSpec := { name := "fnExactMaxVersion", fn := fun _ => fun
  | [d1, d2] => { results := [.lit (.bool true)], args := [d1, d2] }
  | _ => none }
def fnExactMaxVersionRow : OpenClaim := { program := "ytfplalgihajbnaa", sum := "5388e4e75048c449e1e5246e7a5559b30356169e8c881034b30dea7330d882f2", func := "loop.example/pub-g01440/laws.FnExactMaxVersion", spec := "fnExactMaxVersion", apart := false }
def FnExactMaxVersionSaid : Prop := fnExactMaxVersionRow.holds Try.pinned (OpenSpec.ofChange fnExactMaxVersionSpec)

/-- ITS FALSE NEIGHBOUR: 'it returns false'. Refute it at one input. -/
def fnExactMaxVersionWrong : ChangeSpec := { name := "fnExactMaxVersion", fn := fun _ => fun
  | [d1, d2] => { results := [.lit (.bool false)], args := [d1, d2] }
  | _ => none }
def FnExactMaxVersionWrongFalsely : Prop := fnExactMaxVersionRow.holds Try.pinned (OpenSpec.ofChange fnExactMaxVersionWrong)

/- THE SECOND FORM. 'bulk': how many values and letters a reading holds, each counted each time it is reached (what is shared counts as often as it is met; a slice's spare places count too). A statement '..UptoSaid' is the law's where the arguments, and the package variables that the reading takes, are together of bulk at most 1048576: NARROWER than '..Said'. Prove '..Said' where nothing that the law and all that it calls make is longer than what came in: it says more and counts as full. Else prove '..UptoSaid'. A law counts once. -/
mutual
def uptoBulk {H : Type} : DataW H → Nat
  | .lit (.string bytes) => bytes.length + 1
  | .lit _ => 1
  | .nil => 1
  | .ptr d => uptoBulk d + 1
  | .slice elems spare => uptoBulkAll elems + uptoBulkAll spare + 1
  | .agg parts => uptoBulkAll parts + 1
  | .iface _ d => uptoBulk d + 1
  | .map entries => uptoBulkEntries entries + 1
  | .held _ => 1
def uptoBulkAll {H : Type} : List (DataW H) → Nat
  | [] => 0
  | d :: r => uptoBulk d + uptoBulkAll r
def uptoBulkEntries {H : Type} : List (Lit × DataW H) → Nat
  | [] => 0
  | x :: r => uptoBulkEntry x + uptoBulkEntries r
def uptoBulkEntry {H : Type} : Lit × DataW H → Nat
  | (.string bytes, d) => bytes.length + uptoBulk d + 1
  | (_, d) => uptoBulk d + 1
 end
def uptoSmall : (H : Type) → List (DataW H) → Bool := fun _ ds => decide (uptoBulkAll ds ≤ 1048576)
def OpenSpec.upto (s : _root_.Go.ChangeSpec) : _root_.Go.OpenSpec := { _root_.Go.OpenSpec.ofChange s with cond := some uptoSmall }

/-- 'laws.FnExactVersionOk', WHERE WHAT IT READS IS OF BULK AT MOST 1048576: true; the input reads as it did. -/
def fnExactVersionOkUptoRow : OpenClaim := { program := "ytfplalgihajbnaa", sum := "5388e4e75048c449e1e5246e7a5559b30356169e8c881034b30dea7330d882f2", func := "loop.example/pub-g01440/laws.FnExactVersionOk", spec := "fnExactVersionOk", apart := false, narrowed := true }
def FnExactVersionOkUptoSaid : Prop := fnExactVersionOkUptoRow.holds Try.pinned (OpenSpec.upto fnExactVersionOkSpec)

/-- 'laws.FnExactBuildOf', WHERE WHAT IT READS IS OF BULK AT MOST 1048576: true; the input reads as it did. -/
def fnExactBuildOfUptoRow : OpenClaim := { program := "ytfplalgihajbnaa", sum := "5388e4e75048c449e1e5246e7a5559b30356169e8c881034b30dea7330d882f2", func := "loop.example/pub-g01440/laws.FnExactBuildOf", spec := "fnExactBuildOf", apart := false, narrowed := true }
def FnExactBuildOfUptoSaid : Prop := fnExactBuildOfUptoRow.holds Try.pinned (OpenSpec.upto fnExactBuildOfSpec)

/-- 'laws.FnExactMajorOf', WHERE WHAT IT READS IS OF BULK AT MOST 1048576: true; the input reads as it did. -/
def fnExactMajorOfUptoRow : OpenClaim := { program := "ytfplalgihajbnaa", sum := "5388e4e75048c449e1e5246e7a5559b30356169e8c881034b30dea7330d882f2", func := "loop.example/pub-g01440/laws.FnExactMajorOf", spec := "fnExactMajorOf", apart := false, narrowed := true }
def FnExactMajorOfUptoSaid : Prop := fnExactMajorOfUptoRow.holds Try.pinned (OpenSpec.upto fnExactMajorOfSpec)

/-- 'laws.FnExactPrereleaseOf', WHERE WHAT IT READS IS OF BULK AT MOST 1048576: true; the input reads as it did. -/
def fnExactPrereleaseOfUptoRow : OpenClaim := { program := "ytfplalgihajbnaa", sum := "5388e4e75048c449e1e5246e7a5559b30356169e8c881034b30dea7330d882f2", func := "loop.example/pub-g01440/laws.FnExactPrereleaseOf", spec := "fnExactPrereleaseOf", apart := false, narrowed := true }
def FnExactPrereleaseOfUptoSaid : Prop := fnExactPrereleaseOfUptoRow.holds Try.pinned (OpenSpec.upto fnExactPrereleaseOfSpec)

/-- 'laws.FnExactMajorMinorOf', WHERE WHAT IT READS IS OF BULK AT MOST 1048576: true; the input reads as it did. -/
def fnExactMajorMinorOfUptoRow : OpenClaim := { program := "ytfplalgihajbnaa", sum := "5388e4e75048c449e1e5246e7a5559b30356169e8c881034b30dea7330d882f2", func := "loop.example/pub-g01440/laws.FnExactMajorMinorOf", spec := "fnExactMajorMinorOf", apart := false, narrowed := true }
def FnExactMajorMinorOfUptoSaid : Prop := fnExactMajorMinorOfUptoRow.holds Try.pinned (OpenSpec.upto fnExactMajorMinorOfSpec)

/-- 'laws.FnExactCanonicalVersion', WHERE WHAT IT READS IS OF BULK AT MOST 1048576: true; the input reads as it did. -/
def fnExactCanonicalVersionUptoRow : OpenClaim := { program := "ytfplalgihajbnaa", sum := "5388e4e75048c449e1e5246e7a5559b30356169e8c881034b30dea7330d882f2", func := "loop.example/pub-g01440/laws.FnExactCanonicalVersion", spec := "fnExactCanonicalVersion", apart := false, narrowed := true }
def FnExactCanonicalVersionUptoSaid : Prop := fnExactCanonicalVersionUptoRow.holds Try.pinned (OpenSpec.upto fnExactCanonicalVersionSpec)

/-- 'laws.FnExactCompareVersions', WHERE WHAT IT READS IS OF BULK AT MOST 1048576: true; the input reads as it did. -/
def fnExactCompareVersionsUptoRow : OpenClaim := { program := "ytfplalgihajbnaa", sum := "5388e4e75048c449e1e5246e7a5559b30356169e8c881034b30dea7330d882f2", func := "loop.example/pub-g01440/laws.FnExactCompareVersions", spec := "fnExactCompareVersions", apart := false, narrowed := true }
def FnExactCompareVersionsUptoSaid : Prop := fnExactCompareVersionsUptoRow.holds Try.pinned (OpenSpec.upto fnExactCompareVersionsSpec)

/-- 'laws.FnExactLessVersion', WHERE WHAT IT READS IS OF BULK AT MOST 1048576: true; the input reads as it did. -/
def fnExactLessVersionUptoRow : OpenClaim := { program := "ytfplalgihajbnaa", sum := "5388e4e75048c449e1e5246e7a5559b30356169e8c881034b30dea7330d882f2", func := "loop.example/pub-g01440/laws.FnExactLessVersion", spec := "fnExactLessVersion", inPlace := ["internal/bytealg.abigen_runtime_cmpstring"], apart := false, narrowed := true }
def FnExactLessVersionUptoSaid : Prop := fnExactLessVersionUptoRow.holds Try.pinned (OpenSpec.upto fnExactLessVersionSpec)

/-- 'laws.FnExactMaxVersion', WHERE WHAT IT READS IS OF BULK AT MOST 1048576: true; the input reads as it did. -/
def fnExactMaxVersionUptoRow : OpenClaim := { program := "ytfplalgihajbnaa", sum := "5388e4e75048c449e1e5246e7a5559b30356169e8c881034b30dea7330d882f2", func := "loop.example/pub-g01440/laws.FnExactMaxVersion", spec := "fnExactMaxVersion", apart := false, narrowed := true }
def FnExactMaxVersionUptoSaid : Prop := fnExactMaxVersionUptoRow.holds Try.pinned (OpenSpec.upto fnExactMaxVersionSpec)

end Rows
end Go.Proofs.Ytfplalgihajbnaa
