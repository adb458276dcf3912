/-
  No cell of these rows narrows 'for every input' (looked for: loops, veiled, ifaces, maps, wideKeys, modest, calm, conditions, laid).
  DERIVED. THE GIVEN ROWS OF THIS SEAT. 11 by the template 'for every input the law returns true; each argument reads behind the call as it read before'; 0 by the template 'total and deterministic' (their statements: YthgdmalhihaknaaTotals.lean).
  GIVEN WITH THE SEED: the statements are not yours to turn. If you find one false, say at which input.
  Laid BY PROGRAM, IN A SANDBOX (cutbox-rows.mjs): the forced cells as the released guide's own fill.sh prints them over the translation 7c5a40ed5920fd03… (all of the seat's roots in one cut). By AI agents, Wed Nov 11 2026. No macro, syntax, notation, axiom, sorry.
-/
import Derived.Test.YthgdmalhihaknaaChecked
import GoSem.Claim
import GoSem.ClaimJoined
import GoSem.ClaimMapViews
import Derived.JoinedTies
import Derived.KernelRfl
namespace Go.Proofs.Ythgdmalhihaknaa
/- THE CELL 'sum', in the pinned program and in every row, IS THE sha256 OF THE DUMP (.gsa) THAT YthgdmalhihaknaaProg.lean LOADS. Nothing in Lean hashes anything: it is a label: what it is worth is what the hold of that sum in a sandbox is worth. -/
noncomputable def Try.pinned : Pinned := { name := "ythgdmalhihaknaa", sum := "7c5a40ed5920fd035a5a6de16102cfdbb43275370a2a92ec6b40a0d361acfc47", checked := Try.checked }
namespace Rows
def none {H : Type} : Left H := { results := [], args := [] }

/-- 'laws.FnCompareChain': WHATEVER THE INPUT: true; the input reads as it did. -/
def fnCompareChainSpec : ChangeSpec := { name := "fnCompareChain", fn := fun _ => fun
  | [d1, d2, d3] => { results := [.lit (.bool true)], args := [d1, d2, d3] }
  | _ => none }
def fnCompareChainRow : OpenClaim := { program := "ythgdmalhihaknaa", sum := "7c5a40ed5920fd035a5a6de16102cfdbb43275370a2a92ec6b40a0d361acfc47", func := "loop.example/pub-g01440/laws.FnCompareChain", spec := "fnCompareChain", apart := false }
def FnCompareChainSaid : Prop := fnCompareChainRow.holds Try.pinned (OpenSpec.ofChange fnCompareChainSpec)

/-- ITS FALSE NEIGHBOUR: 'it returns false'. Refute it at one input. -/
def fnCompareChainWrong : ChangeSpec := { name := "fnCompareChain", fn := fun _ => fun
  | [d1, d2, d3] => { results := [.lit (.bool false)], args := [d1, d2, d3] }
  | _ => none }
def FnCompareChainWrongFalsely : Prop := fnCompareChainRow.holds Try.pinned (OpenSpec.ofChange fnCompareChainWrong)

/-- 'laws.FnCompareSwap': WHATEVER THE INPUT: true; the input reads as it did. -/
def fnCompareSwapSpec : ChangeSpec := { name := "fnCompareSwap", fn := fun _ => fun
  | [d1, d2] => { results := [.lit (.bool true)], args := [d1, d2] }
  | _ => none }
def fnCompareSwapRow : OpenClaim := { program := "ythgdmalhihaknaa", sum := "7c5a40ed5920fd035a5a6de16102cfdbb43275370a2a92ec6b40a0d361acfc47", func := "loop.example/pub-g01440/laws.FnCompareSwap", spec := "fnCompareSwap", apart := false }
def FnCompareSwapSaid : Prop := fnCompareSwapRow.holds Try.pinned (OpenSpec.ofChange fnCompareSwapSpec)

/-- ITS FALSE NEIGHBOUR: 'it returns false'. Refute it at one input. -/
def fnCompareSwapWrong : ChangeSpec := { name := "fnCompareSwap", fn := fun _ => fun
  | [d1, d2] => { results := [.lit (.bool false)], args := [d1, d2] }
  | _ => none }
def FnCompareSwapWrongFalsely : Prop := fnCompareSwapRow.holds Try.pinned (OpenSpec.ofChange fnCompareSwapWrong)

/-- 'laws.FnCompareAhead': WHATEVER THE INPUT: true; the input reads as it did. -/
def fnCompareAheadSpec : ChangeSpec := { name := "fnCompareAhead", fn := fun _ => fun
  | [d1, d2, d3] => { results := [.lit (.bool true)], args := [d1, d2, d3] }
  | _ => none }
def fnCompareAheadRow : OpenClaim := { program := "ythgdmalhihaknaa", sum := "7c5a40ed5920fd035a5a6de16102cfdbb43275370a2a92ec6b40a0d361acfc47", func := "loop.example/pub-g01440/laws.FnCompareAhead", spec := "fnCompareAhead", apart := false }
def FnCompareAheadSaid : Prop := fnCompareAheadRow.holds Try.pinned (OpenSpec.ofChange fnCompareAheadSpec)

/-- ITS FALSE NEIGHBOUR: 'it returns false'. Refute it at one input. -/
def fnCompareAheadWrong : ChangeSpec := { name := "fnCompareAhead", fn := fun _ => fun
  | [d1, d2, d3] => { results := [.lit (.bool false)], args := [d1, d2, d3] }
  | _ => none }
def FnCompareAheadWrongFalsely : Prop := fnCompareAheadRow.holds Try.pinned (OpenSpec.ofChange fnCompareAheadWrong)

/-- 'laws.FnCompareKinds': WHATEVER THE INPUT: true; the input reads as it did. -/
def fnCompareKindsSpec : ChangeSpec := { name := "fnCompareKinds", fn := fun _ => fun
  | [d1, d2, d3] => { results := [.lit (.bool true)], args := [d1, d2, d3] }
  | _ => none }
def fnCompareKindsRow : OpenClaim := { program := "ythgdmalhihaknaa", sum := "7c5a40ed5920fd035a5a6de16102cfdbb43275370a2a92ec6b40a0d361acfc47", func := "loop.example/pub-g01440/laws.FnCompareKinds", spec := "fnCompareKinds", apart := false }
def FnCompareKindsSaid : Prop := fnCompareKindsRow.holds Try.pinned (OpenSpec.ofChange fnCompareKindsSpec)

/-- ITS FALSE NEIGHBOUR: 'it returns false'. Refute it at one input. -/
def fnCompareKindsWrong : ChangeSpec := { name := "fnCompareKinds", fn := fun _ => fun
  | [d1, d2, d3] => { results := [.lit (.bool false)], args := [d1, d2, d3] }
  | _ => none }
def FnCompareKindsWrongFalsely : Prop := fnCompareKindsRow.holds Try.pinned (OpenSpec.ofChange fnCompareKindsWrong)

/-- 'laws.FnCompareLonger': WHATEVER THE INPUT: true; the input reads as it did. -/
def fnCompareLongerSpec : ChangeSpec := { name := "fnCompareLonger", fn := fun _ => fun
  | [d1, d2, d3] => { results := [.lit (.bool true)], args := [d1, d2, d3] }
  | _ => none }
def fnCompareLongerRow : OpenClaim := { program := "ythgdmalhihaknaa", sum := "7c5a40ed5920fd035a5a6de16102cfdbb43275370a2a92ec6b40a0d361acfc47", func := "loop.example/pub-g01440/laws.FnCompareLonger", spec := "fnCompareLonger", apart := false }
def FnCompareLongerSaid : Prop := fnCompareLongerRow.holds Try.pinned (OpenSpec.ofChange fnCompareLongerSpec)

/-- ITS FALSE NEIGHBOUR: 'it returns false'. Refute it at one input. -/
def fnCompareLongerWrong : ChangeSpec := { name := "fnCompareLonger", fn := fun _ => fun
  | [d1, d2, d3] => { results := [.lit (.bool false)], args := [d1, d2, d3] }
  | _ => none }
def FnCompareLongerWrongFalsely : Prop := fnCompareLongerRow.holds Try.pinned (OpenSpec.ofChange fnCompareLongerWrong)

/-- 'laws.FnCompareNumbers': WHATEVER THE INPUT: true; the input reads as it did. -/
def fnCompareNumbersSpec : ChangeSpec := { name := "fnCompareNumbers", fn := fun _ => fun
  | [d1, d2] => { results := [.lit (.bool true)], args := [d1, d2] }
  | _ => none }
def fnCompareNumbersRow : OpenClaim := { program := "ythgdmalhihaknaa", sum := "7c5a40ed5920fd035a5a6de16102cfdbb43275370a2a92ec6b40a0d361acfc47", func := "loop.example/pub-g01440/laws.FnCompareNumbers", spec := "fnCompareNumbers", apart := false }
def FnCompareNumbersSaid : Prop := fnCompareNumbersRow.holds Try.pinned (OpenSpec.ofChange fnCompareNumbersSpec)

/-- ITS FALSE NEIGHBOUR: 'it returns false'. Refute it at one input. -/
def fnCompareNumbersWrong : ChangeSpec := { name := "fnCompareNumbers", fn := fun _ => fun
  | [d1, d2] => { results := [.lit (.bool false)], args := [d1, d2] }
  | _ => none }
def FnCompareNumbersWrongFalsely : Prop := fnCompareNumbersRow.holds Try.pinned (OpenSpec.ofChange fnCompareNumbersWrong)

/-- 'laws.FnCompareTails': WHATEVER THE INPUT: true; the input reads as it did. -/
def fnCompareTailsSpec : ChangeSpec := { name := "fnCompareTails", fn := fun _ => fun
  | [d1, d2, d3] => { results := [.lit (.bool true)], args := [d1, d2, d3] }
  | _ => none }
def fnCompareTailsRow : OpenClaim := { program := "ythgdmalhihaknaa", sum := "7c5a40ed5920fd035a5a6de16102cfdbb43275370a2a92ec6b40a0d361acfc47", func := "loop.example/pub-g01440/laws.FnCompareTails", spec := "fnCompareTails", apart := false }
def FnCompareTailsSaid : Prop := fnCompareTailsRow.holds Try.pinned (OpenSpec.ofChange fnCompareTailsSpec)

/-- ITS FALSE NEIGHBOUR: 'it returns false'. Refute it at one input. -/
def fnCompareTailsWrong : ChangeSpec := { name := "fnCompareTails", fn := fun _ => fun
  | [d1, d2, d3] => { results := [.lit (.bool false)], args := [d1, d2, d3] }
  | _ => none }
def FnCompareTailsWrongFalsely : Prop := fnCompareTailsRow.holds Try.pinned (OpenSpec.ofChange fnCompareTailsWrong)

/-- 'laws.FnCompareTens': WHATEVER THE INPUT: true; the input reads as it did. -/
def fnCompareTensSpec : ChangeSpec := { name := "fnCompareTens", fn := fun _ => fun
  | [d1, d2] => { results := [.lit (.bool true)], args := [d1, d2] }
  | _ => none }
def fnCompareTensRow : OpenClaim := { program := "ythgdmalhihaknaa", sum := "7c5a40ed5920fd035a5a6de16102cfdbb43275370a2a92ec6b40a0d361acfc47", func := "loop.example/pub-g01440/laws.FnCompareTens", spec := "fnCompareTens", apart := false }
def FnCompareTensSaid : Prop := fnCompareTensRow.holds Try.pinned (OpenSpec.ofChange fnCompareTensSpec)

/-- ITS FALSE NEIGHBOUR: 'it returns false'. Refute it at one input. -/
def fnCompareTensWrong : ChangeSpec := { name := "fnCompareTens", fn := fun _ => fun
  | [d1, d2] => { results := [.lit (.bool false)], args := [d1, d2] }
  | _ => none }
def FnCompareTensWrongFalsely : Prop := fnCompareTensRow.holds Try.pinned (OpenSpec.ofChange fnCompareTensWrong)

/-- 'laws.FnInvalidLess': WHATEVER THE INPUT: true; the input reads as it did. -/
def fnInvalidLessSpec : ChangeSpec := { name := "fnInvalidLess", fn := fun _ => fun
  | [d1, d2] => { results := [.lit (.bool true)], args := [d1, d2] }
  | _ => none }
def fnInvalidLessRow : OpenClaim := { program := "ythgdmalhihaknaa", sum := "7c5a40ed5920fd035a5a6de16102cfdbb43275370a2a92ec6b40a0d361acfc47", func := "loop.example/pub-g01440/laws.FnInvalidLess", spec := "fnInvalidLess", apart := false }
def FnInvalidLessSaid : Prop := fnInvalidLessRow.holds Try.pinned (OpenSpec.ofChange fnInvalidLessSpec)

/-- ITS FALSE NEIGHBOUR: 'it returns false'. Refute it at one input. -/
def fnInvalidLessWrong : ChangeSpec := { name := "fnInvalidLess", fn := fun _ => fun
  | [d1, d2] => { results := [.lit (.bool false)], args := [d1, d2] }
  | _ => none }
def FnInvalidLessWrongFalsely : Prop := fnInvalidLessRow.holds Try.pinned (OpenSpec.ofChange fnInvalidLessWrong)

/-- 'laws.FnCompareCanonical': WHATEVER THE INPUT: true; the input reads as it did. -/
def fnCompareCanonicalSpec : ChangeSpec := { name := "fnCompareCanonical", fn := fun _ => fun
  | [d1, d2] => { results := [.lit (.bool true)], args := [d1, d2] }
  | _ => none }
def fnCompareCanonicalRow : OpenClaim := { program := "ythgdmalhihaknaa", sum := "7c5a40ed5920fd035a5a6de16102cfdbb43275370a2a92ec6b40a0d361acfc47", func := "loop.example/pub-g01440/laws.FnCompareCanonical", spec := "fnCompareCanonical", apart := false }
def FnCompareCanonicalSaid : Prop := fnCompareCanonicalRow.holds Try.pinned (OpenSpec.ofChange fnCompareCanonicalSpec)

/-- ITS FALSE NEIGHBOUR: 'it returns false'. Refute it at one input. -/
def fnCompareCanonicalWrong : ChangeSpec := { name := "fnCompareCanonical", fn := fun _ => fun
  | [d1, d2] => { results := [.lit (.bool false)], args := [d1, d2] }
  | _ => none }
def FnCompareCanonicalWrongFalsely : Prop := fnCompareCanonicalRow.holds Try.pinned (OpenSpec.ofChange fnCompareCanonicalWrong)

/-- 'laws.FnCompareBuild': WHATEVER THE INPUT: true; the input reads as it did. -/
def fnCompareBuildSpec : ChangeSpec := { name := "fnCompareBuild", fn := fun _ => fun
  | [d1, d2] => { results := [.lit (.bool true)], args := [d1, d2] }
  | _ => none }
def fnCompareBuildRow : OpenClaim := { program := "ythgdmalhihaknaa", sum := "7c5a40ed5920fd035a5a6de16102cfdbb43275370a2a92ec6b40a0d361acfc47", func := "loop.example/pub-g01440/laws.FnCompareBuild", spec := "fnCompareBuild", apart := false }
def FnCompareBuildSaid : Prop := fnCompareBuildRow.holds Try.pinned (OpenSpec.ofChange fnCompareBuildSpec)

/-- ITS FALSE NEIGHBOUR: 'it returns false'. Refute it at one input. -/
def fnCompareBuildWrong : ChangeSpec := { name := "fnCompareBuild", fn := fun _ => fun
  | [d1, d2] => { results := [.lit (.bool false)], args := [d1, d2] }
  | _ => none }
def FnCompareBuildWrongFalsely : Prop := fnCompareBuildRow.holds Try.pinned (OpenSpec.ofChange fnCompareBuildWrong)

/- THE SECOND FORM. 'bulk': how many values and letters a reading holds, each counted each time it is reached (what is shared counts as often as it is met; a slice's spare places count too). A statement '..UptoSaid' is the law's where the arguments, and the package variables that the reading takes, are together of bulk at most 1048576: NARROWER than '..Said'. Prove '..Said' where nothing that the law and all that it calls make is longer than what came in: it says more and counts as full. Else prove '..UptoSaid'. A law counts once. -/
mutual
def uptoBulk {H : Type} : DataW H → Nat
  | .lit (.string bytes) => bytes.length + 1
  | .lit _ => 1
  | .nil => 1
  | .ptr d => uptoBulk d + 1
  | .slice elems spare => uptoBulkAll elems + uptoBulkAll spare + 1
  | .agg parts => uptoBulkAll parts + 1
  | .iface _ d => uptoBulk d + 1
  | .map entries => uptoBulkEntries entries + 1
  | .held _ => 1
def uptoBulkAll {H : Type} : List (DataW H) → Nat
  | [] => 0
  | d :: r => uptoBulk d + uptoBulkAll r
def uptoBulkEntries {H : Type} : List (Lit × DataW H) → Nat
  | [] => 0
  | x :: r => uptoBulkEntry x + uptoBulkEntries r
def uptoBulkEntry {H : Type} : Lit × DataW H → Nat
  | (.string bytes, d) => bytes.length + uptoBulk d + 1
  | (_, d) => uptoBulk d + 1
 end
def uptoSmall : (H : Type) → List (DataW H) → Bool := fun _ ds => decide (uptoBulkAll ds ≤ 1048576)
def OpenSpec.upto (s : _root_.Go.ChangeSpec) : _root_.Go.OpenSpec := { _root_.Go.OpenSpec.ofChange s with cond := some uptoSmall }

/-- 'laws.FnCompareChain', WHERE WHAT IT READS IS OF BULK AT MOST 1048576: true; the input reads as it did. -/
def fnCompareChainUptoRow : OpenClaim := { program := "ythgdmalhihaknaa", sum := "7c5a40ed5920fd035a5a6de16102cfdbb43275370a2a92ec6b40a0d361acfc47", func := "loop.example/pub-g01440/laws.FnCompareChain", spec := "fnCompareChain", apart := false, narrowed := true }
def FnCompareChainUptoSaid : Prop := fnCompareChainUptoRow.holds Try.pinned (OpenSpec.upto fnCompareChainSpec)

/-- 'laws.FnCompareSwap', WHERE WHAT IT READS IS OF BULK AT MOST 1048576: true; the input reads as it did. -/
def fnCompareSwapUptoRow : OpenClaim := { program := "ythgdmalhihaknaa", sum := "7c5a40ed5920fd035a5a6de16102cfdbb43275370a2a92ec6b40a0d361acfc47", func := "loop.example/pub-g01440/laws.FnCompareSwap", spec := "fnCompareSwap", apart := false, narrowed := true }
def FnCompareSwapUptoSaid : Prop := fnCompareSwapUptoRow.holds Try.pinned (OpenSpec.upto fnCompareSwapSpec)

/-- 'laws.FnCompareAhead', WHERE WHAT IT READS IS OF BULK AT MOST 1048576: true; the input reads as it did. -/
def fnCompareAheadUptoRow : OpenClaim := { program := "ythgdmalhihaknaa", sum := "7c5a40ed5920fd035a5a6de16102cfdbb43275370a2a92ec6b40a0d361acfc47", func := "loop.example/pub-g01440/laws.FnCompareAhead", spec := "fnCompareAhead", apart := false, narrowed := true }
def FnCompareAheadUptoSaid : Prop := fnCompareAheadUptoRow.holds Try.pinned (OpenSpec.upto fnCompareAheadSpec)

/-- 'laws.FnCompareKinds', WHERE WHAT IT READS IS OF BULK AT MOST 1048576: true; the input reads as it did. -/
def fnCompareKindsUptoRow : OpenClaim := { program := "ythgdmalhihaknaa", sum := "7c5a40ed5920fd035a5a6de16102cfdbb43275370a2a92ec6b40a0d361acfc47", func := "loop.example/pub-g01440/laws.FnCompareKinds", spec := "fnCompareKinds", apart := false, narrowed := true }
def FnCompareKindsUptoSaid : Prop := fnCompareKindsUptoRow.holds Try.pinned (OpenSpec.upto fnCompareKindsSpec)

/-- 'laws.FnCompareLonger', WHERE WHAT IT READS IS OF BULK AT MOST 1048576: true; the input reads as it did. -/
def fnCompareLongerUptoRow : OpenClaim := { program := "ythgdmalhihaknaa", sum := "7c5a40ed5920fd035a5a6de16102cfdbb43275370a2a92ec6b40a0d361acfc47", func := "loop.example/pub-g01440/laws.FnCompareLonger", spec := "fnCompareLonger", apart := false, narrowed := true }
def FnCompareLongerUptoSaid : Prop := fnCompareLongerUptoRow.holds Try.pinned (OpenSpec.upto fnCompareLongerSpec)

/-- 'laws.FnCompareNumbers', WHERE WHAT IT READS IS OF BULK AT MOST 1048576: true; the input reads as it did. -/
def fnCompareNumbersUptoRow : OpenClaim := { program := "ythgdmalhihaknaa", sum := "7c5a40ed5920fd035a5a6de16102cfdbb43275370a2a92ec6b40a0d361acfc47", func := "loop.example/pub-g01440/laws.FnCompareNumbers", spec := "fnCompareNumbers", apart := false, narrowed := true }
def FnCompareNumbersUptoSaid : Prop := fnCompareNumbersUptoRow.holds Try.pinned (OpenSpec.upto fnCompareNumbersSpec)

/-- 'laws.FnCompareTails', WHERE WHAT IT READS IS OF BULK AT MOST 1048576: true; the input reads as it did. -/
def fnCompareTailsUptoRow : OpenClaim := { program := "ythgdmalhihaknaa", sum := "7c5a40ed5920fd035a5a6de16102cfdbb43275370a2a92ec6b40a0d361acfc47", func := "loop.example/pub-g01440/laws.FnCompareTails", spec := "fnCompareTails", apart := false, narrowed := true }
def FnCompareTailsUptoSaid : Prop := fnCompareTailsUptoRow.holds Try.pinned (OpenSpec.upto fnCompareTailsSpec)

/-- 'laws.FnCompareTens', WHERE WHAT IT READS IS OF BULK AT MOST 1048576: true; the input reads as it did. -/
def fnCompareTensUptoRow : OpenClaim := { program := "ythgdmalhihaknaa", sum := "7c5a40ed5920fd035a5a6de16102cfdbb43275370a2a92ec6b40a0d361acfc47", func := "loop.example/pub-g01440/laws.FnCompareTens", spec := "fnCompareTens", apart := false, narrowed := true }
def FnCompareTensUptoSaid : Prop := fnCompareTensUptoRow.holds Try.pinned (OpenSpec.upto fnCompareTensSpec)

/-- 'laws.FnInvalidLess', WHERE WHAT IT READS IS OF BULK AT MOST 1048576: true; the input reads as it did. -/
def fnInvalidLessUptoRow : OpenClaim := { program := "ythgdmalhihaknaa", sum := "7c5a40ed5920fd035a5a6de16102cfdbb43275370a2a92ec6b40a0d361acfc47", func := "loop.example/pub-g01440/laws.FnInvalidLess", spec := "fnInvalidLess", apart := false, narrowed := true }
def FnInvalidLessUptoSaid : Prop := fnInvalidLessUptoRow.holds Try.pinned (OpenSpec.upto fnInvalidLessSpec)

/-- 'laws.FnCompareCanonical', WHERE WHAT IT READS IS OF BULK AT MOST 1048576: true; the input reads as it did. -/
def fnCompareCanonicalUptoRow : OpenClaim := { program := "ythgdmalhihaknaa", sum := "7c5a40ed5920fd035a5a6de16102cfdbb43275370a2a92ec6b40a0d361acfc47", func := "loop.example/pub-g01440/laws.FnCompareCanonical", spec := "fnCompareCanonical", apart := false, narrowed := true }
def FnCompareCanonicalUptoSaid : Prop := fnCompareCanonicalUptoRow.holds Try.pinned (OpenSpec.upto fnCompareCanonicalSpec)

/-- 'laws.FnCompareBuild', WHERE WHAT IT READS IS OF BULK AT MOST 1048576: true; the input reads as it did. -/
def fnCompareBuildUptoRow : OpenClaim := { program := "ythgdmalhihaknaa", sum := "7c5a40ed5920fd035a5a6de16102cfdbb43275370a2a92ec6b40a0d361acfc47", func := "loop.example/pub-g01440/laws.FnCompareBuild", spec := "fnCompareBuild", apart := false, narrowed := true }
def FnCompareBuildUptoSaid : Prop := fnCompareBuildUptoRow.holds Try.pinned (OpenSpec.upto fnCompareBuildSpec)

end Rows
end Go.Proofs.Ythgdmalhihaknaa
