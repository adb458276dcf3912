/-
  No cell of these rows narrows 'for every input' (looked for: loops, veiled, ifaces, maps, wideKeys, modest, calm, conditions, laid).
  DERIVED. THE GIVEN ROWS OF THIS SEAT. 13 by the template 'for every input the law returns true; each argument reads behind the call as it read before'; 0 by the template 'total and deterministic' (their statements: YtpcmdgmbacokfaaTotals.lean).
  GIVEN WITH THE SEED: the statements are not yours to turn. If you find one false, say at which input.
  Laid BY PROGRAM, IN A SANDBOX (cutbox-rows.mjs): the forced cells as the released guide's own fill.sh prints them over the translation a481bd76ec869bec… (all of the seat's roots in one cut). By AI agents, Wed Nov 11 2026. No macro, syntax, notation, axiom, sorry.
-/
import Derived.Test.YtpcmdgmbacokfaaChecked
import GoSem.Claim
import GoSem.ClaimJoined
import GoSem.ClaimMapViews
import Derived.JoinedTies
import Derived.KernelRfl
namespace Go.Proofs.Ytpcmdgmbacokfaa
/- THE CELL 'sum', in the pinned program and in every row, IS THE sha256 OF THE DUMP (.gsa) THAT YtpcmdgmbacokfaaProg.lean LOADS. Nothing in Lean hashes anything: it is a label: what it is worth is what the hold of that sum in a sandbox is worth. -/
noncomputable def Try.pinned : Pinned := { name := "ytpcmdgmbacokfaa", sum := "a481bd76ec869bec0c39d3db18a839bb65b6f039f87ca729b96264c6b5f33205", checked := Try.checked }
namespace Rows
def none {H : Type} : Left H := { results := [], args := [] }

/-- 'laws.FnExactCanonicalVersion': WHATEVER THE INPUT: true; the input reads as it did. -/
def fnExactCanonicalVersionSpec : ChangeSpec := { name := "fnExactCanonicalVersion", fn := fun _ => fun
  | [d] => { results := [.lit (.bool true)], args := [d] }
  | _ => none }
def fnExactCanonicalVersionRow : OpenClaim := { program := "ytpcmdgmbacokfaa", sum := "a481bd76ec869bec0c39d3db18a839bb65b6f039f87ca729b96264c6b5f33205", func := "loop.example/pub-g01440/laws.FnExactCanonicalVersion", spec := "fnExactCanonicalVersion", apart := false }
def FnExactCanonicalVersionSaid : Prop := fnExactCanonicalVersionRow.holds Try.pinned (OpenSpec.ofChange fnExactCanonicalVersionSpec)

/-- ITS FALSE NEIGHBOUR: 'it returns false'. Refute it at one input. -/
def fnExactCanonicalVersionWrong : ChangeSpec := { name := "fnExactCanonicalVersion", fn := fun _ => fun
  | [d] => { results := [.lit (.bool false)], args := [d] }
  | _ => none }
def FnExactCanonicalVersionWrongFalsely : Prop := fnExactCanonicalVersionRow.holds Try.pinned (OpenSpec.ofChange fnExactCanonicalVersionWrong)

/-- 'laws.FnExactCompareVersions': WHATEVER THE INPUT: true; the input reads as it did. -/
def fnExactCompareVersionsSpec : ChangeSpec := { name := "fnExactCompareVersions", fn := fun _ => fun
  | [d1, d2] => { results := [.lit (.bool true)], args := [d1, d2] }
  | _ => none }
def fnExactCompareVersionsRow : OpenClaim := { program := "ytpcmdgmbacokfaa", sum := "a481bd76ec869bec0c39d3db18a839bb65b6f039f87ca729b96264c6b5f33205", func := "loop.example/pub-g01440/laws.FnExactCompareVersions", spec := "fnExactCompareVersions", apart := false }
def FnExactCompareVersionsSaid : Prop := fnExactCompareVersionsRow.holds Try.pinned (OpenSpec.ofChange fnExactCompareVersionsSpec)

/-- ITS FALSE NEIGHBOUR: 'it returns false'. Refute it at one input. -/
def fnExactCompareVersionsWrong : ChangeSpec := { name := "fnExactCompareVersions", fn := fun _ => fun
  | [d1, d2] => { results := [.lit (.bool false)], args := [d1, d2] }
  | _ => none }
def FnExactCompareVersionsWrongFalsely : Prop := fnExactCompareVersionsRow.holds Try.pinned (OpenSpec.ofChange fnExactCompareVersionsWrong)

/-- 'laws.FnExactMaxVersion': WHATEVER THE INPUT: true; the input reads as it did. -/
def fnExactMaxVersionSpec : ChangeSpec := { name := "fnExactMaxVersion", fn := fun _ => fun
  | [d1, d2] => { results := [.lit (.bool true)], args := [d1, d2] }
  | _ => none }
def fnExactMaxVersionRow : OpenClaim := { program := "ytpcmdgmbacokfaa", sum := "a481bd76ec869bec0c39d3db18a839bb65b6f039f87ca729b96264c6b5f33205", func := "loop.example/pub-g01440/laws.FnExactMaxVersion", spec := "fnExactMaxVersion", apart := false }
def FnExactMaxVersionSaid : Prop := fnExactMaxVersionRow.holds Try.pinned (OpenSpec.ofChange fnExactMaxVersionSpec)

/-- ITS FALSE NEIGHBOUR: 'it returns false'. Refute it at one input. -/
def fnExactMaxVersionWrong : ChangeSpec := { name := "fnExactMaxVersion", fn := fun _ => fun
  | [d1, d2] => { results := [.lit (.bool false)], args := [d1, d2] }
  | _ => none }
def FnExactMaxVersionWrongFalsely : Prop := fnExactMaxVersionRow.holds Try.pinned (OpenSpec.ofChange fnExactMaxVersionWrong)

/-- 'laws.FnExactLessVersion': WHATEVER THE INPUT: true; the input reads as it did. -/
def fnExactLessVersionSpec : ChangeSpec := { name := "fnExactLessVersion", fn := fun _ => fun
  | [d1, d2, d3] => { results := [.lit (.bool true)], args := [d1, d2, d3] }
  | _ => none }
def fnExactLessVersionRow : OpenClaim := { program := "ytpcmdgmbacokfaa", sum := "a481bd76ec869bec0c39d3db18a839bb65b6f039f87ca729b96264c6b5f33205", func := "loop.example/pub-g01440/laws.FnExactLessVersion", spec := "fnExactLessVersion", inPlace := ["internal/bytealg.abigen_runtime_cmpstring"], apart := false }
def FnExactLessVersionSaid : Prop := fnExactLessVersionRow.holds Try.pinned (OpenSpec.ofChange fnExactLessVersionSpec)

/-- ITS FALSE NEIGHBOUR: 'it returns false'. Refute it at one input. -/
def fnExactLessVersionWrong : ChangeSpec := { name := "fnExactLessVersion", fn := fun _ => fun
  | [d1, d2, d3] => { results := [.lit (.bool false)], args := [d1, d2, d3] }
  | _ => none }
def FnExactLessVersionWrongFalsely : Prop := fnExactLessVersionRow.holds Try.pinned (OpenSpec.ofChange fnExactLessVersionWrong)

/-- 'laws.FnCompareTails': WHATEVER THE INPUT: true; the input reads as it did. -/
def fnCompareTailsSpec : ChangeSpec := { name := "fnCompareTails", fn := fun _ => fun
  | [d1, d2, d3] => { results := [.lit (.bool true)], args := [d1, d2, d3] }
  | _ => none }
def fnCompareTailsRow : OpenClaim := { program := "ytpcmdgmbacokfaa", sum := "a481bd76ec869bec0c39d3db18a839bb65b6f039f87ca729b96264c6b5f33205", func := "loop.example/pub-g01440/laws.FnCompareTails", spec := "fnCompareTails", apart := false }
def FnCompareTailsSaid : Prop := fnCompareTailsRow.holds Try.pinned (OpenSpec.ofChange fnCompareTailsSpec)

/-- ITS FALSE NEIGHBOUR: 'it returns false'. Refute it at one input. -/
def fnCompareTailsWrong : ChangeSpec := { name := "fnCompareTails", fn := fun _ => fun
  | [d1, d2, d3] => { results := [.lit (.bool false)], args := [d1, d2, d3] }
  | _ => none }
def FnCompareTailsWrongFalsely : Prop := fnCompareTailsRow.holds Try.pinned (OpenSpec.ofChange fnCompareTailsWrong)

/-- 'laws.FnCompareLonger': WHATEVER THE INPUT: true; the input reads as it did. -/
def fnCompareLongerSpec : ChangeSpec := { name := "fnCompareLonger", fn := fun _ => fun
  | [d1, d2, d3] => { results := [.lit (.bool true)], args := [d1, d2, d3] }
  | _ => none }
def fnCompareLongerRow : OpenClaim := { program := "ytpcmdgmbacokfaa", sum := "a481bd76ec869bec0c39d3db18a839bb65b6f039f87ca729b96264c6b5f33205", func := "loop.example/pub-g01440/laws.FnCompareLonger", spec := "fnCompareLonger", apart := false }
def FnCompareLongerSaid : Prop := fnCompareLongerRow.holds Try.pinned (OpenSpec.ofChange fnCompareLongerSpec)

/-- ITS FALSE NEIGHBOUR: 'it returns false'. Refute it at one input. -/
def fnCompareLongerWrong : ChangeSpec := { name := "fnCompareLonger", fn := fun _ => fun
  | [d1, d2, d3] => { results := [.lit (.bool false)], args := [d1, d2, d3] }
  | _ => none }
def FnCompareLongerWrongFalsely : Prop := fnCompareLongerRow.holds Try.pinned (OpenSpec.ofChange fnCompareLongerWrong)

/-- 'laws.FnCompareAhead': WHATEVER THE INPUT: true; the input reads as it did. -/
def fnCompareAheadSpec : ChangeSpec := { name := "fnCompareAhead", fn := fun _ => fun
  | [d1, d2, d3] => { results := [.lit (.bool true)], args := [d1, d2, d3] }
  | _ => none }
def fnCompareAheadRow : OpenClaim := { program := "ytpcmdgmbacokfaa", sum := "a481bd76ec869bec0c39d3db18a839bb65b6f039f87ca729b96264c6b5f33205", func := "loop.example/pub-g01440/laws.FnCompareAhead", spec := "fnCompareAhead", apart := false }
def FnCompareAheadSaid : Prop := fnCompareAheadRow.holds Try.pinned (OpenSpec.ofChange fnCompareAheadSpec)

/-- ITS FALSE NEIGHBOUR: 'it returns false'. Refute it at one input. -/
def fnCompareAheadWrong : ChangeSpec := { name := "fnCompareAhead", fn := fun _ => fun
  | [d1, d2, d3] => { results := [.lit (.bool false)], args := [d1, d2, d3] }
  | _ => none }
def FnCompareAheadWrongFalsely : Prop := fnCompareAheadRow.holds Try.pinned (OpenSpec.ofChange fnCompareAheadWrong)

/-- 'laws.FnCompareKinds': WHATEVER THE INPUT: true; the input reads as it did. -/
def fnCompareKindsSpec : ChangeSpec := { name := "fnCompareKinds", fn := fun _ => fun
  | [d1, d2, d3] => { results := [.lit (.bool true)], args := [d1, d2, d3] }
  | _ => none }
def fnCompareKindsRow : OpenClaim := { program := "ytpcmdgmbacokfaa", sum := "a481bd76ec869bec0c39d3db18a839bb65b6f039f87ca729b96264c6b5f33205", func := "loop.example/pub-g01440/laws.FnCompareKinds", spec := "fnCompareKinds", apart := false }
def FnCompareKindsSaid : Prop := fnCompareKindsRow.holds Try.pinned (OpenSpec.ofChange fnCompareKindsSpec)

/-- ITS FALSE NEIGHBOUR: 'it returns false'. Refute it at one input. -/
def fnCompareKindsWrong : ChangeSpec := { name := "fnCompareKinds", fn := fun _ => fun
  | [d1, d2, d3] => { results := [.lit (.bool false)], args := [d1, d2, d3] }
  | _ => none }
def FnCompareKindsWrongFalsely : Prop := fnCompareKindsRow.holds Try.pinned (OpenSpec.ofChange fnCompareKindsWrong)

/-- 'laws.FnCompareTens': WHATEVER THE INPUT: true; the input reads as it did. -/
def fnCompareTensSpec : ChangeSpec := { name := "fnCompareTens", fn := fun _ => fun
  | [d1, d2] => { results := [.lit (.bool true)], args := [d1, d2] }
  | _ => none }
def fnCompareTensRow : OpenClaim := { program := "ytpcmdgmbacokfaa", sum := "a481bd76ec869bec0c39d3db18a839bb65b6f039f87ca729b96264c6b5f33205", func := "loop.example/pub-g01440/laws.FnCompareTens", spec := "fnCompareTens", apart := false }
def FnCompareTensSaid : Prop := fnCompareTensRow.holds Try.pinned (OpenSpec.ofChange fnCompareTensSpec)

/-- ITS FALSE NEIGHBOUR: 'it returns false'. Refute it at one input. -/
def fnCompareTensWrong : ChangeSpec := { name := "fnCompareTens", fn := fun _ => fun
  | [d1, d2] => { results := [.lit (.bool false)], args := [d1, d2] }
  | _ => none }
def FnCompareTensWrongFalsely : Prop := fnCompareTensRow.holds Try.pinned (OpenSpec.ofChange fnCompareTensWrong)

/-- 'laws.FnShorthandBare': WHATEVER THE INPUT: true; the input reads as it did. -/
def fnShorthandBareSpec : ChangeSpec := { name := "fnShorthandBare", fn := fun _ => fun
  | [d1, d2] => { results := [.lit (.bool true)], args := [d1, d2] }
  | _ => none }
def fnShorthandBareRow : OpenClaim := { program := "ytpcmdgmbacokfaa", sum := "a481bd76ec869bec0c39d3db18a839bb65b6f039f87ca729b96264c6b5f33205", func := "loop.example/pub-g01440/laws.FnShorthandBare", spec := "fnShorthandBare", apart := false }
def FnShorthandBareSaid : Prop := fnShorthandBareRow.holds Try.pinned (OpenSpec.ofChange fnShorthandBareSpec)

/-- ITS FALSE NEIGHBOUR: 'it returns false'. Refute it at one input. -/
def fnShorthandBareWrong : ChangeSpec := { name := "fnShorthandBare", fn := fun _ => fun
  | [d1, d2] => { results := [.lit (.bool false)], args := [d1, d2] }
  | _ => none }
def FnShorthandBareWrongFalsely : Prop := fnShorthandBareRow.holds Try.pinned (OpenSpec.ofChange fnShorthandBareWrong)

/-- 'laws.FnZeros': WHATEVER THE INPUT: true; the input reads as it did. -/
def fnZerosSpec : ChangeSpec := { name := "fnZeros", fn := fun _ => fun
  | [d1, d2] => { results := [.lit (.bool true)], args := [d1, d2] }
  | _ => none }
def fnZerosRow : OpenClaim := { program := "ytpcmdgmbacokfaa", sum := "a481bd76ec869bec0c39d3db18a839bb65b6f039f87ca729b96264c6b5f33205", func := "loop.example/pub-g01440/laws.FnZeros", spec := "fnZeros", apart := false }
def FnZerosSaid : Prop := fnZerosRow.holds Try.pinned (OpenSpec.ofChange fnZerosSpec)

/-- ITS FALSE NEIGHBOUR: 'it returns false'. Refute it at one input. -/
def fnZerosWrong : ChangeSpec := { name := "fnZeros", fn := fun _ => fun
  | [d1, d2] => { results := [.lit (.bool false)], args := [d1, d2] }
  | _ => none }
def FnZerosWrongFalsely : Prop := fnZerosRow.holds Try.pinned (OpenSpec.ofChange fnZerosWrong)

/-- 'laws.FnLessOrder': WHATEVER THE INPUT: true; the input reads as it did. -/
def fnLessOrderSpec : ChangeSpec := { name := "fnLessOrder", fn := fun _ => fun
  | [d1, d2, d3] => { results := [.lit (.bool true)], args := [d1, d2, d3] }
  | _ => none }
def fnLessOrderRow : OpenClaim := { program := "ytpcmdgmbacokfaa", sum := "a481bd76ec869bec0c39d3db18a839bb65b6f039f87ca729b96264c6b5f33205", func := "loop.example/pub-g01440/laws.FnLessOrder", spec := "fnLessOrder", inPlace := ["internal/bytealg.abigen_runtime_cmpstring"], apart := false }
def FnLessOrderSaid : Prop := fnLessOrderRow.holds Try.pinned (OpenSpec.ofChange fnLessOrderSpec)

/-- ITS FALSE NEIGHBOUR: 'it returns false'. Refute it at one input. -/
def fnLessOrderWrong : ChangeSpec := { name := "fnLessOrder", fn := fun _ => fun
  | [d1, d2, d3] => { results := [.lit (.bool false)], args := [d1, d2, d3] }
  | _ => none }
def FnLessOrderWrongFalsely : Prop := fnLessOrderRow.holds Try.pinned (OpenSpec.ofChange fnLessOrderWrong)

/-- 'laws.FnVersionWritten': WHATEVER THE INPUT: true; the input reads as it did. -/
def fnVersionWrittenSpec : ChangeSpec := { name := "fnVersionWritten", fn := fun _ => fun
  | [d] => { results := [.lit (.bool true)], args := [d] }
  | _ => none }
def fnVersionWrittenRow : OpenClaim := { program := "ytpcmdgmbacokfaa", sum := "a481bd76ec869bec0c39d3db18a839bb65b6f039f87ca729b96264c6b5f33205", func := "loop.example/pub-g01440/laws.FnVersionWritten", spec := "fnVersionWritten", apart := false }
def FnVersionWrittenSaid : Prop := fnVersionWrittenRow.holds Try.pinned (OpenSpec.ofChange fnVersionWrittenSpec)

/-- ITS FALSE NEIGHBOUR: 'it returns false'. Refute it at one input. -/
def fnVersionWrittenWrong : ChangeSpec := { name := "fnVersionWritten", fn := fun _ => fun
  | [d] => { results := [.lit (.bool false)], args := [d] }
  | _ => none }
def FnVersionWrittenWrongFalsely : Prop := fnVersionWrittenRow.holds Try.pinned (OpenSpec.ofChange fnVersionWrittenWrong)

/- THE SECOND FORM. 'bulk': how many values and letters a reading holds, each counted each time it is reached (what is shared counts as often as it is met; a slice's spare places count too). A statement '..UptoSaid' is the law's where the arguments, and the package variables that the reading takes, are together of bulk at most 1048576: NARROWER than '..Said'. Prove '..Said' where nothing that the law and all that it calls make is longer than what came in: it says more and counts as full. Else prove '..UptoSaid'. A law counts once. -/
mutual
def uptoBulk {H : Type} : DataW H → Nat
  | .lit (.string bytes) => bytes.length + 1
  | .lit _ => 1
  | .nil => 1
  | .ptr d => uptoBulk d + 1
  | .slice elems spare => uptoBulkAll elems + uptoBulkAll spare + 1
  | .agg parts => uptoBulkAll parts + 1
  | .iface _ d => uptoBulk d + 1
  | .map entries => uptoBulkEntries entries + 1
  | .held _ => 1
def uptoBulkAll {H : Type} : List (DataW H) → Nat
  | [] => 0
  | d :: r => uptoBulk d + uptoBulkAll r
def uptoBulkEntries {H : Type} : List (Lit × DataW H) → Nat
  | [] => 0
  | x :: r => uptoBulkEntry x + uptoBulkEntries r
def uptoBulkEntry {H : Type} : Lit × DataW H → Nat
  | (.string bytes, d) => bytes.length + uptoBulk d + 1
  | (_, d) => uptoBulk d + 1
 end
def uptoSmall : (H : Type) → List (DataW H) → Bool := fun _ ds => decide (uptoBulkAll ds ≤ 1048576)
def OpenSpec.upto (s : _root_.Go.ChangeSpec) : _root_.Go.OpenSpec := { _root_.Go.OpenSpec.ofChange s with cond := some uptoSmall }

/-- 'laws.FnExactCanonicalVersion', WHERE WHAT IT READS IS OF BULK AT MOST 1048576: true; the input reads as it did. -/
def fnExactCanonicalVersionUptoRow : OpenClaim := { program := "ytpcmdgmbacokfaa", sum := "a481bd76ec869bec0c39d3db18a839bb65b6f039f87ca729b96264c6b5f33205", func := "loop.example/pub-g01440/laws.FnExactCanonicalVersion", spec := "fnExactCanonicalVersion", apart := false, narrowed := true }
def FnExactCanonicalVersionUptoSaid : Prop := fnExactCanonicalVersionUptoRow.holds Try.pinned (OpenSpec.upto fnExactCanonicalVersionSpec)

/-- 'laws.FnExactCompareVersions', WHERE WHAT IT READS IS OF BULK AT MOST 1048576: true; the input reads as it did. -/
def fnExactCompareVersionsUptoRow : OpenClaim := { program := "ytpcmdgmbacokfaa", sum := "a481bd76ec869bec0c39d3db18a839bb65b6f039f87ca729b96264c6b5f33205", func := "loop.example/pub-g01440/laws.FnExactCompareVersions", spec := "fnExactCompareVersions", apart := false, narrowed := true }
def FnExactCompareVersionsUptoSaid : Prop := fnExactCompareVersionsUptoRow.holds Try.pinned (OpenSpec.upto fnExactCompareVersionsSpec)

/-- 'laws.FnExactMaxVersion', WHERE WHAT IT READS IS OF BULK AT MOST 1048576: true; the input reads as it did. -/
def fnExactMaxVersionUptoRow : OpenClaim := { program := "ytpcmdgmbacokfaa", sum := "a481bd76ec869bec0c39d3db18a839bb65b6f039f87ca729b96264c6b5f33205", func := "loop.example/pub-g01440/laws.FnExactMaxVersion", spec := "fnExactMaxVersion", apart := false, narrowed := true }
def FnExactMaxVersionUptoSaid : Prop := fnExactMaxVersionUptoRow.holds Try.pinned (OpenSpec.upto fnExactMaxVersionSpec)

/-- 'laws.FnExactLessVersion', WHERE WHAT IT READS IS OF BULK AT MOST 1048576: true; the input reads as it did. -/
def fnExactLessVersionUptoRow : OpenClaim := { program := "ytpcmdgmbacokfaa", sum := "a481bd76ec869bec0c39d3db18a839bb65b6f039f87ca729b96264c6b5f33205", func := "loop.example/pub-g01440/laws.FnExactLessVersion", spec := "fnExactLessVersion", inPlace := ["internal/bytealg.abigen_runtime_cmpstring"], apart := false, narrowed := true }
def FnExactLessVersionUptoSaid : Prop := fnExactLessVersionUptoRow.holds Try.pinned (OpenSpec.upto fnExactLessVersionSpec)

/-- 'laws.FnCompareTails', WHERE WHAT IT READS IS OF BULK AT MOST 1048576: true; the input reads as it did. -/
def fnCompareTailsUptoRow : OpenClaim := { program := "ytpcmdgmbacokfaa", sum := "a481bd76ec869bec0c39d3db18a839bb65b6f039f87ca729b96264c6b5f33205", func := "loop.example/pub-g01440/laws.FnCompareTails", spec := "fnCompareTails", apart := false, narrowed := true }
def FnCompareTailsUptoSaid : Prop := fnCompareTailsUptoRow.holds Try.pinned (OpenSpec.upto fnCompareTailsSpec)

/-- 'laws.FnCompareLonger', WHERE WHAT IT READS IS OF BULK AT MOST 1048576: true; the input reads as it did. -/
def fnCompareLongerUptoRow : OpenClaim := { program := "ytpcmdgmbacokfaa", sum := "a481bd76ec869bec0c39d3db18a839bb65b6f039f87ca729b96264c6b5f33205", func := "loop.example/pub-g01440/laws.FnCompareLonger", spec := "fnCompareLonger", apart := false, narrowed := true }
def FnCompareLongerUptoSaid : Prop := fnCompareLongerUptoRow.holds Try.pinned (OpenSpec.upto fnCompareLongerSpec)

/-- 'laws.FnCompareAhead', WHERE WHAT IT READS IS OF BULK AT MOST 1048576: true; the input reads as it did. -/
def fnCompareAheadUptoRow : OpenClaim := { program := "ytpcmdgmbacokfaa", sum := "a481bd76ec869bec0c39d3db18a839bb65b6f039f87ca729b96264c6b5f33205", func := "loop.example/pub-g01440/laws.FnCompareAhead", spec := "fnCompareAhead", apart := false, narrowed := true }
def FnCompareAheadUptoSaid : Prop := fnCompareAheadUptoRow.holds Try.pinned (OpenSpec.upto fnCompareAheadSpec)

/-- 'laws.FnCompareKinds', WHERE WHAT IT READS IS OF BULK AT MOST 1048576: true; the input reads as it did. -/
def fnCompareKindsUptoRow : OpenClaim := { program := "ytpcmdgmbacokfaa", sum := "a481bd76ec869bec0c39d3db18a839bb65b6f039f87ca729b96264c6b5f33205", func := "loop.example/pub-g01440/laws.FnCompareKinds", spec := "fnCompareKinds", apart := false, narrowed := true }
def FnCompareKindsUptoSaid : Prop := fnCompareKindsUptoRow.holds Try.pinned (OpenSpec.upto fnCompareKindsSpec)

/-- 'laws.FnCompareTens', WHERE WHAT IT READS IS OF BULK AT MOST 1048576: true; the input reads as it did. -/
def fnCompareTensUptoRow : OpenClaim := { program := "ytpcmdgmbacokfaa", sum := "a481bd76ec869bec0c39d3db18a839bb65b6f039f87ca729b96264c6b5f33205", func := "loop.example/pub-g01440/laws.FnCompareTens", spec := "fnCompareTens", apart := false, narrowed := true }
def FnCompareTensUptoSaid : Prop := fnCompareTensUptoRow.holds Try.pinned (OpenSpec.upto fnCompareTensSpec)

/-- 'laws.FnShorthandBare', WHERE WHAT IT READS IS OF BULK AT MOST 1048576: true; the input reads as it did. -/
def fnShorthandBareUptoRow : OpenClaim := { program := "ytpcmdgmbacokfaa", sum := "a481bd76ec869bec0c39d3db18a839bb65b6f039f87ca729b96264c6b5f33205", func := "loop.example/pub-g01440/laws.FnShorthandBare", spec := "fnShorthandBare", apart := false, narrowed := true }
def FnShorthandBareUptoSaid : Prop := fnShorthandBareUptoRow.holds Try.pinned (OpenSpec.upto fnShorthandBareSpec)

/-- 'laws.FnZeros', WHERE WHAT IT READS IS OF BULK AT MOST 1048576: true; the input reads as it did. -/
def fnZerosUptoRow : OpenClaim := { program := "ytpcmdgmbacokfaa", sum := "a481bd76ec869bec0c39d3db18a839bb65b6f039f87ca729b96264c6b5f33205", func := "loop.example/pub-g01440/laws.FnZeros", spec := "fnZeros", apart := false, narrowed := true }
def FnZerosUptoSaid : Prop := fnZerosUptoRow.holds Try.pinned (OpenSpec.upto fnZerosSpec)

/-- 'laws.FnLessOrder', WHERE WHAT IT READS IS OF BULK AT MOST 1048576: true; the input reads as it did. -/
def fnLessOrderUptoRow : OpenClaim := { program := "ytpcmdgmbacokfaa", sum := "a481bd76ec869bec0c39d3db18a839bb65b6f039f87ca729b96264c6b5f33205", func := "loop.example/pub-g01440/laws.FnLessOrder", spec := "fnLessOrder", inPlace := ["internal/bytealg.abigen_runtime_cmpstring"], apart := false, narrowed := true }
def FnLessOrderUptoSaid : Prop := fnLessOrderUptoRow.holds Try.pinned (OpenSpec.upto fnLessOrderSpec)

/-- 'laws.FnVersionWritten', WHERE WHAT IT READS IS OF BULK AT MOST 1048576: true; the input reads as it did. -/
def fnVersionWrittenUptoRow : OpenClaim := { program := "ytpcmdgmbacokfaa", sum := "a481bd76ec869bec0c39d3db18a839bb65b6f039f87ca729b96264c6b5f33205", func := "loop.example/pub-g01440/laws.FnVersionWritten", spec := "fnVersionWritten", apart := false, narrowed := true }
def FnVersionWrittenUptoSaid : Prop := fnVersionWrittenUptoRow.holds Try.pinned (OpenSpec.upto fnVersionWrittenSpec)

end Rows
end Go.Proofs.Ytpcmdgmbacokfaa
