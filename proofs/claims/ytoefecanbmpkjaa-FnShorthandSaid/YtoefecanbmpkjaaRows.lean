/-
  No cell of these rows narrows 'for every input' (looked for: loops, veiled, ifaces, maps, wideKeys, modest, calm, conditions, laid).
  DERIVED. THE GIVEN ROWS OF THIS SEAT. 12 by the template 'for every input the law returns true; each argument reads behind the call as it read before'; 0 by the template 'total and deterministic' (their statements: YtoefecanbmpkjaaTotals.lean).
  GIVEN WITH THE SEED: the statements are not yours to turn. If you find one false, say at which input.
  Laid BY PROGRAM, IN A SANDBOX (cutbox-rows.mjs): the forced cells as the released guide's own fill.sh prints them over the translation 8eeece5a8bdaee5a… (all of the seat's roots in one cut). By AI agents, Wed Nov 11 2026. No macro, syntax, notation, axiom, sorry.
-/
import Derived.Test.YtoefecanbmpkjaaChecked
import GoSem.Claim
import GoSem.ClaimJoined
import GoSem.ClaimMapViews
import Derived.JoinedTies
import Derived.KernelRfl
namespace Go.Proofs.Ytoefecanbmpkjaa
/- THE CELL 'sum', in the pinned program and in every row, IS THE sha256 OF THE DUMP (.gsa) THAT YtoefecanbmpkjaaProg.lean LOADS. Nothing in Lean hashes anything: it is a label: what it is worth is what the hold of that sum in a sandbox is worth. -/
noncomputable def Try.pinned : Pinned := { name := "ytoefecanbmpkjaa", sum := "8eeece5a8bdaee5a1a31aaa283e4d2264873a58069eb2bcc4a7b97e5427a7203", checked := Try.checked }
namespace Rows
def none {H : Type} : Left H := { results := [], args := [] }

/-- 'laws.FnShorthandBare': WHATEVER THE INPUT: true; the input reads as it did. -/
def fnShorthandBareSpec : ChangeSpec := { name := "fnShorthandBare", fn := fun _ => fun
  | [d1, d2] => { results := [.lit (.bool true)], args := [d1, d2] }
  | _ => none }
def fnShorthandBareRow : OpenClaim := { program := "ytoefecanbmpkjaa", sum := "8eeece5a8bdaee5a1a31aaa283e4d2264873a58069eb2bcc4a7b97e5427a7203", func := "loop.example/pub-g01440/laws.FnShorthandBare", spec := "fnShorthandBare", apart := false }
def FnShorthandBareSaid : Prop := fnShorthandBareRow.holds Try.pinned (OpenSpec.ofChange fnShorthandBareSpec)

/-- ITS FALSE NEIGHBOUR: 'it returns false'. Refute it at one input. -/
def fnShorthandBareWrong : ChangeSpec := { name := "fnShorthandBare", fn := fun _ => fun
  | [d1, d2] => { results := [.lit (.bool false)], args := [d1, d2] }
  | _ => none }
def FnShorthandBareWrongFalsely : Prop := fnShorthandBareRow.holds Try.pinned (OpenSpec.ofChange fnShorthandBareWrong)

/-- 'laws.FnZeros': WHATEVER THE INPUT: true; the input reads as it did. -/
def fnZerosSpec : ChangeSpec := { name := "fnZeros", fn := fun _ => fun
  | [d1, d2] => { results := [.lit (.bool true)], args := [d1, d2] }
  | _ => none }
def fnZerosRow : OpenClaim := { program := "ytoefecanbmpkjaa", sum := "8eeece5a8bdaee5a1a31aaa283e4d2264873a58069eb2bcc4a7b97e5427a7203", func := "loop.example/pub-g01440/laws.FnZeros", spec := "fnZeros", apart := false }
def FnZerosSaid : Prop := fnZerosRow.holds Try.pinned (OpenSpec.ofChange fnZerosSpec)

/-- ITS FALSE NEIGHBOUR: 'it returns false'. Refute it at one input. -/
def fnZerosWrong : ChangeSpec := { name := "fnZeros", fn := fun _ => fun
  | [d1, d2] => { results := [.lit (.bool false)], args := [d1, d2] }
  | _ => none }
def FnZerosWrongFalsely : Prop := fnZerosRow.holds Try.pinned (OpenSpec.ofChange fnZerosWrong)

/-- 'laws.FnMaxChain': WHATEVER THE INPUT: true; the input reads as it did. -/
def fnMaxChainSpec : ChangeSpec := { name := "fnMaxChain", fn := fun _ => fun
  | [d1, d2, d3] => { results := [.lit (.bool true)], args := [d1, d2, d3] }
  | _ => none }
def fnMaxChainRow : OpenClaim := { program := "ytoefecanbmpkjaa", sum := "8eeece5a8bdaee5a1a31aaa283e4d2264873a58069eb2bcc4a7b97e5427a7203", func := "loop.example/pub-g01440/laws.FnMaxChain", spec := "fnMaxChain", apart := false }
def FnMaxChainSaid : Prop := fnMaxChainRow.holds Try.pinned (OpenSpec.ofChange fnMaxChainSpec)

/-- ITS FALSE NEIGHBOUR: 'it returns false'. Refute it at one input. -/
def fnMaxChainWrong : ChangeSpec := { name := "fnMaxChain", fn := fun _ => fun
  | [d1, d2, d3] => { results := [.lit (.bool false)], args := [d1, d2, d3] }
  | _ => none }
def FnMaxChainWrongFalsely : Prop := fnMaxChainRow.holds Try.pinned (OpenSpec.ofChange fnMaxChainWrong)

/-- 'laws.FnEmptyParts': WHATEVER THE INPUT: true; the input reads as it did. -/
def fnEmptyPartsSpec : ChangeSpec := { name := "fnEmptyParts", fn := fun _ => fun
  | [d] => { results := [.lit (.bool true)], args := [d] }
  | _ => none }
def fnEmptyPartsRow : OpenClaim := { program := "ytoefecanbmpkjaa", sum := "8eeece5a8bdaee5a1a31aaa283e4d2264873a58069eb2bcc4a7b97e5427a7203", func := "loop.example/pub-g01440/laws.FnEmptyParts", spec := "fnEmptyParts", apart := false }
def FnEmptyPartsSaid : Prop := fnEmptyPartsRow.holds Try.pinned (OpenSpec.ofChange fnEmptyPartsSpec)

/-- ITS FALSE NEIGHBOUR: 'it returns false'. Refute it at one input. -/
def fnEmptyPartsWrong : ChangeSpec := { name := "fnEmptyParts", fn := fun _ => fun
  | [d] => { results := [.lit (.bool false)], args := [d] }
  | _ => none }
def FnEmptyPartsWrongFalsely : Prop := fnEmptyPartsRow.holds Try.pinned (OpenSpec.ofChange fnEmptyPartsWrong)

/-- 'laws.FnLessOrder': WHATEVER THE INPUT: true; the input reads as it did. -/
def fnLessOrderSpec : ChangeSpec := { name := "fnLessOrder", fn := fun _ => fun
  | [d1, d2, d3] => { results := [.lit (.bool true)], args := [d1, d2, d3] }
  | _ => none }
def fnLessOrderRow : OpenClaim := { program := "ytoefecanbmpkjaa", sum := "8eeece5a8bdaee5a1a31aaa283e4d2264873a58069eb2bcc4a7b97e5427a7203", func := "loop.example/pub-g01440/laws.FnLessOrder", spec := "fnLessOrder", inPlace := ["internal/bytealg.abigen_runtime_cmpstring"], apart := false }
def FnLessOrderSaid : Prop := fnLessOrderRow.holds Try.pinned (OpenSpec.ofChange fnLessOrderSpec)

/-- ITS FALSE NEIGHBOUR: 'it returns false'. Refute it at one input. -/
def fnLessOrderWrong : ChangeSpec := { name := "fnLessOrder", fn := fun _ => fun
  | [d1, d2, d3] => { results := [.lit (.bool false)], args := [d1, d2, d3] }
  | _ => none }
def FnLessOrderWrongFalsely : Prop := fnLessOrderRow.holds Try.pinned (OpenSpec.ofChange fnLessOrderWrong)

/-- 'laws.FnVersionRebuilt': WHATEVER THE INPUT: true; the input reads as it did. -/
def fnVersionRebuiltSpec : ChangeSpec := { name := "fnVersionRebuilt", fn := fun _ => fun
  | [d] => { results := [.lit (.bool true)], args := [d] }
  | _ => none }
def fnVersionRebuiltRow : OpenClaim := { program := "ytoefecanbmpkjaa", sum := "8eeece5a8bdaee5a1a31aaa283e4d2264873a58069eb2bcc4a7b97e5427a7203", func := "loop.example/pub-g01440/laws.FnVersionRebuilt", spec := "fnVersionRebuilt", apart := false }
def FnVersionRebuiltSaid : Prop := fnVersionRebuiltRow.holds Try.pinned (OpenSpec.ofChange fnVersionRebuiltSpec)

/-- ITS FALSE NEIGHBOUR: 'it returns false'. Refute it at one input. -/
def fnVersionRebuiltWrong : ChangeSpec := { name := "fnVersionRebuilt", fn := fun _ => fun
  | [d] => { results := [.lit (.bool false)], args := [d] }
  | _ => none }
def FnVersionRebuiltWrongFalsely : Prop := fnVersionRebuiltRow.holds Try.pinned (OpenSpec.ofChange fnVersionRebuiltWrong)

/-- 'laws.FnMaxOrder': WHATEVER THE INPUT: true; the input reads as it did. -/
def fnMaxOrderSpec : ChangeSpec := { name := "fnMaxOrder", fn := fun _ => fun
  | [d1, d2] => { results := [.lit (.bool true)], args := [d1, d2] }
  | _ => none }
def fnMaxOrderRow : OpenClaim := { program := "ytoefecanbmpkjaa", sum := "8eeece5a8bdaee5a1a31aaa283e4d2264873a58069eb2bcc4a7b97e5427a7203", func := "loop.example/pub-g01440/laws.FnMaxOrder", spec := "fnMaxOrder", apart := false }
def FnMaxOrderSaid : Prop := fnMaxOrderRow.holds Try.pinned (OpenSpec.ofChange fnMaxOrderSpec)

/-- ITS FALSE NEIGHBOUR: 'it returns false'. Refute it at one input. -/
def fnMaxOrderWrong : ChangeSpec := { name := "fnMaxOrder", fn := fun _ => fun
  | [d1, d2] => { results := [.lit (.bool false)], args := [d1, d2] }
  | _ => none }
def FnMaxOrderWrongFalsely : Prop := fnMaxOrderRow.holds Try.pinned (OpenSpec.ofChange fnMaxOrderWrong)

/-- 'laws.FnVersionWritten': WHATEVER THE INPUT: true; the input reads as it did. -/
def fnVersionWrittenSpec : ChangeSpec := { name := "fnVersionWritten", fn := fun _ => fun
  | [d] => { results := [.lit (.bool true)], args := [d] }
  | _ => none }
def fnVersionWrittenRow : OpenClaim := { program := "ytoefecanbmpkjaa", sum := "8eeece5a8bdaee5a1a31aaa283e4d2264873a58069eb2bcc4a7b97e5427a7203", func := "loop.example/pub-g01440/laws.FnVersionWritten", spec := "fnVersionWritten", apart := false }
def FnVersionWrittenSaid : Prop := fnVersionWrittenRow.holds Try.pinned (OpenSpec.ofChange fnVersionWrittenSpec)

/-- ITS FALSE NEIGHBOUR: 'it returns false'. Refute it at one input. -/
def fnVersionWrittenWrong : ChangeSpec := { name := "fnVersionWritten", fn := fun _ => fun
  | [d] => { results := [.lit (.bool false)], args := [d] }
  | _ => none }
def FnVersionWrittenWrongFalsely : Prop := fnVersionWrittenRow.holds Try.pinned (OpenSpec.ofChange fnVersionWrittenWrong)

/-- 'laws.FnCanonicalTwice': WHATEVER THE INPUT: true; the input reads as it did. -/
def fnCanonicalTwiceSpec : ChangeSpec := { name := "fnCanonicalTwice", fn := fun _ => fun
  | [d] => { results := [.lit (.bool true)], args := [d] }
  | _ => none }
def fnCanonicalTwiceRow : OpenClaim := { program := "ytoefecanbmpkjaa", sum := "8eeece5a8bdaee5a1a31aaa283e4d2264873a58069eb2bcc4a7b97e5427a7203", func := "loop.example/pub-g01440/laws.FnCanonicalTwice", spec := "fnCanonicalTwice", apart := false }
def FnCanonicalTwiceSaid : Prop := fnCanonicalTwiceRow.holds Try.pinned (OpenSpec.ofChange fnCanonicalTwiceSpec)

/-- ITS FALSE NEIGHBOUR: 'it returns false'. Refute it at one input. -/
def fnCanonicalTwiceWrong : ChangeSpec := { name := "fnCanonicalTwice", fn := fun _ => fun
  | [d] => { results := [.lit (.bool false)], args := [d] }
  | _ => none }
def FnCanonicalTwiceWrongFalsely : Prop := fnCanonicalTwiceRow.holds Try.pinned (OpenSpec.ofChange fnCanonicalTwiceWrong)

/-- 'laws.FnShorthand': WHATEVER THE INPUT: true; the input reads as it did. -/
def fnShorthandSpec : ChangeSpec := { name := "fnShorthand", fn := fun _ => fun
  | [d1, d2] => { results := [.lit (.bool true)], args := [d1, d2] }
  | _ => none }
def fnShorthandRow : OpenClaim := { program := "ytoefecanbmpkjaa", sum := "8eeece5a8bdaee5a1a31aaa283e4d2264873a58069eb2bcc4a7b97e5427a7203", func := "loop.example/pub-g01440/laws.FnShorthand", spec := "fnShorthand", apart := false }
def FnShorthandSaid : Prop := fnShorthandRow.holds Try.pinned (OpenSpec.ofChange fnShorthandSpec)

/-- ITS FALSE NEIGHBOUR: 'it returns false'. Refute it at one input. -/
def fnShorthandWrong : ChangeSpec := { name := "fnShorthand", fn := fun _ => fun
  | [d1, d2] => { results := [.lit (.bool false)], args := [d1, d2] }
  | _ => none }
def FnShorthandWrongFalsely : Prop := fnShorthandRow.holds Try.pinned (OpenSpec.ofChange fnShorthandWrong)

/-- 'laws.FnPartsSame': WHATEVER THE INPUT: true; the input reads as it did. -/
def fnPartsSameSpec : ChangeSpec := { name := "fnPartsSame", fn := fun _ => fun
  | [d] => { results := [.lit (.bool true)], args := [d] }
  | _ => none }
def fnPartsSameRow : OpenClaim := { program := "ytoefecanbmpkjaa", sum := "8eeece5a8bdaee5a1a31aaa283e4d2264873a58069eb2bcc4a7b97e5427a7203", func := "loop.example/pub-g01440/laws.FnPartsSame", spec := "fnPartsSame", apart := false }
def FnPartsSameSaid : Prop := fnPartsSameRow.holds Try.pinned (OpenSpec.ofChange fnPartsSameSpec)

/-- ITS FALSE NEIGHBOUR: 'it returns false'. Refute it at one input. -/
def fnPartsSameWrong : ChangeSpec := { name := "fnPartsSame", fn := fun _ => fun
  | [d] => { results := [.lit (.bool false)], args := [d] }
  | _ => none }
def FnPartsSameWrongFalsely : Prop := fnPartsSameRow.holds Try.pinned (OpenSpec.ofChange fnPartsSameWrong)

/-- 'laws.FnPartsNested': WHATEVER THE INPUT: true; the input reads as it did. -/
def fnPartsNestedSpec : ChangeSpec := { name := "fnPartsNested", fn := fun _ => fun
  | [d] => { results := [.lit (.bool true)], args := [d] }
  | _ => none }
def fnPartsNestedRow : OpenClaim := { program := "ytoefecanbmpkjaa", sum := "8eeece5a8bdaee5a1a31aaa283e4d2264873a58069eb2bcc4a7b97e5427a7203", func := "loop.example/pub-g01440/laws.FnPartsNested", spec := "fnPartsNested", apart := false }
def FnPartsNestedSaid : Prop := fnPartsNestedRow.holds Try.pinned (OpenSpec.ofChange fnPartsNestedSpec)

/-- ITS FALSE NEIGHBOUR: 'it returns false'. Refute it at one input. -/
def fnPartsNestedWrong : ChangeSpec := { name := "fnPartsNested", fn := fun _ => fun
  | [d] => { results := [.lit (.bool false)], args := [d] }
  | _ => none }
def FnPartsNestedWrongFalsely : Prop := fnPartsNestedRow.holds Try.pinned (OpenSpec.ofChange fnPartsNestedWrong)

/- THE SECOND FORM. 'bulk': how many values and letters a reading holds, each counted each time it is reached (what is shared counts as often as it is met; a slice's spare places count too). A statement '..UptoSaid' is the law's where the arguments, and the package variables that the reading takes, are together of bulk at most 1048576: NARROWER than '..Said'. Prove '..Said' where nothing that the law and all that it calls make is longer than what came in: it says more and counts as full. Else prove '..UptoSaid'. A law counts once. -/
mutual
def uptoBulk {H : Type} : DataW H → Nat
  | .lit (.string bytes) => bytes.length + 1
  | .lit _ => 1
  | .nil => 1
  | .ptr d => uptoBulk d + 1
  | .slice elems spare => uptoBulkAll elems + uptoBulkAll spare + 1
  | .agg parts => uptoBulkAll parts + 1
  | .iface _ d => uptoBulk d + 1
  | .map entries => uptoBulkEntries entries + 1
  | .held _ => 1
def uptoBulkAll {H : Type} : List (DataW H) → Nat
  | [] => 0
  | d :: r => uptoBulk d + uptoBulkAll r
def uptoBulkEntries {H : Type} : List (Lit × DataW H) → Nat
  | [] => 0
  | x :: r => uptoBulkEntry x + uptoBulkEntries r
def uptoBulkEntry {H : Type} : Lit × DataW H → Nat
  | (.string bytes, d) => bytes.length + uptoBulk d + 1
  | (_, d) => uptoBulk d + 1
 end
def uptoSmall : (H : Type) → List (DataW H) → Bool := fun _ ds => decide (uptoBulkAll ds ≤ 1048576)
def OpenSpec.upto (s : _root_.Go.ChangeSpec) : _root_.Go.OpenSpec := { _root_.Go.OpenSpec.ofChange s with cond := some uptoSmall }

/-- 'laws.FnShorthandBare', WHERE WHAT IT READS IS OF BULK AT MOST 1048576: true; the input reads as it did. -/
def fnShorthandBareUptoRow : OpenClaim := { program := "ytoefecanbmpkjaa", sum := "8eeece5a8bdaee5a1a31aaa283e4d2264873a58069eb2bcc4a7b97e5427a7203", func := "loop.example/pub-g01440/laws.FnShorthandBare", spec := "fnShorthandBare", apart := false, narrowed := true }
def FnShorthandBareUptoSaid : Prop := fnShorthandBareUptoRow.holds Try.pinned (OpenSpec.upto fnShorthandBareSpec)

/-- 'laws.FnZeros', WHERE WHAT IT READS IS OF BULK AT MOST 1048576: true; the input reads as it did. -/
def fnZerosUptoRow : OpenClaim := { program := "ytoefecanbmpkjaa", sum := "8eeece5a8bdaee5a1a31aaa283e4d2264873a58069eb2bcc4a7b97e5427a7203", func := "loop.example/pub-g01440/laws.FnZeros", spec := "fnZeros", apart := false, narrowed := true }
def FnZerosUptoSaid : Prop := fnZerosUptoRow.holds Try.pinned (OpenSpec.upto fnZerosSpec)

/-- 'laws.FnMaxChain', WHERE WHAT IT READS IS OF BULK AT MOST 1048576: true; the input reads as it did. -/
def fnMaxChainUptoRow : OpenClaim := { program := "ytoefecanbmpkjaa", sum := "8eeece5a8bdaee5a1a31aaa283e4d2264873a58069eb2bcc4a7b97e5427a7203", func := "loop.example/pub-g01440/laws.FnMaxChain", spec := "fnMaxChain", apart := false, narrowed := true }
def FnMaxChainUptoSaid : Prop := fnMaxChainUptoRow.holds Try.pinned (OpenSpec.upto fnMaxChainSpec)

/-- 'laws.FnEmptyParts', WHERE WHAT IT READS IS OF BULK AT MOST 1048576: true; the input reads as it did. -/
def fnEmptyPartsUptoRow : OpenClaim := { program := "ytoefecanbmpkjaa", sum := "8eeece5a8bdaee5a1a31aaa283e4d2264873a58069eb2bcc4a7b97e5427a7203", func := "loop.example/pub-g01440/laws.FnEmptyParts", spec := "fnEmptyParts", apart := false, narrowed := true }
def FnEmptyPartsUptoSaid : Prop := fnEmptyPartsUptoRow.holds Try.pinned (OpenSpec.upto fnEmptyPartsSpec)

/-- 'laws.FnLessOrder', WHERE WHAT IT READS IS OF BULK AT MOST 1048576: true; the input reads as it did. -/
def fnLessOrderUptoRow : OpenClaim := { program := "ytoefecanbmpkjaa", sum := "8eeece5a8bdaee5a1a31aaa283e4d2264873a58069eb2bcc4a7b97e5427a7203", func := "loop.example/pub-g01440/laws.FnLessOrder", spec := "fnLessOrder", inPlace := ["internal/bytealg.abigen_runtime_cmpstring"], apart := false, narrowed := true }
def FnLessOrderUptoSaid : Prop := fnLessOrderUptoRow.holds Try.pinned (OpenSpec.upto fnLessOrderSpec)

/-- 'laws.FnVersionRebuilt', WHERE WHAT IT READS IS OF BULK AT MOST 1048576: true; the input reads as it did. -/
def fnVersionRebuiltUptoRow : OpenClaim := { program := "ytoefecanbmpkjaa", sum := "8eeece5a8bdaee5a1a31aaa283e4d2264873a58069eb2bcc4a7b97e5427a7203", func := "loop.example/pub-g01440/laws.FnVersionRebuilt", spec := "fnVersionRebuilt", apart := false, narrowed := true }
def FnVersionRebuiltUptoSaid : Prop := fnVersionRebuiltUptoRow.holds Try.pinned (OpenSpec.upto fnVersionRebuiltSpec)

/-- 'laws.FnMaxOrder', WHERE WHAT IT READS IS OF BULK AT MOST 1048576: true; the input reads as it did. -/
def fnMaxOrderUptoRow : OpenClaim := { program := "ytoefecanbmpkjaa", sum := "8eeece5a8bdaee5a1a31aaa283e4d2264873a58069eb2bcc4a7b97e5427a7203", func := "loop.example/pub-g01440/laws.FnMaxOrder", spec := "fnMaxOrder", apart := false, narrowed := true }
def FnMaxOrderUptoSaid : Prop := fnMaxOrderUptoRow.holds Try.pinned (OpenSpec.upto fnMaxOrderSpec)

/-- 'laws.FnVersionWritten', WHERE WHAT IT READS IS OF BULK AT MOST 1048576: true; the input reads as it did. -/
def fnVersionWrittenUptoRow : OpenClaim := { program := "ytoefecanbmpkjaa", sum := "8eeece5a8bdaee5a1a31aaa283e4d2264873a58069eb2bcc4a7b97e5427a7203", func := "loop.example/pub-g01440/laws.FnVersionWritten", spec := "fnVersionWritten", apart := false, narrowed := true }
def FnVersionWrittenUptoSaid : Prop := fnVersionWrittenUptoRow.holds Try.pinned (OpenSpec.upto fnVersionWrittenSpec)

/-- 'laws.FnCanonicalTwice', WHERE WHAT IT READS IS OF BULK AT MOST 1048576: true; the input reads as it did. -/
def fnCanonicalTwiceUptoRow : OpenClaim := { program := "ytoefecanbmpkjaa", sum := "8eeece5a8bdaee5a1a31aaa283e4d2264873a58069eb2bcc4a7b97e5427a7203", func := "loop.example/pub-g01440/laws.FnCanonicalTwice", spec := "fnCanonicalTwice", apart := false, narrowed := true }
def FnCanonicalTwiceUptoSaid : Prop := fnCanonicalTwiceUptoRow.holds Try.pinned (OpenSpec.upto fnCanonicalTwiceSpec)

/-- 'laws.FnShorthand', WHERE WHAT IT READS IS OF BULK AT MOST 1048576: true; the input reads as it did. -/
def fnShorthandUptoRow : OpenClaim := { program := "ytoefecanbmpkjaa", sum := "8eeece5a8bdaee5a1a31aaa283e4d2264873a58069eb2bcc4a7b97e5427a7203", func := "loop.example/pub-g01440/laws.FnShorthand", spec := "fnShorthand", apart := false, narrowed := true }
def FnShorthandUptoSaid : Prop := fnShorthandUptoRow.holds Try.pinned (OpenSpec.upto fnShorthandSpec)

/-- 'laws.FnPartsSame', WHERE WHAT IT READS IS OF BULK AT MOST 1048576: true; the input reads as it did. -/
def fnPartsSameUptoRow : OpenClaim := { program := "ytoefecanbmpkjaa", sum := "8eeece5a8bdaee5a1a31aaa283e4d2264873a58069eb2bcc4a7b97e5427a7203", func := "loop.example/pub-g01440/laws.FnPartsSame", spec := "fnPartsSame", apart := false, narrowed := true }
def FnPartsSameUptoSaid : Prop := fnPartsSameUptoRow.holds Try.pinned (OpenSpec.upto fnPartsSameSpec)

/-- 'laws.FnPartsNested', WHERE WHAT IT READS IS OF BULK AT MOST 1048576: true; the input reads as it did. -/
def fnPartsNestedUptoRow : OpenClaim := { program := "ytoefecanbmpkjaa", sum := "8eeece5a8bdaee5a1a31aaa283e4d2264873a58069eb2bcc4a7b97e5427a7203", func := "loop.example/pub-g01440/laws.FnPartsNested", spec := "fnPartsNested", apart := false, narrowed := true }
def FnPartsNestedUptoSaid : Prop := fnPartsNestedUptoRow.holds Try.pinned (OpenSpec.upto fnPartsNestedSpec)

end Rows
end Go.Proofs.Ytoefecanbmpkjaa
