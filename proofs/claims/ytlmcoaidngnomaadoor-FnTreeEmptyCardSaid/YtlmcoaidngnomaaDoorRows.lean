/-
  NARROWER THAN 'FOR EVERY INPUT', by the rows' own cells (each row's printed sentence says how): FnRecordLong: ifaces, laid · FnRecordRoot: ifaces, laid · FnStoredMany: ifaces, laid · FnTreeEmpty: ifaces, laid · FnStoredIsFor: ifaces, laid · FnTreeStored: ifaces, laid · FnStoreBegins: ifaces, laid · FnRecordShort: ifaces, laid · FnTreeShort: ifaces, laid · FnTreeParts: ifaces, laid.
  DERIVED. THE GIVEN ROWS OF THIS SEAT. 10 by the template 'for every input the law returns true; each argument reads behind the call as it read before'; 0 by the template 'total and deterministic' (their statements: YtlmcoaidngnomaaDoorTotals.lean).
  GIVEN WITH THE SEED: the statements are not yours to turn. If you find one false, say at which input.
  Laid BY PROGRAM, IN A SANDBOX (cutbox-rows.mjs): the forced cells as the released guide's own fill.sh prints them over the translation b840d90b76fb8136… (all of the seat's roots in one cut). By AI agents, Wed Nov 11 2026. No macro, syntax, notation, axiom, sorry.
-/
import Derived.Test.YtlmcoaidngnomaaDoorChecked
import GoSem.Claim
import GoSem.ClaimJoined
import GoSem.ClaimMapViews
import Derived.JoinedTies
import Derived.KernelRfl
namespace Go.Proofs.YtlmcoaidngnomaaDoor
/- THE CELL 'sum', in the pinned program and in every row, IS THE sha256 OF THE DUMP (.gsa) THAT YtlmcoaidngnomaaDoorProg.lean LOADS. Nothing in Lean hashes anything: it is a label: what it is worth is what the hold of that sum in a sandbox is worth. -/
noncomputable def Tryd.pinned : Pinned := { name := "ytlmcoaidngnomaadoor", sum := "b840d90b76fb8136027c45a68f4586d6b38803390f0c68efed80caafbf7fdd3e", checked := Tryd.checked }
namespace Rows
def none {H : Type} : Left H := { results := [], args := [] }

/- WHAT THE LISTED PACKAGE-LEVEL VARIABLES READ AS WHEN THE CALL BEGINS. Each datum BY PROGRAM (the guide's laid-datum.mjs) off the statement by which the dump's own 'gosem.cut.vars' lays the variable. In a bare row this is a premise. The card (YtlmcoaidngnomaaDoorCards.lean) ties it to the program's text. -/
def laid_loop_example_pub_g01440_pub_tlog_errProofFailed {H : Type} : DataW H := .iface "*errors.errorString" (.ptr (.agg [.lit (.string [105, 110, 118, 97, 108, 105, 100, 32, 116, 114, 97, 110, 115, 112, 97, 114, 101, 110, 99, 121, 32, 112, 114, 111, 111, 102])]))
def laid_math_bits_deBruijn64tab {H : Type} : DataW H := .agg [.lit (.int .u8 0), .lit (.int .u8 1), .lit (.int .u8 56), .lit (.int .u8 2), .lit (.int .u8 57), .lit (.int .u8 49), .lit (.int .u8 28), .lit (.int .u8 3), .lit (.int .u8 61), .lit (.int .u8 58), .lit (.int .u8 42), .lit (.int .u8 50), .lit (.int .u8 38), .lit (.int .u8 29), .lit (.int .u8 17), .lit (.int .u8 4), .lit (.int .u8 62), .lit (.int .u8 47), .lit (.int .u8 59), .lit (.int .u8 36), .lit (.int .u8 45), .lit (.int .u8 43), .lit (.int .u8 51), .lit (.int .u8 22), .lit (.int .u8 53), .lit (.int .u8 39), .lit (.int .u8 33), .lit (.int .u8 30), .lit (.int .u8 24), .lit (.int .u8 18), .lit (.int .u8 12), .lit (.int .u8 5), .lit (.int .u8 63), .lit (.int .u8 55), .lit (.int .u8 48), .lit (.int .u8 27), .lit (.int .u8 60), .lit (.int .u8 41), .lit (.int .u8 37), .lit (.int .u8 16), .lit (.int .u8 46), .lit (.int .u8 35), .lit (.int .u8 44), .lit (.int .u8 21), .lit (.int .u8 52), .lit (.int .u8 32), .lit (.int .u8 23), .lit (.int .u8 11), .lit (.int .u8 54), .lit (.int .u8 26), .lit (.int .u8 40), .lit (.int .u8 15), .lit (.int .u8 34), .lit (.int .u8 20), .lit (.int .u8 31), .lit (.int .u8 10), .lit (.int .u8 25), .lit (.int .u8 14), .lit (.int .u8 19), .lit (.int .u8 9), .lit (.int .u8 13), .lit (.int .u8 8), .lit (.int .u8 7), .lit (.int .u8 6)]
def laid_loop_example_pub_g01440_impl_errMissing {H : Type} : DataW H := .iface "*errors.errorString" (.ptr (.agg [.lit (.string [109, 105, 115, 115, 105, 110, 103])]))
def laid_loop_example_pub_g01440_pub_tlog_emptyHash {H : Type} : DataW H := .agg [.lit (.int .u8 227), .lit (.int .u8 176), .lit (.int .u8 196), .lit (.int .u8 66), .lit (.int .u8 152), .lit (.int .u8 252), .lit (.int .u8 28), .lit (.int .u8 20), .lit (.int .u8 154), .lit (.int .u8 251), .lit (.int .u8 244), .lit (.int .u8 200), .lit (.int .u8 153), .lit (.int .u8 111), .lit (.int .u8 185), .lit (.int .u8 36), .lit (.int .u8 39), .lit (.int .u8 174), .lit (.int .u8 65), .lit (.int .u8 228), .lit (.int .u8 100), .lit (.int .u8 155), .lit (.int .u8 147), .lit (.int .u8 76), .lit (.int .u8 164), .lit (.int .u8 149), .lit (.int .u8 153), .lit (.int .u8 27), .lit (.int .u8 120), .lit (.int .u8 82), .lit (.int .u8 184), .lit (.int .u8 85)]

/-- 'laws.FnRecordLong': WHATEVER THE INPUT: true; the input reads as it did. -/
def fnRecordLongSpec : ChangeSpec := { name := "fnRecordLong", vars := ["loop.example/pub-g01440/pub/tlog.errProofFailed"], fn := fun _ => fun
  | [d1, d2, d3, d4, d5, d6, g1] => { results := [.lit (.bool true)], args := [d1, d2, d3, d4, d5, d6], vars := [g1] }
  | _ => none }
def fnRecordLongRow : OpenClaim := { program := "ytlmcoaidngnomaadoor", sum := "b840d90b76fb8136027c45a68f4586d6b38803390f0c68efed80caafbf7fdd3e", func := "loop.example/pub-g01440/laws.FnRecordLong", spec := "fnRecordLong", unfollowed := true, recurses := true, named := ["loop.example/pub-g01440/pub/tlog.errProofFailed"], ifaces := true, apart := false, laid := [("loop.example/pub-g01440/pub/tlog.errProofFailed", laid_loop_example_pub_g01440_pub_tlog_errProofFailed)] }
def FnRecordLongSaid : Prop := fnRecordLongRow.holds Tryd.pinned (OpenSpec.ofChange fnRecordLongSpec)

/-- ITS FALSE NEIGHBOUR: 'it returns false'. Refute it at one input. -/
def fnRecordLongWrong : ChangeSpec := { name := "fnRecordLong", vars := ["loop.example/pub-g01440/pub/tlog.errProofFailed"], fn := fun _ => fun
  | [d1, d2, d3, d4, d5, d6, g1] => { results := [.lit (.bool false)], args := [d1, d2, d3, d4, d5, d6], vars := [g1] }
  | _ => none }
def FnRecordLongWrongFalsely : Prop := fnRecordLongRow.holds Tryd.pinned (OpenSpec.ofChange fnRecordLongWrong)

/-- 'laws.FnRecordRoot': WHATEVER THE INPUT: true; the input reads as it did. -/
def fnRecordRootSpec : ChangeSpec := { name := "fnRecordRoot", vars := ["loop.example/pub-g01440/pub/tlog.errProofFailed"], fn := fun _ => fun
  | [d1, d2, d3, d4, d5, d6, g1] => { results := [.lit (.bool true)], args := [d1, d2, d3, d4, d5, d6], vars := [g1] }
  | _ => none }
def fnRecordRootRow : OpenClaim := { program := "ytlmcoaidngnomaadoor", sum := "b840d90b76fb8136027c45a68f4586d6b38803390f0c68efed80caafbf7fdd3e", func := "loop.example/pub-g01440/laws.FnRecordRoot", spec := "fnRecordRoot", unfollowed := true, recurses := true, named := ["loop.example/pub-g01440/pub/tlog.errProofFailed"], ifaces := true, apart := false, laid := [("loop.example/pub-g01440/pub/tlog.errProofFailed", laid_loop_example_pub_g01440_pub_tlog_errProofFailed)] }
def FnRecordRootSaid : Prop := fnRecordRootRow.holds Tryd.pinned (OpenSpec.ofChange fnRecordRootSpec)

/-- ITS FALSE NEIGHBOUR: 'it returns false'. Refute it at one input. -/
def fnRecordRootWrong : ChangeSpec := { name := "fnRecordRoot", vars := ["loop.example/pub-g01440/pub/tlog.errProofFailed"], fn := fun _ => fun
  | [d1, d2, d3, d4, d5, d6, g1] => { results := [.lit (.bool false)], args := [d1, d2, d3, d4, d5, d6], vars := [g1] }
  | _ => none }
def FnRecordRootWrongFalsely : Prop := fnRecordRootRow.holds Tryd.pinned (OpenSpec.ofChange fnRecordRootWrong)

/-- 'laws.FnStoredMany': WHATEVER THE INPUT: true; the input reads as it did. -/
def fnStoredManySpec : ChangeSpec := { name := "fnStoredMany", vars := ["loop.example/pub-g01440/impl.errMissing"], fn := fun _ => fun
  | [d1, d2, d3, g1] => { results := [.lit (.bool true)], args := [d1, d2, d3], vars := [g1] }
  | _ => none }
def fnStoredManyRow : OpenClaim := { program := "ytlmcoaidngnomaadoor", sum := "b840d90b76fb8136027c45a68f4586d6b38803390f0c68efed80caafbf7fdd3e", func := "loop.example/pub-g01440/laws.FnStoredMany", spec := "fnStoredMany", unfollowed := true, recurses := true, named := ["loop.example/pub-g01440/impl.errMissing", "math/bits.deBruijn64tab"], ifaces := true, apart := false, laid := [("math/bits.deBruijn64tab", laid_math_bits_deBruijn64tab), ("loop.example/pub-g01440/impl.errMissing", laid_loop_example_pub_g01440_impl_errMissing)] }
def FnStoredManySaid : Prop := fnStoredManyRow.holds Tryd.pinned (OpenSpec.ofChange fnStoredManySpec)

/-- ITS FALSE NEIGHBOUR: 'it returns false'. Refute it at one input. -/
def fnStoredManyWrong : ChangeSpec := { name := "fnStoredMany", vars := ["loop.example/pub-g01440/impl.errMissing"], fn := fun _ => fun
  | [d1, d2, d3, g1] => { results := [.lit (.bool false)], args := [d1, d2, d3], vars := [g1] }
  | _ => none }
def FnStoredManyWrongFalsely : Prop := fnStoredManyRow.holds Tryd.pinned (OpenSpec.ofChange fnStoredManyWrong)

/-- 'laws.FnTreeEmpty': WHATEVER THE INPUT: true; the input reads as it did. -/
def fnTreeEmptySpec : ChangeSpec := { name := "fnTreeEmpty", vars := ["loop.example/pub-g01440/impl.errMissing", "loop.example/pub-g01440/pub/tlog.emptyHash"], fn := fun _ => fun
  | [d, g1, g2] => { results := [.lit (.bool true)], args := [d], vars := [g1, g2] }
  | _ => none }
def fnTreeEmptyRow : OpenClaim := { program := "ytlmcoaidngnomaadoor", sum := "b840d90b76fb8136027c45a68f4586d6b38803390f0c68efed80caafbf7fdd3e", func := "loop.example/pub-g01440/laws.FnTreeEmpty", spec := "fnTreeEmpty", unfollowed := true, recurses := true, named := ["loop.example/pub-g01440/impl.errMissing", "loop.example/pub-g01440/pub/tlog.emptyHash"], ifaces := true, apart := false, laid := [("loop.example/pub-g01440/pub/tlog.emptyHash", laid_loop_example_pub_g01440_pub_tlog_emptyHash), ("loop.example/pub-g01440/impl.errMissing", laid_loop_example_pub_g01440_impl_errMissing)] }
def FnTreeEmptySaid : Prop := fnTreeEmptyRow.holds Tryd.pinned (OpenSpec.ofChange fnTreeEmptySpec)

/-- ITS FALSE NEIGHBOUR: 'it returns false'. Refute it at one input. -/
def fnTreeEmptyWrong : ChangeSpec := { name := "fnTreeEmpty", vars := ["loop.example/pub-g01440/impl.errMissing", "loop.example/pub-g01440/pub/tlog.emptyHash"], fn := fun _ => fun
  | [d, g1, g2] => { results := [.lit (.bool false)], args := [d], vars := [g1, g2] }
  | _ => none }
def FnTreeEmptyWrongFalsely : Prop := fnTreeEmptyRow.holds Tryd.pinned (OpenSpec.ofChange fnTreeEmptyWrong)

/-- 'laws.FnStoredIsFor': WHATEVER THE INPUT: true; the input reads as it did. -/
def fnStoredIsForSpec : ChangeSpec := { name := "fnStoredIsFor", vars := ["loop.example/pub-g01440/impl.errMissing"], fn := fun _ => fun
  | [d1, d2, d3, g1] => { results := [.lit (.bool true)], args := [d1, d2, d3], vars := [g1] }
  | _ => none }
def fnStoredIsForRow : OpenClaim := { program := "ytlmcoaidngnomaadoor", sum := "b840d90b76fb8136027c45a68f4586d6b38803390f0c68efed80caafbf7fdd3e", func := "loop.example/pub-g01440/laws.FnStoredIsFor", spec := "fnStoredIsFor", unfollowed := true, recurses := true, named := ["loop.example/pub-g01440/impl.errMissing", "math/bits.deBruijn64tab"], ifaces := true, apart := false, laid := [("math/bits.deBruijn64tab", laid_math_bits_deBruijn64tab), ("loop.example/pub-g01440/impl.errMissing", laid_loop_example_pub_g01440_impl_errMissing)] }
def FnStoredIsForSaid : Prop := fnStoredIsForRow.holds Tryd.pinned (OpenSpec.ofChange fnStoredIsForSpec)

/-- ITS FALSE NEIGHBOUR: 'it returns false'. Refute it at one input. -/
def fnStoredIsForWrong : ChangeSpec := { name := "fnStoredIsFor", vars := ["loop.example/pub-g01440/impl.errMissing"], fn := fun _ => fun
  | [d1, d2, d3, g1] => { results := [.lit (.bool false)], args := [d1, d2, d3], vars := [g1] }
  | _ => none }
def FnStoredIsForWrongFalsely : Prop := fnStoredIsForRow.holds Tryd.pinned (OpenSpec.ofChange fnStoredIsForWrong)

/-- 'laws.FnTreeStored': WHATEVER THE INPUT: true; the input reads as it did. -/
def fnTreeStoredSpec : ChangeSpec := { name := "fnTreeStored", vars := ["loop.example/pub-g01440/impl.errMissing", "loop.example/pub-g01440/pub/tlog.emptyHash"], fn := fun _ => fun
  | [d1, d2, g1, g2] => { results := [.lit (.bool true)], args := [d1, d2], vars := [g1, g2] }
  | _ => none }
def fnTreeStoredRow : OpenClaim := { program := "ytlmcoaidngnomaadoor", sum := "b840d90b76fb8136027c45a68f4586d6b38803390f0c68efed80caafbf7fdd3e", func := "loop.example/pub-g01440/laws.FnTreeStored", spec := "fnTreeStored", unfollowed := true, recurses := true, named := ["loop.example/pub-g01440/impl.errMissing", "loop.example/pub-g01440/pub/tlog.emptyHash"], ifaces := true, apart := false, laid := [("loop.example/pub-g01440/pub/tlog.emptyHash", laid_loop_example_pub_g01440_pub_tlog_emptyHash), ("loop.example/pub-g01440/impl.errMissing", laid_loop_example_pub_g01440_impl_errMissing)] }
def FnTreeStoredSaid : Prop := fnTreeStoredRow.holds Tryd.pinned (OpenSpec.ofChange fnTreeStoredSpec)

/-- ITS FALSE NEIGHBOUR: 'it returns false'. Refute it at one input. -/
def fnTreeStoredWrong : ChangeSpec := { name := "fnTreeStored", vars := ["loop.example/pub-g01440/impl.errMissing", "loop.example/pub-g01440/pub/tlog.emptyHash"], fn := fun _ => fun
  | [d1, d2, g1, g2] => { results := [.lit (.bool false)], args := [d1, d2], vars := [g1, g2] }
  | _ => none }
def FnTreeStoredWrongFalsely : Prop := fnTreeStoredRow.holds Tryd.pinned (OpenSpec.ofChange fnTreeStoredWrong)

/-- 'laws.FnStoreBegins': WHATEVER THE INPUT: true; the input reads as it did. -/
def fnStoreBeginsSpec : ChangeSpec := { name := "fnStoreBegins", vars := ["loop.example/pub-g01440/impl.errMissing"], fn := fun _ => fun
  | [d1, d2, g1] => { results := [.lit (.bool true)], args := [d1, d2], vars := [g1] }
  | _ => none }
def fnStoreBeginsRow : OpenClaim := { program := "ytlmcoaidngnomaadoor", sum := "b840d90b76fb8136027c45a68f4586d6b38803390f0c68efed80caafbf7fdd3e", func := "loop.example/pub-g01440/laws.FnStoreBegins", spec := "fnStoreBegins", unfollowed := true, recurses := true, named := ["loop.example/pub-g01440/impl.errMissing", "math/bits.deBruijn64tab"], ifaces := true, apart := false, laid := [("math/bits.deBruijn64tab", laid_math_bits_deBruijn64tab), ("loop.example/pub-g01440/impl.errMissing", laid_loop_example_pub_g01440_impl_errMissing)] }
def FnStoreBeginsSaid : Prop := fnStoreBeginsRow.holds Tryd.pinned (OpenSpec.ofChange fnStoreBeginsSpec)

/-- ITS FALSE NEIGHBOUR: 'it returns false'. Refute it at one input. -/
def fnStoreBeginsWrong : ChangeSpec := { name := "fnStoreBegins", vars := ["loop.example/pub-g01440/impl.errMissing"], fn := fun _ => fun
  | [d1, d2, g1] => { results := [.lit (.bool false)], args := [d1, d2], vars := [g1] }
  | _ => none }
def FnStoreBeginsWrongFalsely : Prop := fnStoreBeginsRow.holds Tryd.pinned (OpenSpec.ofChange fnStoreBeginsWrong)

/-- 'laws.FnRecordShort': WHATEVER THE INPUT: true; the input reads as it did. -/
def fnRecordShortSpec : ChangeSpec := { name := "fnRecordShort", vars := ["loop.example/pub-g01440/impl.errMissing"], fn := fun _ => fun
  | [d1, d2, d3, g1] => { results := [.lit (.bool true)], args := [d1, d2, d3], vars := [g1] }
  | _ => none }
def fnRecordShortRow : OpenClaim := { program := "ytlmcoaidngnomaadoor", sum := "b840d90b76fb8136027c45a68f4586d6b38803390f0c68efed80caafbf7fdd3e", func := "loop.example/pub-g01440/laws.FnRecordShort", spec := "fnRecordShort", unfollowed := true, recurses := true, named := ["loop.example/pub-g01440/impl.errMissing"], ifaces := true, apart := false, laid := [("loop.example/pub-g01440/impl.errMissing", laid_loop_example_pub_g01440_impl_errMissing)] }
def FnRecordShortSaid : Prop := fnRecordShortRow.holds Tryd.pinned (OpenSpec.ofChange fnRecordShortSpec)

/-- ITS FALSE NEIGHBOUR: 'it returns false'. Refute it at one input. -/
def fnRecordShortWrong : ChangeSpec := { name := "fnRecordShort", vars := ["loop.example/pub-g01440/impl.errMissing"], fn := fun _ => fun
  | [d1, d2, d3, g1] => { results := [.lit (.bool false)], args := [d1, d2, d3], vars := [g1] }
  | _ => none }
def FnRecordShortWrongFalsely : Prop := fnRecordShortRow.holds Tryd.pinned (OpenSpec.ofChange fnRecordShortWrong)

/-- 'laws.FnTreeShort': WHATEVER THE INPUT: true; the input reads as it did. -/
def fnTreeShortSpec : ChangeSpec := { name := "fnTreeShort", vars := ["loop.example/pub-g01440/impl.errMissing"], fn := fun _ => fun
  | [d1, d2, d3, g1] => { results := [.lit (.bool true)], args := [d1, d2, d3], vars := [g1] }
  | _ => none }
def fnTreeShortRow : OpenClaim := { program := "ytlmcoaidngnomaadoor", sum := "b840d90b76fb8136027c45a68f4586d6b38803390f0c68efed80caafbf7fdd3e", func := "loop.example/pub-g01440/laws.FnTreeShort", spec := "fnTreeShort", unfollowed := true, recurses := true, named := ["loop.example/pub-g01440/impl.errMissing"], ifaces := true, apart := false, laid := [("loop.example/pub-g01440/impl.errMissing", laid_loop_example_pub_g01440_impl_errMissing)] }
def FnTreeShortSaid : Prop := fnTreeShortRow.holds Tryd.pinned (OpenSpec.ofChange fnTreeShortSpec)

/-- ITS FALSE NEIGHBOUR: 'it returns false'. Refute it at one input. -/
def fnTreeShortWrong : ChangeSpec := { name := "fnTreeShort", vars := ["loop.example/pub-g01440/impl.errMissing"], fn := fun _ => fun
  | [d1, d2, d3, g1] => { results := [.lit (.bool false)], args := [d1, d2, d3], vars := [g1] }
  | _ => none }
def FnTreeShortWrongFalsely : Prop := fnTreeShortRow.holds Tryd.pinned (OpenSpec.ofChange fnTreeShortWrong)

/-- 'laws.FnTreeParts': WHATEVER THE INPUT: true; the input reads as it did. -/
def fnTreePartsSpec : ChangeSpec := { name := "fnTreeParts", vars := ["loop.example/pub-g01440/impl.errMissing", "loop.example/pub-g01440/pub/tlog.emptyHash"], fn := fun _ => fun
  | [d, g1, g2] => { results := [.lit (.bool true)], args := [d], vars := [g1, g2] }
  | _ => none }
def fnTreePartsRow : OpenClaim := { program := "ytlmcoaidngnomaadoor", sum := "b840d90b76fb8136027c45a68f4586d6b38803390f0c68efed80caafbf7fdd3e", func := "loop.example/pub-g01440/laws.FnTreeParts", spec := "fnTreeParts", unfollowed := true, recurses := true, named := ["loop.example/pub-g01440/impl.errMissing", "math/bits.deBruijn64tab", "loop.example/pub-g01440/pub/tlog.emptyHash"], ifaces := true, apart := false, laid := [("math/bits.deBruijn64tab", laid_math_bits_deBruijn64tab), ("loop.example/pub-g01440/pub/tlog.emptyHash", laid_loop_example_pub_g01440_pub_tlog_emptyHash), ("loop.example/pub-g01440/impl.errMissing", laid_loop_example_pub_g01440_impl_errMissing)] }
def FnTreePartsSaid : Prop := fnTreePartsRow.holds Tryd.pinned (OpenSpec.ofChange fnTreePartsSpec)

/-- ITS FALSE NEIGHBOUR: 'it returns false'. Refute it at one input. -/
def fnTreePartsWrong : ChangeSpec := { name := "fnTreeParts", vars := ["loop.example/pub-g01440/impl.errMissing", "loop.example/pub-g01440/pub/tlog.emptyHash"], fn := fun _ => fun
  | [d, g1, g2] => { results := [.lit (.bool false)], args := [d], vars := [g1, g2] }
  | _ => none }
def FnTreePartsWrongFalsely : Prop := fnTreePartsRow.holds Tryd.pinned (OpenSpec.ofChange fnTreePartsWrong)

/- THE SECOND FORM. 'bulk': how many values and letters a reading holds, each counted each time it is reached (what is shared counts as often as it is met; a slice's spare places count too). A statement '..UptoSaid' is the law's where the arguments, and the package variables that the reading takes, are together of bulk at most 1048576: NARROWER than '..Said'. Prove '..Said' where nothing that the law and all that it calls make is longer than what came in: it says more and counts as full. Else prove '..UptoSaid'. A law counts once. -/
mutual
def uptoBulk {H : Type} : DataW H → Nat
  | .lit (.string bytes) => bytes.length + 1
  | .lit _ => 1
  | .nil => 1
  | .ptr d => uptoBulk d + 1
  | .slice elems spare => uptoBulkAll elems + uptoBulkAll spare + 1
  | .agg parts => uptoBulkAll parts + 1
  | .iface _ d => uptoBulk d + 1
  | .map entries => uptoBulkEntries entries + 1
  | .held _ => 1
def uptoBulkAll {H : Type} : List (DataW H) → Nat
  | [] => 0
  | d :: r => uptoBulk d + uptoBulkAll r
def uptoBulkEntries {H : Type} : List (Lit × DataW H) → Nat
  | [] => 0
  | x :: r => uptoBulkEntry x + uptoBulkEntries r
def uptoBulkEntry {H : Type} : Lit × DataW H → Nat
  | (.string bytes, d) => bytes.length + uptoBulk d + 1
  | (_, d) => uptoBulk d + 1
 end
def uptoSmall : (H : Type) → List (DataW H) → Bool := fun _ ds => decide (uptoBulkAll ds ≤ 1048576)
def OpenSpec.upto (s : _root_.Go.ChangeSpec) : _root_.Go.OpenSpec := { _root_.Go.OpenSpec.ofChange s with cond := some uptoSmall }

/-- 'laws.FnRecordLong', WHERE WHAT IT READS IS OF BULK AT MOST 1048576: true; the input reads as it did. -/
def fnRecordLongUptoRow : OpenClaim := { program := "ytlmcoaidngnomaadoor", sum := "b840d90b76fb8136027c45a68f4586d6b38803390f0c68efed80caafbf7fdd3e", func := "loop.example/pub-g01440/laws.FnRecordLong", spec := "fnRecordLong", unfollowed := true, recurses := true, named := ["loop.example/pub-g01440/pub/tlog.errProofFailed"], ifaces := true, apart := false, laid := [("loop.example/pub-g01440/pub/tlog.errProofFailed", laid_loop_example_pub_g01440_pub_tlog_errProofFailed)], narrowed := true }
def FnRecordLongUptoSaid : Prop := fnRecordLongUptoRow.holds Tryd.pinned (OpenSpec.upto fnRecordLongSpec)

/-- 'laws.FnRecordRoot', WHERE WHAT IT READS IS OF BULK AT MOST 1048576: true; the input reads as it did. -/
def fnRecordRootUptoRow : OpenClaim := { program := "ytlmcoaidngnomaadoor", sum := "b840d90b76fb8136027c45a68f4586d6b38803390f0c68efed80caafbf7fdd3e", func := "loop.example/pub-g01440/laws.FnRecordRoot", spec := "fnRecordRoot", unfollowed := true, recurses := true, named := ["loop.example/pub-g01440/pub/tlog.errProofFailed"], ifaces := true, apart := false, laid := [("loop.example/pub-g01440/pub/tlog.errProofFailed", laid_loop_example_pub_g01440_pub_tlog_errProofFailed)], narrowed := true }
def FnRecordRootUptoSaid : Prop := fnRecordRootUptoRow.holds Tryd.pinned (OpenSpec.upto fnRecordRootSpec)

/-- 'laws.FnStoredMany', WHERE WHAT IT READS IS OF BULK AT MOST 1048576: true; the input reads as it did. -/
def fnStoredManyUptoRow : OpenClaim := { program := "ytlmcoaidngnomaadoor", sum := "b840d90b76fb8136027c45a68f4586d6b38803390f0c68efed80caafbf7fdd3e", func := "loop.example/pub-g01440/laws.FnStoredMany", spec := "fnStoredMany", unfollowed := true, recurses := true, named := ["loop.example/pub-g01440/impl.errMissing", "math/bits.deBruijn64tab"], ifaces := true, apart := false, laid := [("math/bits.deBruijn64tab", laid_math_bits_deBruijn64tab), ("loop.example/pub-g01440/impl.errMissing", laid_loop_example_pub_g01440_impl_errMissing)], narrowed := true }
def FnStoredManyUptoSaid : Prop := fnStoredManyUptoRow.holds Tryd.pinned (OpenSpec.upto fnStoredManySpec)

/-- 'laws.FnTreeEmpty', WHERE WHAT IT READS IS OF BULK AT MOST 1048576: true; the input reads as it did. -/
def fnTreeEmptyUptoRow : OpenClaim := { program := "ytlmcoaidngnomaadoor", sum := "b840d90b76fb8136027c45a68f4586d6b38803390f0c68efed80caafbf7fdd3e", func := "loop.example/pub-g01440/laws.FnTreeEmpty", spec := "fnTreeEmpty", unfollowed := true, recurses := true, named := ["loop.example/pub-g01440/impl.errMissing", "loop.example/pub-g01440/pub/tlog.emptyHash"], ifaces := true, apart := false, laid := [("loop.example/pub-g01440/pub/tlog.emptyHash", laid_loop_example_pub_g01440_pub_tlog_emptyHash), ("loop.example/pub-g01440/impl.errMissing", laid_loop_example_pub_g01440_impl_errMissing)], narrowed := true }
def FnTreeEmptyUptoSaid : Prop := fnTreeEmptyUptoRow.holds Tryd.pinned (OpenSpec.upto fnTreeEmptySpec)

/-- 'laws.FnStoredIsFor', WHERE WHAT IT READS IS OF BULK AT MOST 1048576: true; the input reads as it did. -/
def fnStoredIsForUptoRow : OpenClaim := { program := "ytlmcoaidngnomaadoor", sum := "b840d90b76fb8136027c45a68f4586d6b38803390f0c68efed80caafbf7fdd3e", func := "loop.example/pub-g01440/laws.FnStoredIsFor", spec := "fnStoredIsFor", unfollowed := true, recurses := true, named := ["loop.example/pub-g01440/impl.errMissing", "math/bits.deBruijn64tab"], ifaces := true, apart := false, laid := [("math/bits.deBruijn64tab", laid_math_bits_deBruijn64tab), ("loop.example/pub-g01440/impl.errMissing", laid_loop_example_pub_g01440_impl_errMissing)], narrowed := true }
def FnStoredIsForUptoSaid : Prop := fnStoredIsForUptoRow.holds Tryd.pinned (OpenSpec.upto fnStoredIsForSpec)

/-- 'laws.FnTreeStored', WHERE WHAT IT READS IS OF BULK AT MOST 1048576: true; the input reads as it did. -/
def fnTreeStoredUptoRow : OpenClaim := { program := "ytlmcoaidngnomaadoor", sum := "b840d90b76fb8136027c45a68f4586d6b38803390f0c68efed80caafbf7fdd3e", func := "loop.example/pub-g01440/laws.FnTreeStored", spec := "fnTreeStored", unfollowed := true, recurses := true, named := ["loop.example/pub-g01440/impl.errMissing", "loop.example/pub-g01440/pub/tlog.emptyHash"], ifaces := true, apart := false, laid := [("loop.example/pub-g01440/pub/tlog.emptyHash", laid_loop_example_pub_g01440_pub_tlog_emptyHash), ("loop.example/pub-g01440/impl.errMissing", laid_loop_example_pub_g01440_impl_errMissing)], narrowed := true }
def FnTreeStoredUptoSaid : Prop := fnTreeStoredUptoRow.holds Tryd.pinned (OpenSpec.upto fnTreeStoredSpec)

/-- 'laws.FnStoreBegins', WHERE WHAT IT READS IS OF BULK AT MOST 1048576: true; the input reads as it did. -/
def fnStoreBeginsUptoRow : OpenClaim := { program := "ytlmcoaidngnomaadoor", sum := "b840d90b76fb8136027c45a68f4586d6b38803390f0c68efed80caafbf7fdd3e", func := "loop.example/pub-g01440/laws.FnStoreBegins", spec := "fnStoreBegins", unfollowed := true, recurses := true, named := ["loop.example/pub-g01440/impl.errMissing", "math/bits.deBruijn64tab"], ifaces := true, apart := false, laid := [("math/bits.deBruijn64tab", laid_math_bits_deBruijn64tab), ("loop.example/pub-g01440/impl.errMissing", laid_loop_example_pub_g01440_impl_errMissing)], narrowed := true }
def FnStoreBeginsUptoSaid : Prop := fnStoreBeginsUptoRow.holds Tryd.pinned (OpenSpec.upto fnStoreBeginsSpec)

/-- 'laws.FnRecordShort', WHERE WHAT IT READS IS OF BULK AT MOST 1048576: true; the input reads as it did. -/
def fnRecordShortUptoRow : OpenClaim := { program := "ytlmcoaidngnomaadoor", sum := "b840d90b76fb8136027c45a68f4586d6b38803390f0c68efed80caafbf7fdd3e", func := "loop.example/pub-g01440/laws.FnRecordShort", spec := "fnRecordShort", unfollowed := true, recurses := true, named := ["loop.example/pub-g01440/impl.errMissing"], ifaces := true, apart := false, laid := [("loop.example/pub-g01440/impl.errMissing", laid_loop_example_pub_g01440_impl_errMissing)], narrowed := true }
def FnRecordShortUptoSaid : Prop := fnRecordShortUptoRow.holds Tryd.pinned (OpenSpec.upto fnRecordShortSpec)

/-- 'laws.FnTreeShort', WHERE WHAT IT READS IS OF BULK AT MOST 1048576: true; the input reads as it did. -/
def fnTreeShortUptoRow : OpenClaim := { program := "ytlmcoaidngnomaadoor", sum := "b840d90b76fb8136027c45a68f4586d6b38803390f0c68efed80caafbf7fdd3e", func := "loop.example/pub-g01440/laws.FnTreeShort", spec := "fnTreeShort", unfollowed := true, recurses := true, named := ["loop.example/pub-g01440/impl.errMissing"], ifaces := true, apart := false, laid := [("loop.example/pub-g01440/impl.errMissing", laid_loop_example_pub_g01440_impl_errMissing)], narrowed := true }
def FnTreeShortUptoSaid : Prop := fnTreeShortUptoRow.holds Tryd.pinned (OpenSpec.upto fnTreeShortSpec)

/-- 'laws.FnTreeParts', WHERE WHAT IT READS IS OF BULK AT MOST 1048576: true; the input reads as it did. -/
def fnTreePartsUptoRow : OpenClaim := { program := "ytlmcoaidngnomaadoor", sum := "b840d90b76fb8136027c45a68f4586d6b38803390f0c68efed80caafbf7fdd3e", func := "loop.example/pub-g01440/laws.FnTreeParts", spec := "fnTreeParts", unfollowed := true, recurses := true, named := ["loop.example/pub-g01440/impl.errMissing", "math/bits.deBruijn64tab", "loop.example/pub-g01440/pub/tlog.emptyHash"], ifaces := true, apart := false, laid := [("math/bits.deBruijn64tab", laid_math_bits_deBruijn64tab), ("loop.example/pub-g01440/pub/tlog.emptyHash", laid_loop_example_pub_g01440_pub_tlog_emptyHash), ("loop.example/pub-g01440/impl.errMissing", laid_loop_example_pub_g01440_impl_errMissing)], narrowed := true }
def FnTreePartsUptoSaid : Prop := fnTreePartsUptoRow.holds Tryd.pinned (OpenSpec.upto fnTreePartsSpec)

end Rows
end Go.Proofs.YtlmcoaidngnomaaDoor
