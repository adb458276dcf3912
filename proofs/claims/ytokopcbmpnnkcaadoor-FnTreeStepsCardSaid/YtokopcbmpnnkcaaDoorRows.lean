/-
  NARROWER THAN 'FOR EVERY INPUT', by the rows' own cells (each row's printed sentence says how): FnRecordNone: ifaces, laid · FnTreeNone: ifaces, laid · FnTreeSelf: ifaces, laid · FnRecordPath: ifaces, laid · FnTreePath: ifaces, laid · FnRecordProved: ifaces, laid · FnTreeProved: ifaces, laid · FnTreeSteps: ifaces, laid.
  DERIVED. THE GIVEN ROWS OF THIS SEAT. 8 by the template 'for every input the law returns true; each argument reads behind the call as it read before'; 0 by the template 'total and deterministic' (their statements: YtokopcbmpnnkcaaDoorTotals.lean).
  GIVEN WITH THE SEED: the statements are not yours to turn. If you find one false, say at which input.
  Laid BY PROGRAM, IN A SANDBOX (cutbox-rows.mjs): the forced cells as the released guide's own fill.sh prints them over the translation 66fb1dbf76fc220e… (all of the seat's roots in one cut). By AI agents, Wed Nov 11 2026. No macro, syntax, notation, axiom, sorry.
-/
import Derived.Test.YtokopcbmpnnkcaaDoorChecked
import GoSem.Claim
import GoSem.ClaimJoined
import GoSem.ClaimMapViews
import Derived.JoinedTies
import Derived.KernelRfl
namespace Go.Proofs.YtokopcbmpnnkcaaDoor
/- THE CELL 'sum', in the pinned program and in every row, IS THE sha256 OF THE DUMP (.gsa) THAT YtokopcbmpnnkcaaDoorProg.lean LOADS. Nothing in Lean hashes anything: it is a label: what it is worth is what the hold of that sum in a sandbox is worth. -/
noncomputable def Tryd.pinned : Pinned := { name := "ytokopcbmpnnkcaadoor", sum := "66fb1dbf76fc220eaf9f33191e6a134bda2d17c325e764a6e9b87d39bfa26ff1", checked := Tryd.checked }
namespace Rows
def none {H : Type} : Left H := { results := [], args := [] }

/- WHAT THE LISTED PACKAGE-LEVEL VARIABLES READ AS WHEN THE CALL BEGINS. Each datum BY PROGRAM (the guide's laid-datum.mjs) off the statement by which the dump's own 'gosem.cut.vars' lays the variable. In a bare row this is a premise. The card (YtokopcbmpnnkcaaDoorCards.lean) ties it to the program's text. -/
def laid_loop_example_pub_g01440_pub_tlog_errProofFailed {H : Type} : DataW H := .iface "*errors.errorString" (.ptr (.agg [.lit (.string [105, 110, 118, 97, 108, 105, 100, 32, 116, 114, 97, 110, 115, 112, 97, 114, 101, 110, 99, 121, 32, 112, 114, 111, 111, 102])]))
def laid_loop_example_pub_g01440_impl_errMissing {H : Type} : DataW H := .iface "*errors.errorString" (.ptr (.agg [.lit (.string [109, 105, 115, 115, 105, 110, 103])]))
def laid_math_bits_deBruijn64tab {H : Type} : DataW H := .agg [.lit (.int .u8 0), .lit (.int .u8 1), .lit (.int .u8 56), .lit (.int .u8 2), .lit (.int .u8 57), .lit (.int .u8 49), .lit (.int .u8 28), .lit (.int .u8 3), .lit (.int .u8 61), .lit (.int .u8 58), .lit (.int .u8 42), .lit (.int .u8 50), .lit (.int .u8 38), .lit (.int .u8 29), .lit (.int .u8 17), .lit (.int .u8 4), .lit (.int .u8 62), .lit (.int .u8 47), .lit (.int .u8 59), .lit (.int .u8 36), .lit (.int .u8 45), .lit (.int .u8 43), .lit (.int .u8 51), .lit (.int .u8 22), .lit (.int .u8 53), .lit (.int .u8 39), .lit (.int .u8 33), .lit (.int .u8 30), .lit (.int .u8 24), .lit (.int .u8 18), .lit (.int .u8 12), .lit (.int .u8 5), .lit (.int .u8 63), .lit (.int .u8 55), .lit (.int .u8 48), .lit (.int .u8 27), .lit (.int .u8 60), .lit (.int .u8 41), .lit (.int .u8 37), .lit (.int .u8 16), .lit (.int .u8 46), .lit (.int .u8 35), .lit (.int .u8 44), .lit (.int .u8 21), .lit (.int .u8 52), .lit (.int .u8 32), .lit (.int .u8 23), .lit (.int .u8 11), .lit (.int .u8 54), .lit (.int .u8 26), .lit (.int .u8 40), .lit (.int .u8 15), .lit (.int .u8 34), .lit (.int .u8 20), .lit (.int .u8 31), .lit (.int .u8 10), .lit (.int .u8 25), .lit (.int .u8 14), .lit (.int .u8 19), .lit (.int .u8 9), .lit (.int .u8 13), .lit (.int .u8 8), .lit (.int .u8 7), .lit (.int .u8 6)]
def laid_loop_example_pub_g01440_pub_tlog_emptyHash {H : Type} : DataW H := .agg [.lit (.int .u8 227), .lit (.int .u8 176), .lit (.int .u8 196), .lit (.int .u8 66), .lit (.int .u8 152), .lit (.int .u8 252), .lit (.int .u8 28), .lit (.int .u8 20), .lit (.int .u8 154), .lit (.int .u8 251), .lit (.int .u8 244), .lit (.int .u8 200), .lit (.int .u8 153), .lit (.int .u8 111), .lit (.int .u8 185), .lit (.int .u8 36), .lit (.int .u8 39), .lit (.int .u8 174), .lit (.int .u8 65), .lit (.int .u8 228), .lit (.int .u8 100), .lit (.int .u8 155), .lit (.int .u8 147), .lit (.int .u8 76), .lit (.int .u8 164), .lit (.int .u8 149), .lit (.int .u8 153), .lit (.int .u8 27), .lit (.int .u8 120), .lit (.int .u8 82), .lit (.int .u8 184), .lit (.int .u8 85)]

/-- 'laws.FnRecordNone': WHATEVER THE INPUT: true; the input reads as it did. -/
def fnRecordNoneSpec : ChangeSpec := { name := "fnRecordNone", vars := ["loop.example/pub-g01440/impl.errMissing", "loop.example/pub-g01440/pub/tlog.errProofFailed"], fn := fun _ => fun
  | [d1, d2, d3, d4, d5, g1, g2] => { results := [.lit (.bool true)], args := [d1, d2, d3, d4, d5], vars := [g1, g2] }
  | _ => none }
def fnRecordNoneRow : OpenClaim := { program := "ytokopcbmpnnkcaadoor", sum := "66fb1dbf76fc220eaf9f33191e6a134bda2d17c325e764a6e9b87d39bfa26ff1", func := "loop.example/pub-g01440/laws.FnRecordNone", spec := "fnRecordNone", unfollowed := true, recurses := true, named := ["loop.example/pub-g01440/impl.errMissing", "loop.example/pub-g01440/pub/tlog.errProofFailed"], ifaces := true, apart := false, laid := [("loop.example/pub-g01440/pub/tlog.errProofFailed", laid_loop_example_pub_g01440_pub_tlog_errProofFailed), ("loop.example/pub-g01440/impl.errMissing", laid_loop_example_pub_g01440_impl_errMissing)] }
def FnRecordNoneSaid : Prop := fnRecordNoneRow.holds Tryd.pinned (OpenSpec.ofChange fnRecordNoneSpec)

/-- ITS FALSE NEIGHBOUR: 'it returns false'. Refute it at one input. -/
def fnRecordNoneWrong : ChangeSpec := { name := "fnRecordNone", vars := ["loop.example/pub-g01440/impl.errMissing", "loop.example/pub-g01440/pub/tlog.errProofFailed"], fn := fun _ => fun
  | [d1, d2, d3, d4, d5, g1, g2] => { results := [.lit (.bool false)], args := [d1, d2, d3, d4, d5], vars := [g1, g2] }
  | _ => none }
def FnRecordNoneWrongFalsely : Prop := fnRecordNoneRow.holds Tryd.pinned (OpenSpec.ofChange fnRecordNoneWrong)

/-- 'laws.FnTreeNone': WHATEVER THE INPUT: true; the input reads as it did. -/
def fnTreeNoneSpec : ChangeSpec := { name := "fnTreeNone", vars := ["loop.example/pub-g01440/impl.errMissing", "loop.example/pub-g01440/pub/tlog.errProofFailed"], fn := fun _ => fun
  | [d1, d2, d3, d4, d5, g1, g2] => { results := [.lit (.bool true)], args := [d1, d2, d3, d4, d5], vars := [g1, g2] }
  | _ => none }
def fnTreeNoneRow : OpenClaim := { program := "ytokopcbmpnnkcaadoor", sum := "66fb1dbf76fc220eaf9f33191e6a134bda2d17c325e764a6e9b87d39bfa26ff1", func := "loop.example/pub-g01440/laws.FnTreeNone", spec := "fnTreeNone", unfollowed := true, recurses := true, named := ["loop.example/pub-g01440/impl.errMissing", "loop.example/pub-g01440/pub/tlog.errProofFailed"], ifaces := true, apart := false, laid := [("loop.example/pub-g01440/pub/tlog.errProofFailed", laid_loop_example_pub_g01440_pub_tlog_errProofFailed), ("loop.example/pub-g01440/impl.errMissing", laid_loop_example_pub_g01440_impl_errMissing)] }
def FnTreeNoneSaid : Prop := fnTreeNoneRow.holds Tryd.pinned (OpenSpec.ofChange fnTreeNoneSpec)

/-- ITS FALSE NEIGHBOUR: 'it returns false'. Refute it at one input. -/
def fnTreeNoneWrong : ChangeSpec := { name := "fnTreeNone", vars := ["loop.example/pub-g01440/impl.errMissing", "loop.example/pub-g01440/pub/tlog.errProofFailed"], fn := fun _ => fun
  | [d1, d2, d3, d4, d5, g1, g2] => { results := [.lit (.bool false)], args := [d1, d2, d3, d4, d5], vars := [g1, g2] }
  | _ => none }
def FnTreeNoneWrongFalsely : Prop := fnTreeNoneRow.holds Tryd.pinned (OpenSpec.ofChange fnTreeNoneWrong)

/-- 'laws.FnTreeSelf': WHATEVER THE INPUT: true; the input reads as it did. -/
def fnTreeSelfSpec : ChangeSpec := { name := "fnTreeSelf", vars := ["loop.example/pub-g01440/impl.errMissing", "loop.example/pub-g01440/pub/tlog.errProofFailed"], fn := fun _ => fun
  | [d1, d2, d3, d4, g1, g2] => { results := [.lit (.bool true)], args := [d1, d2, d3, d4], vars := [g1, g2] }
  | _ => none }
def fnTreeSelfRow : OpenClaim := { program := "ytokopcbmpnnkcaadoor", sum := "66fb1dbf76fc220eaf9f33191e6a134bda2d17c325e764a6e9b87d39bfa26ff1", func := "loop.example/pub-g01440/laws.FnTreeSelf", spec := "fnTreeSelf", unfollowed := true, recurses := true, named := ["loop.example/pub-g01440/impl.errMissing", "loop.example/pub-g01440/pub/tlog.errProofFailed"], ifaces := true, apart := false, laid := [("loop.example/pub-g01440/pub/tlog.errProofFailed", laid_loop_example_pub_g01440_pub_tlog_errProofFailed), ("loop.example/pub-g01440/impl.errMissing", laid_loop_example_pub_g01440_impl_errMissing)] }
def FnTreeSelfSaid : Prop := fnTreeSelfRow.holds Tryd.pinned (OpenSpec.ofChange fnTreeSelfSpec)

/-- ITS FALSE NEIGHBOUR: 'it returns false'. Refute it at one input. -/
def fnTreeSelfWrong : ChangeSpec := { name := "fnTreeSelf", vars := ["loop.example/pub-g01440/impl.errMissing", "loop.example/pub-g01440/pub/tlog.errProofFailed"], fn := fun _ => fun
  | [d1, d2, d3, d4, g1, g2] => { results := [.lit (.bool false)], args := [d1, d2, d3, d4], vars := [g1, g2] }
  | _ => none }
def FnTreeSelfWrongFalsely : Prop := fnTreeSelfRow.holds Tryd.pinned (OpenSpec.ofChange fnTreeSelfWrong)

/-- 'laws.FnRecordPath': WHATEVER THE INPUT: true; the input reads as it did. -/
def fnRecordPathSpec : ChangeSpec := { name := "fnRecordPath", vars := ["loop.example/pub-g01440/impl.errMissing", "loop.example/pub-g01440/pub/tlog.emptyHash"], fn := fun _ => fun
  | [d1, d2, g1, g2] => { results := [.lit (.bool true)], args := [d1, d2], vars := [g1, g2] }
  | _ => none }
def fnRecordPathRow : OpenClaim := { program := "ytokopcbmpnnkcaadoor", sum := "66fb1dbf76fc220eaf9f33191e6a134bda2d17c325e764a6e9b87d39bfa26ff1", func := "loop.example/pub-g01440/laws.FnRecordPath", spec := "fnRecordPath", unfollowed := true, recurses := true, named := ["loop.example/pub-g01440/impl.errMissing", "math/bits.deBruijn64tab", "loop.example/pub-g01440/pub/tlog.emptyHash"], ifaces := true, apart := false, laid := [("math/bits.deBruijn64tab", laid_math_bits_deBruijn64tab), ("loop.example/pub-g01440/pub/tlog.emptyHash", laid_loop_example_pub_g01440_pub_tlog_emptyHash), ("loop.example/pub-g01440/impl.errMissing", laid_loop_example_pub_g01440_impl_errMissing)] }
def FnRecordPathSaid : Prop := fnRecordPathRow.holds Tryd.pinned (OpenSpec.ofChange fnRecordPathSpec)

/-- ITS FALSE NEIGHBOUR: 'it returns false'. Refute it at one input. -/
def fnRecordPathWrong : ChangeSpec := { name := "fnRecordPath", vars := ["loop.example/pub-g01440/impl.errMissing", "loop.example/pub-g01440/pub/tlog.emptyHash"], fn := fun _ => fun
  | [d1, d2, g1, g2] => { results := [.lit (.bool false)], args := [d1, d2], vars := [g1, g2] }
  | _ => none }
def FnRecordPathWrongFalsely : Prop := fnRecordPathRow.holds Tryd.pinned (OpenSpec.ofChange fnRecordPathWrong)

/-- 'laws.FnTreePath': WHATEVER THE INPUT: true; the input reads as it did. -/
def fnTreePathSpec : ChangeSpec := { name := "fnTreePath", vars := ["loop.example/pub-g01440/impl.errMissing", "loop.example/pub-g01440/pub/tlog.emptyHash"], fn := fun _ => fun
  | [d1, d2, g1, g2] => { results := [.lit (.bool true)], args := [d1, d2], vars := [g1, g2] }
  | _ => none }
def fnTreePathRow : OpenClaim := { program := "ytokopcbmpnnkcaadoor", sum := "66fb1dbf76fc220eaf9f33191e6a134bda2d17c325e764a6e9b87d39bfa26ff1", func := "loop.example/pub-g01440/laws.FnTreePath", spec := "fnTreePath", unfollowed := true, recurses := true, named := ["loop.example/pub-g01440/impl.errMissing", "math/bits.deBruijn64tab", "loop.example/pub-g01440/pub/tlog.emptyHash"], ifaces := true, apart := false, laid := [("math/bits.deBruijn64tab", laid_math_bits_deBruijn64tab), ("loop.example/pub-g01440/pub/tlog.emptyHash", laid_loop_example_pub_g01440_pub_tlog_emptyHash), ("loop.example/pub-g01440/impl.errMissing", laid_loop_example_pub_g01440_impl_errMissing)] }
def FnTreePathSaid : Prop := fnTreePathRow.holds Tryd.pinned (OpenSpec.ofChange fnTreePathSpec)

/-- ITS FALSE NEIGHBOUR: 'it returns false'. Refute it at one input. -/
def fnTreePathWrong : ChangeSpec := { name := "fnTreePath", vars := ["loop.example/pub-g01440/impl.errMissing", "loop.example/pub-g01440/pub/tlog.emptyHash"], fn := fun _ => fun
  | [d1, d2, g1, g2] => { results := [.lit (.bool false)], args := [d1, d2], vars := [g1, g2] }
  | _ => none }
def FnTreePathWrongFalsely : Prop := fnTreePathRow.holds Tryd.pinned (OpenSpec.ofChange fnTreePathWrong)

/-- 'laws.FnRecordProved': WHATEVER THE INPUT: true; the input reads as it did. -/
def fnRecordProvedSpec : ChangeSpec := { name := "fnRecordProved", vars := ["loop.example/pub-g01440/impl.errMissing", "loop.example/pub-g01440/pub/tlog.emptyHash", "loop.example/pub-g01440/pub/tlog.errProofFailed"], fn := fun _ => fun
  | [d1, d2, d3, g1, g2, g3] => { results := [.lit (.bool true)], args := [d1, d2, d3], vars := [g1, g2, g3] }
  | _ => none }
def fnRecordProvedRow : OpenClaim := { program := "ytokopcbmpnnkcaadoor", sum := "66fb1dbf76fc220eaf9f33191e6a134bda2d17c325e764a6e9b87d39bfa26ff1", func := "loop.example/pub-g01440/laws.FnRecordProved", spec := "fnRecordProved", unfollowed := true, recurses := true, named := ["loop.example/pub-g01440/impl.errMissing", "math/bits.deBruijn64tab", "loop.example/pub-g01440/pub/tlog.emptyHash", "loop.example/pub-g01440/pub/tlog.errProofFailed"], ifaces := true, apart := false, laid := [("math/bits.deBruijn64tab", laid_math_bits_deBruijn64tab), ("loop.example/pub-g01440/pub/tlog.emptyHash", laid_loop_example_pub_g01440_pub_tlog_emptyHash), ("loop.example/pub-g01440/pub/tlog.errProofFailed", laid_loop_example_pub_g01440_pub_tlog_errProofFailed), ("loop.example/pub-g01440/impl.errMissing", laid_loop_example_pub_g01440_impl_errMissing)] }
def FnRecordProvedSaid : Prop := fnRecordProvedRow.holds Tryd.pinned (OpenSpec.ofChange fnRecordProvedSpec)

/-- ITS FALSE NEIGHBOUR: 'it returns false'. Refute it at one input. -/
def fnRecordProvedWrong : ChangeSpec := { name := "fnRecordProved", vars := ["loop.example/pub-g01440/impl.errMissing", "loop.example/pub-g01440/pub/tlog.emptyHash", "loop.example/pub-g01440/pub/tlog.errProofFailed"], fn := fun _ => fun
  | [d1, d2, d3, g1, g2, g3] => { results := [.lit (.bool false)], args := [d1, d2, d3], vars := [g1, g2, g3] }
  | _ => none }
def FnRecordProvedWrongFalsely : Prop := fnRecordProvedRow.holds Tryd.pinned (OpenSpec.ofChange fnRecordProvedWrong)

/-- 'laws.FnTreeProved': WHATEVER THE INPUT: true; the input reads as it did. -/
def fnTreeProvedSpec : ChangeSpec := { name := "fnTreeProved", vars := ["loop.example/pub-g01440/impl.errMissing", "loop.example/pub-g01440/pub/tlog.emptyHash", "loop.example/pub-g01440/pub/tlog.errProofFailed"], fn := fun _ => fun
  | [d1, d2, d3, g1, g2, g3] => { results := [.lit (.bool true)], args := [d1, d2, d3], vars := [g1, g2, g3] }
  | _ => none }
def fnTreeProvedRow : OpenClaim := { program := "ytokopcbmpnnkcaadoor", sum := "66fb1dbf76fc220eaf9f33191e6a134bda2d17c325e764a6e9b87d39bfa26ff1", func := "loop.example/pub-g01440/laws.FnTreeProved", spec := "fnTreeProved", unfollowed := true, recurses := true, named := ["loop.example/pub-g01440/impl.errMissing", "math/bits.deBruijn64tab", "loop.example/pub-g01440/pub/tlog.emptyHash", "loop.example/pub-g01440/pub/tlog.errProofFailed"], ifaces := true, apart := false, laid := [("math/bits.deBruijn64tab", laid_math_bits_deBruijn64tab), ("loop.example/pub-g01440/pub/tlog.emptyHash", laid_loop_example_pub_g01440_pub_tlog_emptyHash), ("loop.example/pub-g01440/pub/tlog.errProofFailed", laid_loop_example_pub_g01440_pub_tlog_errProofFailed), ("loop.example/pub-g01440/impl.errMissing", laid_loop_example_pub_g01440_impl_errMissing)] }
def FnTreeProvedSaid : Prop := fnTreeProvedRow.holds Tryd.pinned (OpenSpec.ofChange fnTreeProvedSpec)

/-- ITS FALSE NEIGHBOUR: 'it returns false'. Refute it at one input. -/
def fnTreeProvedWrong : ChangeSpec := { name := "fnTreeProved", vars := ["loop.example/pub-g01440/impl.errMissing", "loop.example/pub-g01440/pub/tlog.emptyHash", "loop.example/pub-g01440/pub/tlog.errProofFailed"], fn := fun _ => fun
  | [d1, d2, d3, g1, g2, g3] => { results := [.lit (.bool false)], args := [d1, d2, d3], vars := [g1, g2, g3] }
  | _ => none }
def FnTreeProvedWrongFalsely : Prop := fnTreeProvedRow.holds Tryd.pinned (OpenSpec.ofChange fnTreeProvedWrong)

/-- 'laws.FnTreeSteps': WHATEVER THE INPUT: true; the input reads as it did. -/
def fnTreeStepsSpec : ChangeSpec := { name := "fnTreeSteps", vars := ["loop.example/pub-g01440/impl.errMissing", "loop.example/pub-g01440/pub/tlog.emptyHash", "loop.example/pub-g01440/pub/tlog.errProofFailed"], fn := fun _ => fun
  | [d1, d2, d3, d4, g1, g2, g3] => { results := [.lit (.bool true)], args := [d1, d2, d3, d4], vars := [g1, g2, g3] }
  | _ => none }
def fnTreeStepsRow : OpenClaim := { program := "ytokopcbmpnnkcaadoor", sum := "66fb1dbf76fc220eaf9f33191e6a134bda2d17c325e764a6e9b87d39bfa26ff1", func := "loop.example/pub-g01440/laws.FnTreeSteps", spec := "fnTreeSteps", unfollowed := true, recurses := true, named := ["loop.example/pub-g01440/impl.errMissing", "math/bits.deBruijn64tab", "loop.example/pub-g01440/pub/tlog.emptyHash", "loop.example/pub-g01440/pub/tlog.errProofFailed"], ifaces := true, apart := false, laid := [("math/bits.deBruijn64tab", laid_math_bits_deBruijn64tab), ("loop.example/pub-g01440/pub/tlog.emptyHash", laid_loop_example_pub_g01440_pub_tlog_emptyHash), ("loop.example/pub-g01440/pub/tlog.errProofFailed", laid_loop_example_pub_g01440_pub_tlog_errProofFailed), ("loop.example/pub-g01440/impl.errMissing", laid_loop_example_pub_g01440_impl_errMissing)] }
def FnTreeStepsSaid : Prop := fnTreeStepsRow.holds Tryd.pinned (OpenSpec.ofChange fnTreeStepsSpec)

/-- ITS FALSE NEIGHBOUR: 'it returns false'. Refute it at one input. -/
def fnTreeStepsWrong : ChangeSpec := { name := "fnTreeSteps", vars := ["loop.example/pub-g01440/impl.errMissing", "loop.example/pub-g01440/pub/tlog.emptyHash", "loop.example/pub-g01440/pub/tlog.errProofFailed"], fn := fun _ => fun
  | [d1, d2, d3, d4, g1, g2, g3] => { results := [.lit (.bool false)], args := [d1, d2, d3, d4], vars := [g1, g2, g3] }
  | _ => none }
def FnTreeStepsWrongFalsely : Prop := fnTreeStepsRow.holds Tryd.pinned (OpenSpec.ofChange fnTreeStepsWrong)

/- THE SECOND FORM. 'bulk': how many values and letters a reading holds, each counted each time it is reached (what is shared counts as often as it is met; a slice's spare places count too). A statement '..UptoSaid' is the law's where the arguments, and the package variables that the reading takes, are together of bulk at most 1048576: NARROWER than '..Said'. Prove '..Said' where nothing that the law and all that it calls make is longer than what came in: it says more and counts as full. Else prove '..UptoSaid'. A law counts once. -/
mutual
def uptoBulk {H : Type} : DataW H → Nat
  | .lit (.string bytes) => bytes.length + 1
  | .lit _ => 1
  | .nil => 1
  | .ptr d => uptoBulk d + 1
  | .slice elems spare => uptoBulkAll elems + uptoBulkAll spare + 1
  | .agg parts => uptoBulkAll parts + 1
  | .iface _ d => uptoBulk d + 1
  | .map entries => uptoBulkEntries entries + 1
  | .held _ => 1
def uptoBulkAll {H : Type} : List (DataW H) → Nat
  | [] => 0
  | d :: r => uptoBulk d + uptoBulkAll r
def uptoBulkEntries {H : Type} : List (Lit × DataW H) → Nat
  | [] => 0
  | x :: r => uptoBulkEntry x + uptoBulkEntries r
def uptoBulkEntry {H : Type} : Lit × DataW H → Nat
  | (.string bytes, d) => bytes.length + uptoBulk d + 1
  | (_, d) => uptoBulk d + 1
 end
def uptoSmall : (H : Type) → List (DataW H) → Bool := fun _ ds => decide (uptoBulkAll ds ≤ 1048576)
def OpenSpec.upto (s : _root_.Go.ChangeSpec) : _root_.Go.OpenSpec := { _root_.Go.OpenSpec.ofChange s with cond := some uptoSmall }

/-- 'laws.FnRecordNone', WHERE WHAT IT READS IS OF BULK AT MOST 1048576: true; the input reads as it did. -/
def fnRecordNoneUptoRow : OpenClaim := { program := "ytokopcbmpnnkcaadoor", sum := "66fb1dbf76fc220eaf9f33191e6a134bda2d17c325e764a6e9b87d39bfa26ff1", func := "loop.example/pub-g01440/laws.FnRecordNone", spec := "fnRecordNone", unfollowed := true, recurses := true, named := ["loop.example/pub-g01440/impl.errMissing", "loop.example/pub-g01440/pub/tlog.errProofFailed"], ifaces := true, apart := false, laid := [("loop.example/pub-g01440/pub/tlog.errProofFailed", laid_loop_example_pub_g01440_pub_tlog_errProofFailed), ("loop.example/pub-g01440/impl.errMissing", laid_loop_example_pub_g01440_impl_errMissing)], narrowed := true }
def FnRecordNoneUptoSaid : Prop := fnRecordNoneUptoRow.holds Tryd.pinned (OpenSpec.upto fnRecordNoneSpec)

/-- 'laws.FnTreeNone', WHERE WHAT IT READS IS OF BULK AT MOST 1048576: true; the input reads as it did. -/
def fnTreeNoneUptoRow : OpenClaim := { program := "ytokopcbmpnnkcaadoor", sum := "66fb1dbf76fc220eaf9f33191e6a134bda2d17c325e764a6e9b87d39bfa26ff1", func := "loop.example/pub-g01440/laws.FnTreeNone", spec := "fnTreeNone", unfollowed := true, recurses := true, named := ["loop.example/pub-g01440/impl.errMissing", "loop.example/pub-g01440/pub/tlog.errProofFailed"], ifaces := true, apart := false, laid := [("loop.example/pub-g01440/pub/tlog.errProofFailed", laid_loop_example_pub_g01440_pub_tlog_errProofFailed), ("loop.example/pub-g01440/impl.errMissing", laid_loop_example_pub_g01440_impl_errMissing)], narrowed := true }
def FnTreeNoneUptoSaid : Prop := fnTreeNoneUptoRow.holds Tryd.pinned (OpenSpec.upto fnTreeNoneSpec)

/-- 'laws.FnTreeSelf', WHERE WHAT IT READS IS OF BULK AT MOST 1048576: true; the input reads as it did. -/
def fnTreeSelfUptoRow : OpenClaim := { program := "ytokopcbmpnnkcaadoor", sum := "66fb1dbf76fc220eaf9f33191e6a134bda2d17c325e764a6e9b87d39bfa26ff1", func := "loop.example/pub-g01440/laws.FnTreeSelf", spec := "fnTreeSelf", unfollowed := true, recurses := true, named := ["loop.example/pub-g01440/impl.errMissing", "loop.example/pub-g01440/pub/tlog.errProofFailed"], ifaces := true, apart := false, laid := [("loop.example/pub-g01440/pub/tlog.errProofFailed", laid_loop_example_pub_g01440_pub_tlog_errProofFailed), ("loop.example/pub-g01440/impl.errMissing", laid_loop_example_pub_g01440_impl_errMissing)], narrowed := true }
def FnTreeSelfUptoSaid : Prop := fnTreeSelfUptoRow.holds Tryd.pinned (OpenSpec.upto fnTreeSelfSpec)

/-- 'laws.FnRecordPath', WHERE WHAT IT READS IS OF BULK AT MOST 1048576: true; the input reads as it did. -/
def fnRecordPathUptoRow : OpenClaim := { program := "ytokopcbmpnnkcaadoor", sum := "66fb1dbf76fc220eaf9f33191e6a134bda2d17c325e764a6e9b87d39bfa26ff1", func := "loop.example/pub-g01440/laws.FnRecordPath", spec := "fnRecordPath", unfollowed := true, recurses := true, named := ["loop.example/pub-g01440/impl.errMissing", "math/bits.deBruijn64tab", "loop.example/pub-g01440/pub/tlog.emptyHash"], ifaces := true, apart := false, laid := [("math/bits.deBruijn64tab", laid_math_bits_deBruijn64tab), ("loop.example/pub-g01440/pub/tlog.emptyHash", laid_loop_example_pub_g01440_pub_tlog_emptyHash), ("loop.example/pub-g01440/impl.errMissing", laid_loop_example_pub_g01440_impl_errMissing)], narrowed := true }
def FnRecordPathUptoSaid : Prop := fnRecordPathUptoRow.holds Tryd.pinned (OpenSpec.upto fnRecordPathSpec)

/-- 'laws.FnTreePath', WHERE WHAT IT READS IS OF BULK AT MOST 1048576: true; the input reads as it did. -/
def fnTreePathUptoRow : OpenClaim := { program := "ytokopcbmpnnkcaadoor", sum := "66fb1dbf76fc220eaf9f33191e6a134bda2d17c325e764a6e9b87d39bfa26ff1", func := "loop.example/pub-g01440/laws.FnTreePath", spec := "fnTreePath", unfollowed := true, recurses := true, named := ["loop.example/pub-g01440/impl.errMissing", "math/bits.deBruijn64tab", "loop.example/pub-g01440/pub/tlog.emptyHash"], ifaces := true, apart := false, laid := [("math/bits.deBruijn64tab", laid_math_bits_deBruijn64tab), ("loop.example/pub-g01440/pub/tlog.emptyHash", laid_loop_example_pub_g01440_pub_tlog_emptyHash), ("loop.example/pub-g01440/impl.errMissing", laid_loop_example_pub_g01440_impl_errMissing)], narrowed := true }
def FnTreePathUptoSaid : Prop := fnTreePathUptoRow.holds Tryd.pinned (OpenSpec.upto fnTreePathSpec)

/-- 'laws.FnRecordProved', WHERE WHAT IT READS IS OF BULK AT MOST 1048576: true; the input reads as it did. -/
def fnRecordProvedUptoRow : OpenClaim := { program := "ytokopcbmpnnkcaadoor", sum := "66fb1dbf76fc220eaf9f33191e6a134bda2d17c325e764a6e9b87d39bfa26ff1", func := "loop.example/pub-g01440/laws.FnRecordProved", spec := "fnRecordProved", unfollowed := true, recurses := true, named := ["loop.example/pub-g01440/impl.errMissing", "math/bits.deBruijn64tab", "loop.example/pub-g01440/pub/tlog.emptyHash", "loop.example/pub-g01440/pub/tlog.errProofFailed"], ifaces := true, apart := false, laid := [("math/bits.deBruijn64tab", laid_math_bits_deBruijn64tab), ("loop.example/pub-g01440/pub/tlog.emptyHash", laid_loop_example_pub_g01440_pub_tlog_emptyHash), ("loop.example/pub-g01440/pub/tlog.errProofFailed", laid_loop_example_pub_g01440_pub_tlog_errProofFailed), ("loop.example/pub-g01440/impl.errMissing", laid_loop_example_pub_g01440_impl_errMissing)], narrowed := true }
def FnRecordProvedUptoSaid : Prop := fnRecordProvedUptoRow.holds Tryd.pinned (OpenSpec.upto fnRecordProvedSpec)

/-- 'laws.FnTreeProved', WHERE WHAT IT READS IS OF BULK AT MOST 1048576: true; the input reads as it did. -/
def fnTreeProvedUptoRow : OpenClaim := { program := "ytokopcbmpnnkcaadoor", sum := "66fb1dbf76fc220eaf9f33191e6a134bda2d17c325e764a6e9b87d39bfa26ff1", func := "loop.example/pub-g01440/laws.FnTreeProved", spec := "fnTreeProved", unfollowed := true, recurses := true, named := ["loop.example/pub-g01440/impl.errMissing", "math/bits.deBruijn64tab", "loop.example/pub-g01440/pub/tlog.emptyHash", "loop.example/pub-g01440/pub/tlog.errProofFailed"], ifaces := true, apart := false, laid := [("math/bits.deBruijn64tab", laid_math_bits_deBruijn64tab), ("loop.example/pub-g01440/pub/tlog.emptyHash", laid_loop_example_pub_g01440_pub_tlog_emptyHash), ("loop.example/pub-g01440/pub/tlog.errProofFailed", laid_loop_example_pub_g01440_pub_tlog_errProofFailed), ("loop.example/pub-g01440/impl.errMissing", laid_loop_example_pub_g01440_impl_errMissing)], narrowed := true }
def FnTreeProvedUptoSaid : Prop := fnTreeProvedUptoRow.holds Tryd.pinned (OpenSpec.upto fnTreeProvedSpec)

/-- 'laws.FnTreeSteps', WHERE WHAT IT READS IS OF BULK AT MOST 1048576: true; the input reads as it did. -/
def fnTreeStepsUptoRow : OpenClaim := { program := "ytokopcbmpnnkcaadoor", sum := "66fb1dbf76fc220eaf9f33191e6a134bda2d17c325e764a6e9b87d39bfa26ff1", func := "loop.example/pub-g01440/laws.FnTreeSteps", spec := "fnTreeSteps", unfollowed := true, recurses := true, named := ["loop.example/pub-g01440/impl.errMissing", "math/bits.deBruijn64tab", "loop.example/pub-g01440/pub/tlog.emptyHash", "loop.example/pub-g01440/pub/tlog.errProofFailed"], ifaces := true, apart := false, laid := [("math/bits.deBruijn64tab", laid_math_bits_deBruijn64tab), ("loop.example/pub-g01440/pub/tlog.emptyHash", laid_loop_example_pub_g01440_pub_tlog_emptyHash), ("loop.example/pub-g01440/pub/tlog.errProofFailed", laid_loop_example_pub_g01440_pub_tlog_errProofFailed), ("loop.example/pub-g01440/impl.errMissing", laid_loop_example_pub_g01440_impl_errMissing)], narrowed := true }
def FnTreeStepsUptoSaid : Prop := fnTreeStepsUptoRow.holds Tryd.pinned (OpenSpec.upto fnTreeStepsSpec)

end Rows
end Go.Proofs.YtokopcbmpnnkcaaDoor
