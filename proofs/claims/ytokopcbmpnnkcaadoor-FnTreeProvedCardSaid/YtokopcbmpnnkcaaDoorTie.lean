/-
  DERIVED. GIVEN WITH THE SEED: THE PROGRAM's TIES (one call each: nine closed facts by the kernel) AND EACH ROW's TIE, after the 31st guide's Derived/Test/Toyas{Tie, Card}.lean. No idea stands in it: it is a product of the set-up. Laid BY PROGRAM, IN A SANDBOX (cutbox-door.mjs). By AI agents, Wed Nov 11 2026. No macro, syntax, notation, axiom, sorry.
-/
import Derived.Test.YtokopcbmpnnkcaaDoorRows
import Derived.LaidByTextLater
import Derived.SevenTiedAt
import Derived.LaidSub
import Derived.LaidOnce
namespace Go.Proofs.YtokopcbmpnnkcaaDoor
open Go
set_option maxRecDepth 100000
theorem seatTie1 : Tryd.prog.laidByTextLater [("math/bits.deBruijn64tab", Rows.laid_math_bits_deBruijn64tab), ("loop.example/pub-g01440/pub/tlog.emptyHash", Rows.laid_loop_example_pub_g01440_pub_tlog_emptyHash), ("loop.example/pub-g01440/pub/tlog.errProofFailed", Rows.laid_loop_example_pub_g01440_pub_tlog_errProofFailed), ("loop.example/pub-g01440/impl.errMissing", Rows.laid_loop_example_pub_g01440_impl_errMissing)] [.data, .data, .sentinel, .sentinel] true :=
  Program.laidByTextLater_by_one 62 8 65 (by kernel_rfl) (by kernel_rfl) (by kernel_rfl) (by kernel_rfl) (by kernel_rfl) (by kernel_rfl) (fun _ _ => by kernel_rfl)
theorem noOwnUnsafe : Tryd.pinned.checked.prog.headLifts.contains "ownunsafe" = false := by kernel_rfl
theorem tie : Tryd.prog.laidByTextLater [("loop.example/pub-g01440/pub/tlog.errProofFailed", Rows.laid_loop_example_pub_g01440_pub_tlog_errProofFailed), ("loop.example/pub-g01440/impl.errMissing", Rows.laid_loop_example_pub_g01440_impl_errMissing)] [.sentinel, .sentinel] true :=
  Program.laidByTextLater.sub seatTie1 ["loop.example/pub-g01440/pub/tlog.errProofFailed", "loop.example/pub-g01440/impl.errMissing"] (by kernel_rfl) (by kernel_rfl)
theorem fnRecordNone_row_tie : Rows.fnRecordNoneRow.laidByTextAt .later Tryd.pinned [.sentinel, .sentinel] true :=
  OpenClaim.laidByTextAt_later rfl rfl tie noOwnUnsafe
theorem fnTreeNone_row_tie : Rows.fnTreeNoneRow.laidByTextAt .later Tryd.pinned [.sentinel, .sentinel] true :=
  OpenClaim.laidByTextAt_later rfl rfl tie noOwnUnsafe
theorem fnTreeSelf_row_tie : Rows.fnTreeSelfRow.laidByTextAt .later Tryd.pinned [.sentinel, .sentinel] true :=
  OpenClaim.laidByTextAt_later rfl rfl tie noOwnUnsafe
theorem tie2 : Tryd.prog.laidByTextLater [("math/bits.deBruijn64tab", Rows.laid_math_bits_deBruijn64tab), ("loop.example/pub-g01440/pub/tlog.emptyHash", Rows.laid_loop_example_pub_g01440_pub_tlog_emptyHash), ("loop.example/pub-g01440/impl.errMissing", Rows.laid_loop_example_pub_g01440_impl_errMissing)] [.data, .data, .sentinel] true :=
  Program.laidByTextLater.sub seatTie1 ["math/bits.deBruijn64tab", "loop.example/pub-g01440/pub/tlog.emptyHash", "loop.example/pub-g01440/impl.errMissing"] (by kernel_rfl) (by kernel_rfl)
theorem fnRecordPath_row_tie : Rows.fnRecordPathRow.laidByTextAt .later Tryd.pinned [.data, .data, .sentinel] true :=
  OpenClaim.laidByTextAt_later rfl rfl tie2 noOwnUnsafe
theorem fnTreePath_row_tie : Rows.fnTreePathRow.laidByTextAt .later Tryd.pinned [.data, .data, .sentinel] true :=
  OpenClaim.laidByTextAt_later rfl rfl tie2 noOwnUnsafe
theorem tie3 : Tryd.prog.laidByTextLater [("math/bits.deBruijn64tab", Rows.laid_math_bits_deBruijn64tab), ("loop.example/pub-g01440/pub/tlog.emptyHash", Rows.laid_loop_example_pub_g01440_pub_tlog_emptyHash), ("loop.example/pub-g01440/pub/tlog.errProofFailed", Rows.laid_loop_example_pub_g01440_pub_tlog_errProofFailed), ("loop.example/pub-g01440/impl.errMissing", Rows.laid_loop_example_pub_g01440_impl_errMissing)] [.data, .data, .sentinel, .sentinel] true :=
  Program.laidByTextLater.sub seatTie1 ["math/bits.deBruijn64tab", "loop.example/pub-g01440/pub/tlog.emptyHash", "loop.example/pub-g01440/pub/tlog.errProofFailed", "loop.example/pub-g01440/impl.errMissing"] (by kernel_rfl) (by kernel_rfl)
theorem fnRecordProved_row_tie : Rows.fnRecordProvedRow.laidByTextAt .later Tryd.pinned [.data, .data, .sentinel, .sentinel] true :=
  OpenClaim.laidByTextAt_later rfl rfl tie3 noOwnUnsafe
theorem fnTreeProved_row_tie : Rows.fnTreeProvedRow.laidByTextAt .later Tryd.pinned [.data, .data, .sentinel, .sentinel] true :=
  OpenClaim.laidByTextAt_later rfl rfl tie3 noOwnUnsafe
theorem fnTreeSteps_row_tie : Rows.fnTreeStepsRow.laidByTextAt .later Tryd.pinned [.data, .data, .sentinel, .sentinel] true :=
  OpenClaim.laidByTextAt_later rfl rfl tie3 noOwnUnsafe
theorem fnRecordNoneUpto_row_tie : Rows.fnRecordNoneUptoRow.laidByTextAt .later Tryd.pinned [.sentinel, .sentinel] true :=
  OpenClaim.laidByTextAt_later rfl rfl tie noOwnUnsafe
theorem fnTreeNoneUpto_row_tie : Rows.fnTreeNoneUptoRow.laidByTextAt .later Tryd.pinned [.sentinel, .sentinel] true :=
  OpenClaim.laidByTextAt_later rfl rfl tie noOwnUnsafe
theorem fnTreeSelfUpto_row_tie : Rows.fnTreeSelfUptoRow.laidByTextAt .later Tryd.pinned [.sentinel, .sentinel] true :=
  OpenClaim.laidByTextAt_later rfl rfl tie noOwnUnsafe
theorem fnRecordPathUpto_row_tie : Rows.fnRecordPathUptoRow.laidByTextAt .later Tryd.pinned [.data, .data, .sentinel] true :=
  OpenClaim.laidByTextAt_later rfl rfl tie2 noOwnUnsafe
theorem fnTreePathUpto_row_tie : Rows.fnTreePathUptoRow.laidByTextAt .later Tryd.pinned [.data, .data, .sentinel] true :=
  OpenClaim.laidByTextAt_later rfl rfl tie2 noOwnUnsafe
theorem fnRecordProvedUpto_row_tie : Rows.fnRecordProvedUptoRow.laidByTextAt .later Tryd.pinned [.data, .data, .sentinel, .sentinel] true :=
  OpenClaim.laidByTextAt_later rfl rfl tie3 noOwnUnsafe
theorem fnTreeProvedUpto_row_tie : Rows.fnTreeProvedUptoRow.laidByTextAt .later Tryd.pinned [.data, .data, .sentinel, .sentinel] true :=
  OpenClaim.laidByTextAt_later rfl rfl tie3 noOwnUnsafe
theorem fnTreeStepsUpto_row_tie : Rows.fnTreeStepsUptoRow.laidByTextAt .later Tryd.pinned [.data, .data, .sentinel, .sentinel] true :=
  OpenClaim.laidByTextAt_later rfl rfl tie3 noOwnUnsafe
end Go.Proofs.YtokopcbmpnnkcaaDoor
