/-
  DERIVED. GIVEN WITH THE SEED: THE PROGRAM's TIES (one call each: nine closed facts by the kernel) AND EACH ROW's TIE, after the 31st guide's Derived/Test/Toyas{Tie, Card}.lean. No idea stands in it: it is a product of the set-up. Laid BY PROGRAM, IN A SANDBOX (cutbox-door.mjs). By AI agents, Wed Nov 11 2026. No macro, syntax, notation, axiom, sorry.
-/
import Derived.Test.YtlmcoaidngnomaaDoorRows
import Derived.LaidByTextLater
import Derived.SevenTiedAt
import Derived.LaidSub
import Derived.LaidOnce
namespace Go.Proofs.YtlmcoaidngnomaaDoor
open Go
set_option maxRecDepth 100000
theorem seatTie1 : Tryd.prog.laidByTextLater [("math/bits.deBruijn64tab", Rows.laid_math_bits_deBruijn64tab), ("loop.example/pub-g01440/pub/tlog.emptyHash", Rows.laid_loop_example_pub_g01440_pub_tlog_emptyHash), ("loop.example/pub-g01440/pub/tlog.errProofFailed", Rows.laid_loop_example_pub_g01440_pub_tlog_errProofFailed), ("loop.example/pub-g01440/impl.errMissing", Rows.laid_loop_example_pub_g01440_impl_errMissing)] [.data, .data, .sentinel, .sentinel] true :=
  Program.laidByTextLater_by_one 62 8 65 (by kernel_rfl) (by kernel_rfl) (by kernel_rfl) (by kernel_rfl) (by kernel_rfl) (by kernel_rfl) (fun _ _ => by kernel_rfl)
theorem noOwnUnsafe : Tryd.pinned.checked.prog.headLifts.contains "ownunsafe" = false := by kernel_rfl
theorem tie : Tryd.prog.laidByTextLater [("loop.example/pub-g01440/pub/tlog.errProofFailed", Rows.laid_loop_example_pub_g01440_pub_tlog_errProofFailed)] [.sentinel] true :=
  Program.laidByTextLater.sub seatTie1 ["loop.example/pub-g01440/pub/tlog.errProofFailed"] (by kernel_rfl) (by kernel_rfl)
theorem fnRecordLong_row_tie : Rows.fnRecordLongRow.laidByTextAt .later Tryd.pinned [.sentinel] true :=
  OpenClaim.laidByTextAt_later rfl rfl tie noOwnUnsafe
theorem fnRecordRoot_row_tie : Rows.fnRecordRootRow.laidByTextAt .later Tryd.pinned [.sentinel] true :=
  OpenClaim.laidByTextAt_later rfl rfl tie noOwnUnsafe
theorem tie2 : Tryd.prog.laidByTextLater [("math/bits.deBruijn64tab", Rows.laid_math_bits_deBruijn64tab), ("loop.example/pub-g01440/impl.errMissing", Rows.laid_loop_example_pub_g01440_impl_errMissing)] [.data, .sentinel] true :=
  Program.laidByTextLater.sub seatTie1 ["math/bits.deBruijn64tab", "loop.example/pub-g01440/impl.errMissing"] (by kernel_rfl) (by kernel_rfl)
theorem fnStoredMany_row_tie : Rows.fnStoredManyRow.laidByTextAt .later Tryd.pinned [.data, .sentinel] true :=
  OpenClaim.laidByTextAt_later rfl rfl tie2 noOwnUnsafe
theorem fnStoredIsFor_row_tie : Rows.fnStoredIsForRow.laidByTextAt .later Tryd.pinned [.data, .sentinel] true :=
  OpenClaim.laidByTextAt_later rfl rfl tie2 noOwnUnsafe
theorem fnStoreBegins_row_tie : Rows.fnStoreBeginsRow.laidByTextAt .later Tryd.pinned [.data, .sentinel] true :=
  OpenClaim.laidByTextAt_later rfl rfl tie2 noOwnUnsafe
theorem tie3 : Tryd.prog.laidByTextLater [("loop.example/pub-g01440/pub/tlog.emptyHash", Rows.laid_loop_example_pub_g01440_pub_tlog_emptyHash), ("loop.example/pub-g01440/impl.errMissing", Rows.laid_loop_example_pub_g01440_impl_errMissing)] [.data, .sentinel] true :=
  Program.laidByTextLater.sub seatTie1 ["loop.example/pub-g01440/pub/tlog.emptyHash", "loop.example/pub-g01440/impl.errMissing"] (by kernel_rfl) (by kernel_rfl)
theorem fnTreeEmpty_row_tie : Rows.fnTreeEmptyRow.laidByTextAt .later Tryd.pinned [.data, .sentinel] true :=
  OpenClaim.laidByTextAt_later rfl rfl tie3 noOwnUnsafe
theorem fnTreeStored_row_tie : Rows.fnTreeStoredRow.laidByTextAt .later Tryd.pinned [.data, .sentinel] true :=
  OpenClaim.laidByTextAt_later rfl rfl tie3 noOwnUnsafe
theorem tie4 : Tryd.prog.laidByTextLater [("loop.example/pub-g01440/impl.errMissing", Rows.laid_loop_example_pub_g01440_impl_errMissing)] [.sentinel] true :=
  Program.laidByTextLater.sub seatTie1 ["loop.example/pub-g01440/impl.errMissing"] (by kernel_rfl) (by kernel_rfl)
theorem fnRecordShort_row_tie : Rows.fnRecordShortRow.laidByTextAt .later Tryd.pinned [.sentinel] true :=
  OpenClaim.laidByTextAt_later rfl rfl tie4 noOwnUnsafe
theorem fnTreeShort_row_tie : Rows.fnTreeShortRow.laidByTextAt .later Tryd.pinned [.sentinel] true :=
  OpenClaim.laidByTextAt_later rfl rfl tie4 noOwnUnsafe
theorem tie5 : Tryd.prog.laidByTextLater [("math/bits.deBruijn64tab", Rows.laid_math_bits_deBruijn64tab), ("loop.example/pub-g01440/pub/tlog.emptyHash", Rows.laid_loop_example_pub_g01440_pub_tlog_emptyHash), ("loop.example/pub-g01440/impl.errMissing", Rows.laid_loop_example_pub_g01440_impl_errMissing)] [.data, .data, .sentinel] true :=
  Program.laidByTextLater.sub seatTie1 ["math/bits.deBruijn64tab", "loop.example/pub-g01440/pub/tlog.emptyHash", "loop.example/pub-g01440/impl.errMissing"] (by kernel_rfl) (by kernel_rfl)
theorem fnTreeParts_row_tie : Rows.fnTreePartsRow.laidByTextAt .later Tryd.pinned [.data, .data, .sentinel] true :=
  OpenClaim.laidByTextAt_later rfl rfl tie5 noOwnUnsafe
theorem fnRecordLongUpto_row_tie : Rows.fnRecordLongUptoRow.laidByTextAt .later Tryd.pinned [.sentinel] true :=
  OpenClaim.laidByTextAt_later rfl rfl tie noOwnUnsafe
theorem fnRecordRootUpto_row_tie : Rows.fnRecordRootUptoRow.laidByTextAt .later Tryd.pinned [.sentinel] true :=
  OpenClaim.laidByTextAt_later rfl rfl tie noOwnUnsafe
theorem fnStoredManyUpto_row_tie : Rows.fnStoredManyUptoRow.laidByTextAt .later Tryd.pinned [.data, .sentinel] true :=
  OpenClaim.laidByTextAt_later rfl rfl tie2 noOwnUnsafe
theorem fnTreeEmptyUpto_row_tie : Rows.fnTreeEmptyUptoRow.laidByTextAt .later Tryd.pinned [.data, .sentinel] true :=
  OpenClaim.laidByTextAt_later rfl rfl tie3 noOwnUnsafe
theorem fnStoredIsForUpto_row_tie : Rows.fnStoredIsForUptoRow.laidByTextAt .later Tryd.pinned [.data, .sentinel] true :=
  OpenClaim.laidByTextAt_later rfl rfl tie2 noOwnUnsafe
theorem fnTreeStoredUpto_row_tie : Rows.fnTreeStoredUptoRow.laidByTextAt .later Tryd.pinned [.data, .sentinel] true :=
  OpenClaim.laidByTextAt_later rfl rfl tie3 noOwnUnsafe
theorem fnStoreBeginsUpto_row_tie : Rows.fnStoreBeginsUptoRow.laidByTextAt .later Tryd.pinned [.data, .sentinel] true :=
  OpenClaim.laidByTextAt_later rfl rfl tie2 noOwnUnsafe
theorem fnRecordShortUpto_row_tie : Rows.fnRecordShortUptoRow.laidByTextAt .later Tryd.pinned [.sentinel] true :=
  OpenClaim.laidByTextAt_later rfl rfl tie4 noOwnUnsafe
theorem fnTreeShortUpto_row_tie : Rows.fnTreeShortUptoRow.laidByTextAt .later Tryd.pinned [.sentinel] true :=
  OpenClaim.laidByTextAt_later rfl rfl tie4 noOwnUnsafe
theorem fnTreePartsUpto_row_tie : Rows.fnTreePartsUptoRow.laidByTextAt .later Tryd.pinned [.data, .data, .sentinel] true :=
  OpenClaim.laidByTextAt_later rfl rfl tie5 noOwnUnsafe
end Go.Proofs.YtlmcoaidngnomaaDoor
