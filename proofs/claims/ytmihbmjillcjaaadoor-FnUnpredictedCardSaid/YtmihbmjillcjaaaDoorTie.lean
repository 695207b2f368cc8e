/-
  DERIVED. GIVEN WITH THE SEED: THE PROGRAM's TIES (one call each: nine closed facts by the kernel) AND EACH ROW's TIE, after the 31st guide's Derived/Test/Toyas{Tie, Card}.lean. No idea stands in it: it is a product of the set-up. Laid BY PROGRAM, IN A SANDBOX (cutbox-door.mjs). By AI agents, Wed Nov 11 2026. No macro, syntax, notation, axiom, sorry.
-/
import Derived.Test.YtmihbmjillcjaaaDoorRows
import Derived.LaidByTextLater
import Derived.SevenTiedAt
import Derived.LaidSub
import Derived.LaidOnce
namespace Go.Proofs.YtmihbmjillcjaaaDoor
open Go
set_option maxRecDepth 100000
theorem seatTie1 : Tryd.prog.laidByTextLater [("given.example/pub-foolscap/pub/pdfcpu/pkg/pdfcpu/safemath.errIntegerOverflow", Rows.laid_given_example_pub_foolscap_pub_pdfcpu_pkg_pdfcpu_safemath_errIntegerOverflow), ("io.ErrShortBuffer", Rows.laid_io_ErrShortBuffer), ("io.EOF", Rows.laid_io_EOF), ("io.ErrUnexpectedEOF", Rows.laid_io_ErrUnexpectedEOF), ("given.example/pub-foolscap/pub/pdfcpu/pkg/filter.ErrDecodeLimitExceeded", Rows.laid_given_example_pub_foolscap_pub_pdfcpu_pkg_filter_ErrDecodeLimitExceeded)] [.sentinel, .sentinel, .sentinel, .sentinel, .sentinel] true :=
  Program.laidByTextLater_by_one 123 8 2 (by kernel_rfl) (by kernel_rfl) (by kernel_rfl) (by kernel_rfl) (by kernel_rfl) (by kernel_rfl) (fun _ _ => by kernel_rfl)
theorem noOwnUnsafe : Tryd.pinned.checked.prog.headLifts.contains "ownunsafe" = false := by kernel_rfl
theorem tie : Tryd.prog.laidByTextLater [("given.example/pub-foolscap/pub/pdfcpu/pkg/pdfcpu/safemath.errIntegerOverflow", Rows.laid_given_example_pub_foolscap_pub_pdfcpu_pkg_pdfcpu_safemath_errIntegerOverflow), ("io.ErrShortBuffer", Rows.laid_io_ErrShortBuffer), ("io.EOF", Rows.laid_io_EOF), ("io.ErrUnexpectedEOF", Rows.laid_io_ErrUnexpectedEOF), ("given.example/pub-foolscap/pub/pdfcpu/pkg/filter.ErrDecodeLimitExceeded", Rows.laid_given_example_pub_foolscap_pub_pdfcpu_pkg_filter_ErrDecodeLimitExceeded)] [.sentinel, .sentinel, .sentinel, .sentinel, .sentinel] true :=
  Program.laidByTextLater.sub seatTie1 ["given.example/pub-foolscap/pub/pdfcpu/pkg/pdfcpu/safemath.errIntegerOverflow", "io.ErrShortBuffer", "io.EOF", "io.ErrUnexpectedEOF", "given.example/pub-foolscap/pub/pdfcpu/pkg/filter.ErrDecodeLimitExceeded"] (by kernel_rfl) (by kernel_rfl)
theorem fnUnpredicted_row_tie : Rows.fnUnpredictedRow.laidByTextAt .later Tryd.pinned [.sentinel, .sentinel, .sentinel, .sentinel, .sentinel] true :=
  OpenClaim.laidByTextAt_later rfl rfl tie noOwnUnsafe
theorem fnUnpredictedUpto_row_tie : Rows.fnUnpredictedUptoRow.laidByTextAt .later Tryd.pinned [.sentinel, .sentinel, .sentinel, .sentinel, .sentinel] true :=
  OpenClaim.laidByTextAt_later rfl rfl tie noOwnUnsafe
end Go.Proofs.YtmihbmjillcjaaaDoor
