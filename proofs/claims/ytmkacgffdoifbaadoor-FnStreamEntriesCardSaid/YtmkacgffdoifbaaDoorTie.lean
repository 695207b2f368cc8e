/-
  DERIVED. GIVEN WITH THE SEED: THE PROGRAM's TIES (one call each: nine closed facts by the kernel) AND EACH ROW's TIE, after the 31st guide's Derived/Test/Toyas{Tie, Card}.lean. No idea stands in it: it is a product of the set-up. Laid BY PROGRAM, IN A SANDBOX (cutbox-door.mjs). By AI agents, Wed Nov 11 2026. No macro, syntax, notation, axiom, sorry.
-/
import Derived.Test.YtmkacgffdoifbaaDoorRows
import Derived.LaidByTextLater
import Derived.SevenTiedAt
import Derived.LaidSub
import Derived.LaidOnce
namespace Go.Proofs.YtmkacgffdoifbaaDoor
open Go
set_option maxRecDepth 100000
theorem seatTie1 : Tryd.prog.laidByTextLater [("given.example/pub-foolscap/pub/pdfcpu/pkg/pdfcpu.errInvalidXRefStreamWArray", Rows.laid_given_example_pub_foolscap_pub_pdfcpu_pkg_pdfcpu_errInvalidXRefStreamWArray), ("given.example/pub-foolscap/pub/pdfcpu/pkg/pdfcpu.errCorruptXRefStream", Rows.laid_given_example_pub_foolscap_pub_pdfcpu_pkg_pdfcpu_errCorruptXRefStream)] [.sentinel, .sentinel] true :=
  Program.laidByTextLater_by_one 47 8 2 (by kernel_rfl) (by kernel_rfl) (by kernel_rfl) (by kernel_rfl) (by kernel_rfl) (by kernel_rfl) (fun _ _ => by kernel_rfl)
theorem noOwnUnsafe : Tryd.pinned.checked.prog.headLifts.contains "ownunsafe" = false := by kernel_rfl
theorem tie : Tryd.prog.laidByTextLater [("given.example/pub-foolscap/pub/pdfcpu/pkg/pdfcpu.errInvalidXRefStreamWArray", Rows.laid_given_example_pub_foolscap_pub_pdfcpu_pkg_pdfcpu_errInvalidXRefStreamWArray), ("given.example/pub-foolscap/pub/pdfcpu/pkg/pdfcpu.errCorruptXRefStream", Rows.laid_given_example_pub_foolscap_pub_pdfcpu_pkg_pdfcpu_errCorruptXRefStream)] [.sentinel, .sentinel] true :=
  Program.laidByTextLater.sub seatTie1 ["given.example/pub-foolscap/pub/pdfcpu/pkg/pdfcpu.errInvalidXRefStreamWArray", "given.example/pub-foolscap/pub/pdfcpu/pkg/pdfcpu.errCorruptXRefStream"] (by kernel_rfl) (by kernel_rfl)
theorem fnStreamEntries_row_tie : Rows.fnStreamEntriesRow.laidByTextAt .later Tryd.pinned [.sentinel, .sentinel] true :=
  OpenClaim.laidByTextAt_later rfl rfl tie noOwnUnsafe
theorem fnStreamEntriesUpto_row_tie : Rows.fnStreamEntriesUptoRow.laidByTextAt .later Tryd.pinned [.sentinel, .sentinel] true :=
  OpenClaim.laidByTextAt_later rfl rfl tie noOwnUnsafe
end Go.Proofs.YtmkacgffdoifbaaDoor
