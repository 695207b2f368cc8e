/-
  DERIVED. GIVEN WITH THE SEED: THE PROGRAM's TIES (one call each: nine closed facts by the kernel) AND EACH ROW's TIE, after the 31st guide's Derived/Test/Toyas{Tie, Card}.lean. No idea stands in it: it is a product of the set-up. Laid BY PROGRAM, IN A SANDBOX (cutbox-door.mjs). By AI agents, Wed Nov 11 2026. No macro, syntax, notation, axiom, sorry.
-/
import Derived.Test.YtcandemhaddkjaaDoorRows
import Derived.LaidByTextLater
import Derived.SevenTiedAt
import Derived.LaidSub
import Derived.LaidOnce
namespace Go.Proofs.YtcandemhaddkjaaDoor
open Go
set_option maxRecDepth 100000
theorem seatTie1 : Tryd.prog.laidByTextLater [("encoding/hex.ErrLength", Rows.laid_encoding_hex_ErrLength), ("given.example/pub-foolscap/pub/pdfcpu/pkg/pdfcpu/model.ErrXRefStreamIndexSizeMismatch", Rows.laid_given_example_pub_foolscap_pub_pdfcpu_pkg_pdfcpu_model_ErrXRefStreamIndexSizeMismatch), ("given.example/pub-foolscap/pub/pdfcpu/pkg/pdfcpu/model.errXrefStreamMissingW", Rows.laid_given_example_pub_foolscap_pub_pdfcpu_pkg_pdfcpu_model_errXrefStreamMissingW), ("given.example/pub-foolscap/pub/pdfcpu/pkg/pdfcpu/model.errXrefStreamCorruptW", Rows.laid_given_example_pub_foolscap_pub_pdfcpu_pkg_pdfcpu_model_errXrefStreamCorruptW), ("given.example/pub-foolscap/pub/pdfcpu/pkg/pdfcpu/model.errXrefStreamCorruptIndex", Rows.laid_given_example_pub_foolscap_pub_pdfcpu_pkg_pdfcpu_model_errXrefStreamCorruptIndex)] [.sentinel, .sentinel, .sentinel, .sentinel, .sentinel] true :=
  Program.laidByTextLater_by_one 104 8 2 (by kernel_rfl) (by kernel_rfl) (by kernel_rfl) (by kernel_rfl) (by kernel_rfl) (by kernel_rfl) (fun _ _ => by kernel_rfl)
theorem noOwnUnsafe : Tryd.pinned.checked.prog.headLifts.contains "ownunsafe" = false := by kernel_rfl
theorem tie : Tryd.prog.laidByTextLater [("encoding/hex.ErrLength", Rows.laid_encoding_hex_ErrLength), ("given.example/pub-foolscap/pub/pdfcpu/pkg/pdfcpu/model.ErrXRefStreamIndexSizeMismatch", Rows.laid_given_example_pub_foolscap_pub_pdfcpu_pkg_pdfcpu_model_ErrXRefStreamIndexSizeMismatch), ("given.example/pub-foolscap/pub/pdfcpu/pkg/pdfcpu/model.errXrefStreamMissingW", Rows.laid_given_example_pub_foolscap_pub_pdfcpu_pkg_pdfcpu_model_errXrefStreamMissingW), ("given.example/pub-foolscap/pub/pdfcpu/pkg/pdfcpu/model.errXrefStreamCorruptW", Rows.laid_given_example_pub_foolscap_pub_pdfcpu_pkg_pdfcpu_model_errXrefStreamCorruptW), ("given.example/pub-foolscap/pub/pdfcpu/pkg/pdfcpu/model.errXrefStreamCorruptIndex", Rows.laid_given_example_pub_foolscap_pub_pdfcpu_pkg_pdfcpu_model_errXrefStreamCorruptIndex)] [.sentinel, .sentinel, .sentinel, .sentinel, .sentinel] true :=
  Program.laidByTextLater.sub seatTie1 ["encoding/hex.ErrLength", "given.example/pub-foolscap/pub/pdfcpu/pkg/pdfcpu/model.ErrXRefStreamIndexSizeMismatch", "given.example/pub-foolscap/pub/pdfcpu/pkg/pdfcpu/model.errXrefStreamMissingW", "given.example/pub-foolscap/pub/pdfcpu/pkg/pdfcpu/model.errXrefStreamCorruptW", "given.example/pub-foolscap/pub/pdfcpu/pkg/pdfcpu/model.errXrefStreamCorruptIndex"] (by kernel_rfl) (by kernel_rfl)
theorem fnXRefStream_row_tie : Rows.fnXRefStreamRow.laidByTextAt .later Tryd.pinned [.sentinel, .sentinel, .sentinel, .sentinel, .sentinel] true :=
  OpenClaim.laidByTextAt_later rfl rfl tie noOwnUnsafe
theorem fnXRefStreamUpto_row_tie : Rows.fnXRefStreamUptoRow.laidByTextAt .later Tryd.pinned [.sentinel, .sentinel, .sentinel, .sentinel, .sentinel] true :=
  OpenClaim.laidByTextAt_later rfl rfl tie noOwnUnsafe
end Go.Proofs.YtcandemhaddkjaaDoor
