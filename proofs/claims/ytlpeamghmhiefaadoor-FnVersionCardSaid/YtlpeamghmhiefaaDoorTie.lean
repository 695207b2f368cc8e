/-
  DERIVED. GIVEN WITH THE SEED: THE PROGRAM's TIES (one call each: nine closed facts by the kernel) AND EACH ROW's TIE, after the 31st guide's Derived/Test/Toyas{Tie, Card}.lean. No idea stands in it: it is a product of the set-up. Laid BY PROGRAM, IN A SANDBOX (cutbox-door.mjs). By AI agents, Wed Nov 11 2026. No macro, syntax, notation, axiom, sorry.
-/
import Derived.Test.YtlpeamghmhiefaaDoorRows
import Derived.LaidByTextLater
import Derived.SevenTiedAt
import Derived.LaidSub
import Derived.LaidOnce
namespace Go.Proofs.YtlpeamghmhiefaaDoor
open Go
set_option maxRecDepth 100000
theorem seatTie1 : Tryd.prog.laidByTextLater [("math/bits.deBruijn32tab", Rows.laid_math_bits_deBruijn32tab), ("math/bits.deBruijn64tab", Rows.laid_math_bits_deBruijn64tab), ("internal/strconv.uint64pow10", Rows.laid_internal_strconv_uint64pow10), ("unicode/utf8.acceptRanges", Rows.laid_unicode_utf8_acceptRanges), ("strconv.ErrRange", Rows.laid_strconv_ErrRange), ("strconv.ErrSyntax", Rows.laid_strconv_ErrSyntax), ("encoding/hex.ErrLength", Rows.laid_encoding_hex_ErrLength), ("given.example/pub-foolscap/pub/pdfcpu/pkg/pdfcpu/model.ErrXRefStreamIndexSizeMismatch", Rows.laid_given_example_pub_foolscap_pub_pdfcpu_pkg_pdfcpu_model_ErrXRefStreamIndexSizeMismatch), ("given.example/pub-foolscap/pub/pdfcpu/pkg/pdfcpu/model.errXrefStreamMissingW", Rows.laid_given_example_pub_foolscap_pub_pdfcpu_pkg_pdfcpu_model_errXrefStreamMissingW), ("given.example/pub-foolscap/pub/pdfcpu/pkg/pdfcpu/model.errXrefStreamCorruptW", Rows.laid_given_example_pub_foolscap_pub_pdfcpu_pkg_pdfcpu_model_errXrefStreamCorruptW), ("given.example/pub-foolscap/pub/pdfcpu/pkg/pdfcpu/model.errXrefStreamCorruptIndex", Rows.laid_given_example_pub_foolscap_pub_pdfcpu_pkg_pdfcpu_model_errXrefStreamCorruptIndex), ("given.example/pub-foolscap/pub/pdfcpu/pkg/pdfcpu/model.ErrCorruptObjectOffset", Rows.laid_given_example_pub_foolscap_pub_pdfcpu_pkg_pdfcpu_model_ErrCorruptObjectOffset), ("given.example/pub-foolscap/pub/pdfcpu/pkg/pdfcpu.errInvalidXRefStreamWArray", Rows.laid_given_example_pub_foolscap_pub_pdfcpu_pkg_pdfcpu_errInvalidXRefStreamWArray), ("given.example/pub-foolscap/pub/pdfcpu/pkg/pdfcpu.errCorruptXRefStream", Rows.laid_given_example_pub_foolscap_pub_pdfcpu_pkg_pdfcpu_errCorruptXRefStream)] [.data, .data, .data, .data, .sentinel, .sentinel, .sentinel, .sentinel, .sentinel, .sentinel, .sentinel, .sentinel, .sentinel, .sentinel] true :=
  Program.laidByTextLater_by_one 224 8 65 (by kernel_rfl) (by kernel_rfl) (by kernel_rfl) (by kernel_rfl) (by kernel_rfl) (by kernel_rfl) (fun _ _ => by kernel_rfl)
theorem pin_laid_unicode_utf8_first : Tryd.pinned.checked.prog.pinnedFits "unicode/utf8.first" = true := by kernel_rfl
theorem noOwnUnsafe : Tryd.pinned.checked.prog.headLifts.contains "ownunsafe" = false := by kernel_rfl
theorem tie : Tryd.prog.laidByTextLater [("math/bits.deBruijn32tab", Rows.laid_math_bits_deBruijn32tab), ("math/bits.deBruijn64tab", Rows.laid_math_bits_deBruijn64tab), ("internal/strconv.uint64pow10", Rows.laid_internal_strconv_uint64pow10)] [.data, .data, .data] true :=
  Program.laidByTextLater.sub seatTie1 ["math/bits.deBruijn32tab", "math/bits.deBruijn64tab", "internal/strconv.uint64pow10"] (by kernel_rfl) (by kernel_rfl)
theorem fnVersion_row_tie : Rows.fnVersionRow.laidByTextAt .later Tryd.pinned [.data, .data, .data] true :=
  OpenClaim.laidByTextAt_later rfl rfl tie noOwnUnsafe
theorem tie2 : Tryd.prog.laidByTextLater [("encoding/hex.ErrLength", Rows.laid_encoding_hex_ErrLength), ("given.example/pub-foolscap/pub/pdfcpu/pkg/pdfcpu/model.ErrXRefStreamIndexSizeMismatch", Rows.laid_given_example_pub_foolscap_pub_pdfcpu_pkg_pdfcpu_model_ErrXRefStreamIndexSizeMismatch), ("given.example/pub-foolscap/pub/pdfcpu/pkg/pdfcpu/model.errXrefStreamMissingW", Rows.laid_given_example_pub_foolscap_pub_pdfcpu_pkg_pdfcpu_model_errXrefStreamMissingW), ("given.example/pub-foolscap/pub/pdfcpu/pkg/pdfcpu/model.errXrefStreamCorruptW", Rows.laid_given_example_pub_foolscap_pub_pdfcpu_pkg_pdfcpu_model_errXrefStreamCorruptW), ("given.example/pub-foolscap/pub/pdfcpu/pkg/pdfcpu/model.errXrefStreamCorruptIndex", Rows.laid_given_example_pub_foolscap_pub_pdfcpu_pkg_pdfcpu_model_errXrefStreamCorruptIndex)] [.sentinel, .sentinel, .sentinel, .sentinel, .sentinel] true :=
  Program.laidByTextLater.sub seatTie1 ["encoding/hex.ErrLength", "given.example/pub-foolscap/pub/pdfcpu/pkg/pdfcpu/model.ErrXRefStreamIndexSizeMismatch", "given.example/pub-foolscap/pub/pdfcpu/pkg/pdfcpu/model.errXrefStreamMissingW", "given.example/pub-foolscap/pub/pdfcpu/pkg/pdfcpu/model.errXrefStreamCorruptW", "given.example/pub-foolscap/pub/pdfcpu/pkg/pdfcpu/model.errXrefStreamCorruptIndex"] (by kernel_rfl) (by kernel_rfl)
theorem fnXRefStream_row_tie : Rows.fnXRefStreamRow.laidByTextAt .later Tryd.pinned [.sentinel, .sentinel, .sentinel, .sentinel, .sentinel] true :=
  OpenClaim.laidByTextAt_later rfl rfl tie2 noOwnUnsafe
theorem fits3 : Tryd.pinned.checked.prog.listedFits [("math/bits.deBruijn32tab", Rows.laid_math_bits_deBruijn32tab), ("math/bits.deBruijn64tab", Rows.laid_math_bits_deBruijn64tab), ("internal/strconv.uint64pow10", Rows.laid_internal_strconv_uint64pow10), ("unicode/utf8.acceptRanges", Rows.laid_unicode_utf8_acceptRanges), ("strconv.ErrRange", Rows.laid_strconv_ErrRange), ("strconv.ErrSyntax", Rows.laid_strconv_ErrSyntax), ("given.example/pub-foolscap/pub/pdfcpu/pkg/pdfcpu/model.ErrCorruptObjectOffset", Rows.laid_given_example_pub_foolscap_pub_pdfcpu_pkg_pdfcpu_model_ErrCorruptObjectOffset), ("unicode/utf8.first", Rows.laid_unicode_utf8_first)] = true := by
  unfold Program.listedFits
  rw [noOwnUnsafe]
  kernel_rfl
theorem tie3 : Tryd.prog.laidByTextLater [("math/bits.deBruijn32tab", Rows.laid_math_bits_deBruijn32tab), ("math/bits.deBruijn64tab", Rows.laid_math_bits_deBruijn64tab), ("internal/strconv.uint64pow10", Rows.laid_internal_strconv_uint64pow10), ("unicode/utf8.acceptRanges", Rows.laid_unicode_utf8_acceptRanges), ("strconv.ErrRange", Rows.laid_strconv_ErrRange), ("strconv.ErrSyntax", Rows.laid_strconv_ErrSyntax), ("given.example/pub-foolscap/pub/pdfcpu/pkg/pdfcpu/model.ErrCorruptObjectOffset", Rows.laid_given_example_pub_foolscap_pub_pdfcpu_pkg_pdfcpu_model_ErrCorruptObjectOffset)] [.data, .data, .data, .data, .sentinel, .sentinel, .sentinel] true :=
  Program.laidByTextLater.sub seatTie1 ["math/bits.deBruijn32tab", "math/bits.deBruijn64tab", "internal/strconv.uint64pow10", "unicode/utf8.acceptRanges", "strconv.ErrRange", "strconv.ErrSyntax", "given.example/pub-foolscap/pub/pdfcpu/pkg/pdfcpu/model.ErrCorruptObjectOffset"] (by kernel_rfl) (by kernel_rfl)
theorem fnAttributes_row_tie : Rows.fnAttributesRow.laidByTextAt .later Tryd.pinned [.data, .data, .data, .data, .sentinel, .sentinel, .sentinel, .pinned] true :=
  OpenClaim.laidByTextAt_pinned rfl rfl tie3 rfl rfl rfl rfl (fun y hy _e => by
    simp only [Rows.fnAttributesRow, List.zip_cons_cons, List.zip_nil_right, List.mem_cons, List.mem_nil_iff, or_false] at hy
    rcases hy with rfl | rfl | rfl | rfl | rfl | rfl | rfl | rfl
    · cases _e
    · cases _e
    · cases _e
    · cases _e
    · cases _e
    · cases _e
    · cases _e
    · exact ⟨pin_laid_unicode_utf8_first, by kernel_rfl⟩) fits3
theorem tie4 : Tryd.prog.laidByTextLater [("given.example/pub-foolscap/pub/pdfcpu/pkg/pdfcpu.errInvalidXRefStreamWArray", Rows.laid_given_example_pub_foolscap_pub_pdfcpu_pkg_pdfcpu_errInvalidXRefStreamWArray), ("given.example/pub-foolscap/pub/pdfcpu/pkg/pdfcpu.errCorruptXRefStream", Rows.laid_given_example_pub_foolscap_pub_pdfcpu_pkg_pdfcpu_errCorruptXRefStream)] [.sentinel, .sentinel] true :=
  Program.laidByTextLater.sub seatTie1 ["given.example/pub-foolscap/pub/pdfcpu/pkg/pdfcpu.errInvalidXRefStreamWArray", "given.example/pub-foolscap/pub/pdfcpu/pkg/pdfcpu.errCorruptXRefStream"] (by kernel_rfl) (by kernel_rfl)
theorem fnStreamEntries_row_tie : Rows.fnStreamEntriesRow.laidByTextAt .later Tryd.pinned [.sentinel, .sentinel] true :=
  OpenClaim.laidByTextAt_later rfl rfl tie4 noOwnUnsafe
theorem fnVersionUpto_row_tie : Rows.fnVersionUptoRow.laidByTextAt .later Tryd.pinned [.data, .data, .data] true :=
  OpenClaim.laidByTextAt_later rfl rfl tie noOwnUnsafe
theorem fnXRefStreamUpto_row_tie : Rows.fnXRefStreamUptoRow.laidByTextAt .later Tryd.pinned [.sentinel, .sentinel, .sentinel, .sentinel, .sentinel] true :=
  OpenClaim.laidByTextAt_later rfl rfl tie2 noOwnUnsafe
theorem fnAttributesUpto_row_tie : Rows.fnAttributesUptoRow.laidByTextAt .later Tryd.pinned [.data, .data, .data, .data, .sentinel, .sentinel, .sentinel, .pinned] true :=
  OpenClaim.laidByTextAt_pinned rfl rfl tie3 rfl rfl rfl rfl (fun y hy _e => by
    simp only [Rows.fnAttributesUptoRow, List.zip_cons_cons, List.zip_nil_right, List.mem_cons, List.mem_nil_iff, or_false] at hy
    rcases hy with rfl | rfl | rfl | rfl | rfl | rfl | rfl | rfl
    · cases _e
    · cases _e
    · cases _e
    · cases _e
    · cases _e
    · cases _e
    · cases _e
    · exact ⟨pin_laid_unicode_utf8_first, by kernel_rfl⟩) fits3
theorem fnStreamEntriesUpto_row_tie : Rows.fnStreamEntriesUptoRow.laidByTextAt .later Tryd.pinned [.sentinel, .sentinel] true :=
  OpenClaim.laidByTextAt_later rfl rfl tie4 noOwnUnsafe
end Go.Proofs.YtlpeamghmhiefaaDoor
