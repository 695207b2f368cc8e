/-
  NARROWER THAN 'FOR EVERY INPUT', by the rows' own cells (each row's printed sentence says how): FnXRefStream: ifaces, laid.
  DERIVED. THE GIVEN ROWS OF THIS SEAT. 1 by the template 'for every input the law returns true; each argument reads behind the call as it read before'; 0 by the template 'total and deterministic' (their statements: YtcandemhaddkjaaDoorTotals.lean).
  GIVEN WITH THE SEED: the statements are not yours to turn. If you find one false, say at which input.
  Laid BY PROGRAM, IN A SANDBOX (cutbox-rows.mjs): the forced cells as the released guide's own fill.sh prints them over the translation 7d32852a638a7787… (all of the seat's roots in one cut). By AI agents, Wed Nov 11 2026. No macro, syntax, notation, axiom, sorry.
-/
import Derived.Test.YtcandemhaddkjaaDoorChecked
import GoSem.Claim
import GoSem.ClaimJoined
import GoSem.ClaimMapViews
import Derived.JoinedTies
import Derived.KernelRfl
namespace Go.Proofs.YtcandemhaddkjaaDoor
/- THE CELL 'sum', in the pinned program and in every row, IS THE sha256 OF THE DUMP (.gsa) THAT YtcandemhaddkjaaDoorProg.lean LOADS. Nothing in Lean hashes anything: it is a label: what it is worth is what the hold of that sum in a sandbox is worth. -/
noncomputable def Tryd.pinned : Pinned := { name := "ytcandemhaddkjaadoor", sum := "7d32852a638a7787be71e76ef8a2c2dfee4b84aa9b17d8cf8ca40541672c14b5", checked := Tryd.checked }
namespace Rows
def none {H : Type} : Left H := { results := [], args := [] }

/- WHAT THE LISTED PACKAGE-LEVEL VARIABLES READ AS WHEN THE CALL BEGINS. Each datum BY PROGRAM (the guide's laid-datum.mjs) off the statement by which the dump's own 'gosem.cut.vars' lays the variable. In a bare row this is a premise. The card (YtcandemhaddkjaaDoorCards.lean) ties it to the program's text. -/
def laid_encoding_hex_ErrLength {H : Type} : DataW H := .iface "*errors.errorString" (.ptr (.agg [.lit (.string [101, 110, 99, 111, 100, 105, 110, 103, 47, 104, 101, 120, 58, 32, 111, 100, 100, 32, 108, 101, 110, 103, 116, 104, 32, 104, 101, 120, 32, 115, 116, 114, 105, 110, 103])]))
def laid_given_example_pub_foolscap_pub_pdfcpu_pkg_pdfcpu_model_ErrXRefStreamIndexSizeMismatch {H : Type} : DataW H := .iface "*errors.errorString" (.ptr (.agg [.lit (.string [112, 97, 114, 115, 101, 58, 32, 120, 114, 101, 102, 32, 115, 116, 114, 101, 97, 109, 32, 73, 110, 100, 101, 120, 32, 101, 120, 99, 101, 101, 100, 115, 32, 83, 105, 122, 101])]))
def laid_given_example_pub_foolscap_pub_pdfcpu_pkg_pdfcpu_model_errXrefStreamMissingW {H : Type} : DataW H := .iface "*errors.errorString" (.ptr (.agg [.lit (.string [112, 97, 114, 115, 101, 58, 32, 120, 114, 101, 102, 32, 115, 116, 114, 101, 97, 109, 32, 100, 105, 99, 116, 32, 109, 105, 115, 115, 105, 110, 103, 32, 101, 110, 116, 114, 121, 32, 87])]))
def laid_given_example_pub_foolscap_pub_pdfcpu_pkg_pdfcpu_model_errXrefStreamCorruptW {H : Type} : DataW H := .iface "*errors.errorString" (.ptr (.agg [.lit (.string [112, 97, 114, 115, 101, 58, 32, 120, 114, 101, 102, 32, 115, 116, 114, 101, 97, 109, 32, 100, 105, 99, 116, 32, 99, 111, 114, 114, 117, 112, 116, 32, 101, 110, 116, 114, 121, 32, 87, 58, 32, 101, 120, 112, 101, 99, 116, 105, 110, 103, 32, 97, 114, 114, 97, 121, 32, 111, 102, 32, 51, 32, 105, 110, 116])]))
def laid_given_example_pub_foolscap_pub_pdfcpu_pkg_pdfcpu_model_errXrefStreamCorruptIndex {H : Type} : DataW H := .iface "*errors.errorString" (.ptr (.agg [.lit (.string [112, 97, 114, 115, 101, 58, 32, 120, 114, 101, 102, 32, 115, 116, 114, 101, 97, 109, 32, 100, 105, 99, 116, 32, 99, 111, 114, 114, 117, 112, 116, 32, 101, 110, 116, 114, 121, 32, 73, 110, 100, 101, 120])]))

/-- 'laws.FnXRefStream': WHATEVER THE INPUT: true; the input reads as it did. -/
def fnXRefStreamSpec : ChangeSpec := { name := "fnXRefStream", vars := ["given.example/pub-foolscap/pub/pdfcpu/pkg/pdfcpu/model.errXrefStreamCorruptIndex", "given.example/pub-foolscap/pub/pdfcpu/pkg/pdfcpu/model.ErrXRefStreamIndexSizeMismatch", "given.example/pub-foolscap/pub/pdfcpu/pkg/pdfcpu/model.errXrefStreamMissingW", "given.example/pub-foolscap/pub/pdfcpu/pkg/pdfcpu/model.errXrefStreamCorruptW"], fn := fun _ => fun
  | [d1, d2, d3, d4, g1, g2, g3, g4] => { results := [.lit (.bool true)], args := [d1, d2, d3, d4], vars := [g1, g2, g3, g4] }
  | _ => none }
def fnXRefStreamRow : OpenClaim := { program := "ytcandemhaddkjaadoor", sum := "7d32852a638a7787be71e76ef8a2c2dfee4b84aa9b17d8cf8ca40541672c14b5", func := "given.example/pub-foolscap/laws.FnXRefStream", spec := "fnXRefStream", inPlace := ["internal/abi.NoEscape"], unfollowed := true, recurses := true, named := ["encoding/hex.ErrLength", "given.example/pub-foolscap/pub/pdfcpu/pkg/pdfcpu/model.errXrefStreamCorruptIndex", "given.example/pub-foolscap/pub/pdfcpu/pkg/pdfcpu/model.ErrXRefStreamIndexSizeMismatch", "given.example/pub-foolscap/pub/pdfcpu/pkg/pdfcpu/model.errXrefStreamMissingW", "given.example/pub-foolscap/pub/pdfcpu/pkg/pdfcpu/model.errXrefStreamCorruptW"], ifaces := true, apart := false, laid := [("encoding/hex.ErrLength", laid_encoding_hex_ErrLength), ("given.example/pub-foolscap/pub/pdfcpu/pkg/pdfcpu/model.ErrXRefStreamIndexSizeMismatch", laid_given_example_pub_foolscap_pub_pdfcpu_pkg_pdfcpu_model_ErrXRefStreamIndexSizeMismatch), ("given.example/pub-foolscap/pub/pdfcpu/pkg/pdfcpu/model.errXrefStreamMissingW", laid_given_example_pub_foolscap_pub_pdfcpu_pkg_pdfcpu_model_errXrefStreamMissingW), ("given.example/pub-foolscap/pub/pdfcpu/pkg/pdfcpu/model.errXrefStreamCorruptW", laid_given_example_pub_foolscap_pub_pdfcpu_pkg_pdfcpu_model_errXrefStreamCorruptW), ("given.example/pub-foolscap/pub/pdfcpu/pkg/pdfcpu/model.errXrefStreamCorruptIndex", laid_given_example_pub_foolscap_pub_pdfcpu_pkg_pdfcpu_model_errXrefStreamCorruptIndex)] }
def FnXRefStreamSaid : Prop := fnXRefStreamRow.holds Tryd.pinned (OpenSpec.ofChange fnXRefStreamSpec)

/-- ITS FALSE NEIGHBOUR: 'it returns false'. Refute it at one input. -/
def fnXRefStreamWrong : ChangeSpec := { name := "fnXRefStream", vars := ["given.example/pub-foolscap/pub/pdfcpu/pkg/pdfcpu/model.errXrefStreamCorruptIndex", "given.example/pub-foolscap/pub/pdfcpu/pkg/pdfcpu/model.ErrXRefStreamIndexSizeMismatch", "given.example/pub-foolscap/pub/pdfcpu/pkg/pdfcpu/model.errXrefStreamMissingW", "given.example/pub-foolscap/pub/pdfcpu/pkg/pdfcpu/model.errXrefStreamCorruptW"], fn := fun _ => fun
  | [d1, d2, d3, d4, g1, g2, g3, g4] => { results := [.lit (.bool false)], args := [d1, d2, d3, d4], vars := [g1, g2, g3, g4] }
  | _ => none }
def FnXRefStreamWrongFalsely : Prop := fnXRefStreamRow.holds Tryd.pinned (OpenSpec.ofChange fnXRefStreamWrong)

/- THE SECOND FORM. 'bulk': how many values and letters a reading holds, each counted each time it is reached (what is shared counts as often as it is met; a slice's spare places count too). A statement '..UptoSaid' is the law's where the arguments, and the package variables that the reading takes, are together of bulk at most 1048576: NARROWER than '..Said'. Prove '..Said' where nothing that the law and all that it calls make is longer than what came in: it says more and counts as full. Else prove '..UptoSaid'. A law counts once. -/
mutual
def uptoBulk {H : Type} : DataW H → Nat
  | .lit (.string bytes) => bytes.length + 1
  | .lit _ => 1
  | .nil => 1
  | .ptr d => uptoBulk d + 1
  | .slice elems spare => uptoBulkAll elems + uptoBulkAll spare + 1
  | .agg parts => uptoBulkAll parts + 1
  | .iface _ d => uptoBulk d + 1
  | .map entries => uptoBulkEntries entries + 1
  | .held _ => 1
def uptoBulkAll {H : Type} : List (DataW H) → Nat
  | [] => 0
  | d :: r => uptoBulk d + uptoBulkAll r
def uptoBulkEntries {H : Type} : List (Lit × DataW H) → Nat
  | [] => 0
  | x :: r => uptoBulkEntry x + uptoBulkEntries r
def uptoBulkEntry {H : Type} : Lit × DataW H → Nat
  | (.string bytes, d) => bytes.length + uptoBulk d + 1
  | (_, d) => uptoBulk d + 1
 end
def uptoSmall : (H : Type) → List (DataW H) → Bool := fun _ ds => decide (uptoBulkAll ds ≤ 1048576)
def OpenSpec.upto (s : _root_.Go.ChangeSpec) : _root_.Go.OpenSpec := { _root_.Go.OpenSpec.ofChange s with cond := some uptoSmall }

/-- 'laws.FnXRefStream', WHERE WHAT IT READS IS OF BULK AT MOST 1048576: true; the input reads as it did. -/
def fnXRefStreamUptoRow : OpenClaim := { program := "ytcandemhaddkjaadoor", sum := "7d32852a638a7787be71e76ef8a2c2dfee4b84aa9b17d8cf8ca40541672c14b5", func := "given.example/pub-foolscap/laws.FnXRefStream", spec := "fnXRefStream", inPlace := ["internal/abi.NoEscape"], unfollowed := true, recurses := true, named := ["encoding/hex.ErrLength", "given.example/pub-foolscap/pub/pdfcpu/pkg/pdfcpu/model.errXrefStreamCorruptIndex", "given.example/pub-foolscap/pub/pdfcpu/pkg/pdfcpu/model.ErrXRefStreamIndexSizeMismatch", "given.example/pub-foolscap/pub/pdfcpu/pkg/pdfcpu/model.errXrefStreamMissingW", "given.example/pub-foolscap/pub/pdfcpu/pkg/pdfcpu/model.errXrefStreamCorruptW"], ifaces := true, apart := false, laid := [("encoding/hex.ErrLength", laid_encoding_hex_ErrLength), ("given.example/pub-foolscap/pub/pdfcpu/pkg/pdfcpu/model.ErrXRefStreamIndexSizeMismatch", laid_given_example_pub_foolscap_pub_pdfcpu_pkg_pdfcpu_model_ErrXRefStreamIndexSizeMismatch), ("given.example/pub-foolscap/pub/pdfcpu/pkg/pdfcpu/model.errXrefStreamMissingW", laid_given_example_pub_foolscap_pub_pdfcpu_pkg_pdfcpu_model_errXrefStreamMissingW), ("given.example/pub-foolscap/pub/pdfcpu/pkg/pdfcpu/model.errXrefStreamCorruptW", laid_given_example_pub_foolscap_pub_pdfcpu_pkg_pdfcpu_model_errXrefStreamCorruptW), ("given.example/pub-foolscap/pub/pdfcpu/pkg/pdfcpu/model.errXrefStreamCorruptIndex", laid_given_example_pub_foolscap_pub_pdfcpu_pkg_pdfcpu_model_errXrefStreamCorruptIndex)], narrowed := true }
def FnXRefStreamUptoSaid : Prop := fnXRefStreamUptoRow.holds Tryd.pinned (OpenSpec.upto fnXRefStreamSpec)

end Rows
end Go.Proofs.YtcandemhaddkjaaDoor
