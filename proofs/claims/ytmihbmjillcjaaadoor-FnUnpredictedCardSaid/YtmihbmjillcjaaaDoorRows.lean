/-
  NARROWER THAN 'FOR EVERY INPUT', by the rows' own cells (each row's printed sentence says how): FnUnpredicted: ifaces, laid.
  DERIVED. THE GIVEN ROWS OF THIS SEAT. 1 by the template 'for every input the law returns true; each argument reads behind the call as it read before'; 0 by the template 'total and deterministic' (their statements: YtmihbmjillcjaaaDoorTotals.lean).
  GIVEN WITH THE SEED: the statements are not yours to turn. If you find one false, say at which input.
  Laid BY PROGRAM, IN A SANDBOX (cutbox-rows.mjs): the forced cells as the released guide's own fill.sh prints them over the translation 8e49fd206f58cbd7… (all of the seat's roots in one cut). By AI agents, Wed Nov 11 2026. No macro, syntax, notation, axiom, sorry.
-/
import Derived.Test.YtmihbmjillcjaaaDoorChecked
import GoSem.Claim
import GoSem.ClaimJoined
import GoSem.ClaimMapViews
import Derived.JoinedTies
import Derived.KernelRfl
namespace Go.Proofs.YtmihbmjillcjaaaDoor
/- THE CELL 'sum', in the pinned program and in every row, IS THE sha256 OF THE DUMP (.gsa) THAT YtmihbmjillcjaaaDoorProg.lean LOADS. Nothing in Lean hashes anything: it is a label: what it is worth is what the hold of that sum in a sandbox is worth. -/
noncomputable def Tryd.pinned : Pinned := { name := "ytmihbmjillcjaaadoor", sum := "8e49fd206f58cbd77acab059682b3e10e5897fbfdb88d4d88902769bb28a4652", checked := Tryd.checked }
namespace Rows
def none {H : Type} : Left H := { results := [], args := [] }

/- WHAT THE LISTED PACKAGE-LEVEL VARIABLES READ AS WHEN THE CALL BEGINS. Each datum BY PROGRAM (the guide's laid-datum.mjs) off the statement by which the dump's own 'gosem.cut.vars' lays the variable. In a bare row this is a premise. The card (YtmihbmjillcjaaaDoorCards.lean) ties it to the program's text. -/
def laid_given_example_pub_foolscap_pub_pdfcpu_pkg_pdfcpu_safemath_errIntegerOverflow {H : Type} : DataW H := .iface "*errors.errorString" (.ptr (.agg [.lit (.string [105, 110, 116, 101, 103, 101, 114, 32, 111, 118, 101, 114, 102, 108, 111, 119])]))
def laid_io_ErrShortBuffer {H : Type} : DataW H := .iface "*errors.errorString" (.ptr (.agg [.lit (.string [115, 104, 111, 114, 116, 32, 98, 117, 102, 102, 101, 114])]))
def laid_io_EOF {H : Type} : DataW H := .iface "*errors.errorString" (.ptr (.agg [.lit (.string [69, 79, 70])]))
def laid_io_ErrUnexpectedEOF {H : Type} : DataW H := .iface "*errors.errorString" (.ptr (.agg [.lit (.string [117, 110, 101, 120, 112, 101, 99, 116, 101, 100, 32, 69, 79, 70])]))
def laid_given_example_pub_foolscap_pub_pdfcpu_pkg_filter_ErrDecodeLimitExceeded {H : Type} : DataW H := .iface "*errors.errorString" (.ptr (.agg [.lit (.string [102, 105, 108, 116, 101, 114, 32, 100, 101, 99, 111, 100, 101, 32, 108, 105, 109, 105, 116, 32, 101, 120, 99, 101, 101, 100, 101, 100])]))

/-- 'laws.FnUnpredicted': WHATEVER THE INPUT: true; the input reads as it did. -/
def fnUnpredictedSpec : ChangeSpec := { name := "fnUnpredicted", vars := ["given.example/pub-foolscap/pub/pdfcpu/pkg/filter.ErrDecodeLimitExceeded", "given.example/pub-foolscap/pub/pdfcpu/pkg/pdfcpu/safemath.errIntegerOverflow"], fn := fun _ => fun
  | [d1, d2, d3, d4, d5, g1, g2] => { results := [.lit (.bool true)], args := [d1, d2, d3, d4, d5], vars := [g1, g2] }
  | _ => none }
def fnUnpredictedRow : OpenClaim := { program := "ytmihbmjillcjaaadoor", sum := "8e49fd206f58cbd77acab059682b3e10e5897fbfdb88d4d88902769bb28a4652", func := "given.example/pub-foolscap/laws.FnUnpredicted", spec := "fnUnpredicted", unfollowed := true, recurses := true, named := ["given.example/pub-foolscap/pub/pdfcpu/pkg/filter.ErrDecodeLimitExceeded", "given.example/pub-foolscap/pub/pdfcpu/pkg/pdfcpu/safemath.errIntegerOverflow", "io.ErrUnexpectedEOF", "io.EOF", "io.ErrShortBuffer"], ifaces := true, apart := false, laid := [("given.example/pub-foolscap/pub/pdfcpu/pkg/pdfcpu/safemath.errIntegerOverflow", laid_given_example_pub_foolscap_pub_pdfcpu_pkg_pdfcpu_safemath_errIntegerOverflow), ("io.ErrShortBuffer", laid_io_ErrShortBuffer), ("io.EOF", laid_io_EOF), ("io.ErrUnexpectedEOF", laid_io_ErrUnexpectedEOF), ("given.example/pub-foolscap/pub/pdfcpu/pkg/filter.ErrDecodeLimitExceeded", laid_given_example_pub_foolscap_pub_pdfcpu_pkg_filter_ErrDecodeLimitExceeded)] }
def FnUnpredictedSaid : Prop := fnUnpredictedRow.holds Tryd.pinned (OpenSpec.ofChange fnUnpredictedSpec)

/-- ITS FALSE NEIGHBOUR: 'it returns false'. Refute it at one input. -/
def fnUnpredictedWrong : ChangeSpec := { name := "fnUnpredicted", vars := ["given.example/pub-foolscap/pub/pdfcpu/pkg/filter.ErrDecodeLimitExceeded", "given.example/pub-foolscap/pub/pdfcpu/pkg/pdfcpu/safemath.errIntegerOverflow"], fn := fun _ => fun
  | [d1, d2, d3, d4, d5, g1, g2] => { results := [.lit (.bool false)], args := [d1, d2, d3, d4, d5], vars := [g1, g2] }
  | _ => none }
def FnUnpredictedWrongFalsely : Prop := fnUnpredictedRow.holds Tryd.pinned (OpenSpec.ofChange fnUnpredictedWrong)

/- THE SECOND FORM. 'bulk': how many values and letters a reading holds, each counted each time it is reached (what is shared counts as often as it is met; a slice's spare places count too). A statement '..UptoSaid' is the law's where the arguments, and the package variables that the reading takes, are together of bulk at most 1048576: NARROWER than '..Said'. Prove '..Said' where nothing that the law and all that it calls make is longer than what came in: it says more and counts as full. Else prove '..UptoSaid'. A law counts once. -/
mutual
def uptoBulk {H : Type} : DataW H → Nat
  | .lit (.string bytes) => bytes.length + 1
  | .lit _ => 1
  | .nil => 1
  | .ptr d => uptoBulk d + 1
  | .slice elems spare => uptoBulkAll elems + uptoBulkAll spare + 1
  | .agg parts => uptoBulkAll parts + 1
  | .iface _ d => uptoBulk d + 1
  | .map entries => uptoBulkEntries entries + 1
  | .held _ => 1
def uptoBulkAll {H : Type} : List (DataW H) → Nat
  | [] => 0
  | d :: r => uptoBulk d + uptoBulkAll r
def uptoBulkEntries {H : Type} : List (Lit × DataW H) → Nat
  | [] => 0
  | x :: r => uptoBulkEntry x + uptoBulkEntries r
def uptoBulkEntry {H : Type} : Lit × DataW H → Nat
  | (.string bytes, d) => bytes.length + uptoBulk d + 1
  | (_, d) => uptoBulk d + 1
 end
def uptoSmall : (H : Type) → List (DataW H) → Bool := fun _ ds => decide (uptoBulkAll ds ≤ 1048576)
def OpenSpec.upto (s : _root_.Go.ChangeSpec) : _root_.Go.OpenSpec := { _root_.Go.OpenSpec.ofChange s with cond := some uptoSmall }

/-- 'laws.FnUnpredicted', WHERE WHAT IT READS IS OF BULK AT MOST 1048576: true; the input reads as it did. -/
def fnUnpredictedUptoRow : OpenClaim := { program := "ytmihbmjillcjaaadoor", sum := "8e49fd206f58cbd77acab059682b3e10e5897fbfdb88d4d88902769bb28a4652", func := "given.example/pub-foolscap/laws.FnUnpredicted", spec := "fnUnpredicted", unfollowed := true, recurses := true, named := ["given.example/pub-foolscap/pub/pdfcpu/pkg/filter.ErrDecodeLimitExceeded", "given.example/pub-foolscap/pub/pdfcpu/pkg/pdfcpu/safemath.errIntegerOverflow", "io.ErrUnexpectedEOF", "io.EOF", "io.ErrShortBuffer"], ifaces := true, apart := false, laid := [("given.example/pub-foolscap/pub/pdfcpu/pkg/pdfcpu/safemath.errIntegerOverflow", laid_given_example_pub_foolscap_pub_pdfcpu_pkg_pdfcpu_safemath_errIntegerOverflow), ("io.ErrShortBuffer", laid_io_ErrShortBuffer), ("io.EOF", laid_io_EOF), ("io.ErrUnexpectedEOF", laid_io_ErrUnexpectedEOF), ("given.example/pub-foolscap/pub/pdfcpu/pkg/filter.ErrDecodeLimitExceeded", laid_given_example_pub_foolscap_pub_pdfcpu_pkg_filter_ErrDecodeLimitExceeded)], narrowed := true }
def FnUnpredictedUptoSaid : Prop := fnUnpredictedUptoRow.holds Tryd.pinned (OpenSpec.upto fnUnpredictedSpec)

end Rows
end Go.Proofs.YtmihbmjillcjaaaDoor
