/-
  NARROWER THAN 'FOR EVERY INPUT', by the rows' own cells (each row's printed sentence says how): FnStreamEntries: ifaces, laid.
  DERIVED. THE GIVEN ROWS OF THIS SEAT. 1 by the template 'for every input the law returns true; each argument reads behind the call as it read before'; 0 by the template 'total and deterministic' (their statements: YtmkacgffdoifbaaDoorTotals.lean).
  GIVEN WITH THE SEED: the statements are not yours to turn. If you find one false, say at which input.
  Laid BY PROGRAM, IN A SANDBOX (cutbox-rows.mjs): the forced cells as the released guide's own fill.sh prints them over the translation 42b8bfbf3076c00c… (all of the seat's roots in one cut). By AI agents, Wed Nov 11 2026. No macro, syntax, notation, axiom, sorry.
-/
import Derived.Test.YtmkacgffdoifbaaDoorChecked
import GoSem.Claim
import GoSem.ClaimJoined
import GoSem.ClaimMapViews
import Derived.JoinedTies
import Derived.KernelRfl
namespace Go.Proofs.YtmkacgffdoifbaaDoor
/- THE CELL 'sum', in the pinned program and in every row, IS THE sha256 OF THE DUMP (.gsa) THAT YtmkacgffdoifbaaDoorProg.lean LOADS. Nothing in Lean hashes anything: it is a label: what it is worth is what the hold of that sum in a sandbox is worth. -/
noncomputable def Tryd.pinned : Pinned := { name := "ytmkacgffdoifbaadoor", sum := "42b8bfbf3076c00cb303d1e4ba5dc56ae2c9ad15f47019ad0e201b19d804097a", checked := Tryd.checked }
namespace Rows
def none {H : Type} : Left H := { results := [], args := [] }

/- WHAT THE LISTED PACKAGE-LEVEL VARIABLES READ AS WHEN THE CALL BEGINS. Each datum BY PROGRAM (the guide's laid-datum.mjs) off the statement by which the dump's own 'gosem.cut.vars' lays the variable. In a bare row this is a premise. The card (YtmkacgffdoifbaaDoorCards.lean) ties it to the program's text. -/
def laid_given_example_pub_foolscap_pub_pdfcpu_pkg_pdfcpu_errInvalidXRefStreamWArray {H : Type} : DataW H := .iface "*errors.errorString" (.ptr (.agg [.lit (.string [105, 110, 118, 97, 108, 105, 100, 32, 120, 114, 101, 102, 32, 115, 116, 114, 101, 97, 109, 32, 87, 32, 97, 114, 114, 97, 121])]))
def laid_given_example_pub_foolscap_pub_pdfcpu_pkg_pdfcpu_errCorruptXRefStream {H : Type} : DataW H := .iface "*errors.errorString" (.ptr (.agg [.lit (.string [99, 111, 114, 114, 117, 112, 116, 32, 120, 114, 101, 102, 32, 115, 116, 114, 101, 97, 109])]))

/-- 'laws.FnStreamEntries': WHATEVER THE INPUT: true; the input reads as it did. -/
def fnStreamEntriesSpec : ChangeSpec := { name := "fnStreamEntries", vars := ["given.example/pub-foolscap/pub/pdfcpu/pkg/pdfcpu.errInvalidXRefStreamWArray", "given.example/pub-foolscap/pub/pdfcpu/pkg/pdfcpu.errCorruptXRefStream"], fn := fun _ => fun
  | [d1, d2, g1, g2] => { results := [.lit (.bool true)], args := [d1, d2], vars := [g1, g2] }
  | _ => none }
def fnStreamEntriesRow : OpenClaim := { program := "ytmkacgffdoifbaadoor", sum := "42b8bfbf3076c00cb303d1e4ba5dc56ae2c9ad15f47019ad0e201b19d804097a", func := "given.example/pub-foolscap/laws.FnStreamEntries", spec := "fnStreamEntries", inPlace := ["internal/reflectlite.ValueOf", "internal/reflectlite.Swapper", "(internal/reflectlite.Value).Len"], unfollowed := true, recurses := true, named := ["given.example/pub-foolscap/pub/pdfcpu/pkg/pdfcpu.errInvalidXRefStreamWArray", "given.example/pub-foolscap/pub/pdfcpu/pkg/pdfcpu.errCorruptXRefStream"], ifaces := true, apart := false, laid := [("given.example/pub-foolscap/pub/pdfcpu/pkg/pdfcpu.errInvalidXRefStreamWArray", laid_given_example_pub_foolscap_pub_pdfcpu_pkg_pdfcpu_errInvalidXRefStreamWArray), ("given.example/pub-foolscap/pub/pdfcpu/pkg/pdfcpu.errCorruptXRefStream", laid_given_example_pub_foolscap_pub_pdfcpu_pkg_pdfcpu_errCorruptXRefStream)] }
def FnStreamEntriesSaid : Prop := fnStreamEntriesRow.holds Tryd.pinned (OpenSpec.ofChange fnStreamEntriesSpec)

/-- ITS FALSE NEIGHBOUR: 'it returns false'. Refute it at one input. -/
def fnStreamEntriesWrong : ChangeSpec := { name := "fnStreamEntries", vars := ["given.example/pub-foolscap/pub/pdfcpu/pkg/pdfcpu.errInvalidXRefStreamWArray", "given.example/pub-foolscap/pub/pdfcpu/pkg/pdfcpu.errCorruptXRefStream"], fn := fun _ => fun
  | [d1, d2, g1, g2] => { results := [.lit (.bool false)], args := [d1, d2], vars := [g1, g2] }
  | _ => none }
def FnStreamEntriesWrongFalsely : Prop := fnStreamEntriesRow.holds Tryd.pinned (OpenSpec.ofChange fnStreamEntriesWrong)

/- THE SECOND FORM. 'bulk': how many values and letters a reading holds, each counted each time it is reached (what is shared counts as often as it is met; a slice's spare places count too). A statement '..UptoSaid' is the law's where the arguments, and the package variables that the reading takes, are together of bulk at most 1048576: NARROWER than '..Said'. Prove '..Said' where nothing that the law and all that it calls make is longer than what came in: it says more and counts as full. Else prove '..UptoSaid'. A law counts once. -/
mutual
def uptoBulk {H : Type} : DataW H → Nat
  | .lit (.string bytes) => bytes.length + 1
  | .lit _ => 1
  | .nil => 1
  | .ptr d => uptoBulk d + 1
  | .slice elems spare => uptoBulkAll elems + uptoBulkAll spare + 1
  | .agg parts => uptoBulkAll parts + 1
  | .iface _ d => uptoBulk d + 1
  | .map entries => uptoBulkEntries entries + 1
  | .held _ => 1
def uptoBulkAll {H : Type} : List (DataW H) → Nat
  | [] => 0
  | d :: r => uptoBulk d + uptoBulkAll r
def uptoBulkEntries {H : Type} : List (Lit × DataW H) → Nat
  | [] => 0
  | x :: r => uptoBulkEntry x + uptoBulkEntries r
def uptoBulkEntry {H : Type} : Lit × DataW H → Nat
  | (.string bytes, d) => bytes.length + uptoBulk d + 1
  | (_, d) => uptoBulk d + 1
 end
def uptoSmall : (H : Type) → List (DataW H) → Bool := fun _ ds => decide (uptoBulkAll ds ≤ 1048576)
def OpenSpec.upto (s : _root_.Go.ChangeSpec) : _root_.Go.OpenSpec := { _root_.Go.OpenSpec.ofChange s with cond := some uptoSmall }

/-- 'laws.FnStreamEntries', WHERE WHAT IT READS IS OF BULK AT MOST 1048576: true; the input reads as it did. -/
def fnStreamEntriesUptoRow : OpenClaim := { program := "ytmkacgffdoifbaadoor", sum := "42b8bfbf3076c00cb303d1e4ba5dc56ae2c9ad15f47019ad0e201b19d804097a", func := "given.example/pub-foolscap/laws.FnStreamEntries", spec := "fnStreamEntries", inPlace := ["internal/reflectlite.ValueOf", "internal/reflectlite.Swapper", "(internal/reflectlite.Value).Len"], unfollowed := true, recurses := true, named := ["given.example/pub-foolscap/pub/pdfcpu/pkg/pdfcpu.errInvalidXRefStreamWArray", "given.example/pub-foolscap/pub/pdfcpu/pkg/pdfcpu.errCorruptXRefStream"], ifaces := true, apart := false, laid := [("given.example/pub-foolscap/pub/pdfcpu/pkg/pdfcpu.errInvalidXRefStreamWArray", laid_given_example_pub_foolscap_pub_pdfcpu_pkg_pdfcpu_errInvalidXRefStreamWArray), ("given.example/pub-foolscap/pub/pdfcpu/pkg/pdfcpu.errCorruptXRefStream", laid_given_example_pub_foolscap_pub_pdfcpu_pkg_pdfcpu_errCorruptXRefStream)], narrowed := true }
def FnStreamEntriesUptoSaid : Prop := fnStreamEntriesUptoRow.holds Tryd.pinned (OpenSpec.upto fnStreamEntriesSpec)

end Rows
end Go.Proofs.YtmkacgffdoifbaaDoor
