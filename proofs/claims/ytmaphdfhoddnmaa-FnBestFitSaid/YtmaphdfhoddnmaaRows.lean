/-
  No cell of these rows narrows 'for every input' (looked for: loops, veiled, ifaces, maps, wideKeys, modest, calm, conditions, laid).
  DERIVED. THE GIVEN ROWS OF THIS SEAT. 8 by the template 'for every input the law returns true; each argument reads behind the call as it read before'; 0 by the template 'total and deterministic' (their statements: YtmaphdfhoddnmaaTotals.lean).
  GIVEN WITH THE SEED: the statements are not yours to turn. If you find one false, say at which input.
  Laid BY PROGRAM, IN A SANDBOX (cutbox-rows.mjs): the forced cells as the released guide's own fill.sh prints them over the translation ede4791d7c93f690… (all of the seat's roots in one cut). By AI agents, Wed Nov 11 2026. No macro, syntax, notation, axiom, sorry.
-/
import Derived.Test.YtmaphdfhoddnmaaChecked
import GoSem.Claim
import GoSem.ClaimJoined
import GoSem.ClaimMapViews
import Derived.JoinedTies
import Derived.KernelRfl
namespace Go.Proofs.Ytmaphdfhoddnmaa
/- THE CELL 'sum', in the pinned program and in every row, IS THE sha256 OF THE DUMP (.gsa) THAT YtmaphdfhoddnmaaProg.lean LOADS. Nothing in Lean hashes anything: it is a label: what it is worth is what the hold of that sum in a sandbox is worth. -/
noncomputable def Try.pinned : Pinned := { name := "ytmaphdfhoddnmaa", sum := "ede4791d7c93f690dcbfe8c491d92a14f5ec812089d7a005701c42ab1e501f3f", checked := Try.checked }
namespace Rows
def none {H : Type} : Left H := { results := [], args := [] }

/-- 'laws.FnTakesParms': WHATEVER THE INPUT: true; the input reads as it did. -/
def fnTakesParmsSpec : ChangeSpec := { name := "fnTakesParms", fn := fun _ => fun
  | [d] => { results := [.lit (.bool true)], args := [d] }
  | _ => none }
def fnTakesParmsRow : OpenClaim := { program := "ytmaphdfhoddnmaa", sum := "ede4791d7c93f690dcbfe8c491d92a14f5ec812089d7a005701c42ab1e501f3f", func := "given.example/pub-foolscap/laws.FnTakesParms", spec := "fnTakesParms", apart := false }
def FnTakesParmsSaid : Prop := fnTakesParmsRow.holds Try.pinned (OpenSpec.ofChange fnTakesParmsSpec)

/-- ITS FALSE NEIGHBOUR: 'it returns false'. Refute it at one input. -/
def fnTakesParmsWrong : ChangeSpec := { name := "fnTakesParms", fn := fun _ => fun
  | [d] => { results := [.lit (.bool false)], args := [d] }
  | _ => none }
def FnTakesParmsWrongFalsely : Prop := fnTakesParmsRow.holds Try.pinned (OpenSpec.ofChange fnTakesParmsWrong)

/-- 'laws.FnTransform': WHATEVER THE INPUT: true; the input reads as it did. -/
def fnTransformSpec : ChangeSpec := { name := "fnTransform", fn := fun _ => fun
  | [d1, d2, d3] => { results := [.lit (.bool true)], args := [d1, d2, d3] }
  | _ => none }
def fnTransformRow : OpenClaim := { program := "ytmaphdfhoddnmaa", sum := "ede4791d7c93f690dcbfe8c491d92a14f5ec812089d7a005701c42ab1e501f3f", func := "given.example/pub-foolscap/laws.FnTransform", spec := "fnTransform", apart := false }
def FnTransformSaid : Prop := fnTransformRow.holds Try.pinned (OpenSpec.ofChange fnTransformSpec)

/-- ITS FALSE NEIGHBOUR: 'it returns false'. Refute it at one input. -/
def fnTransformWrong : ChangeSpec := { name := "fnTransform", fn := fun _ => fun
  | [d1, d2, d3] => { results := [.lit (.bool false)], args := [d1, d2, d3] }
  | _ => none }
def FnTransformWrongFalsely : Prop := fnTransformRow.holds Try.pinned (OpenSpec.ofChange fnTransformWrong)

/-- 'laws.FnOffset': WHATEVER THE INPUT: true; the input reads as it did. -/
def fnOffsetSpec : ChangeSpec := { name := "fnOffset", fn := fun _ => fun
  | [d1, d2, d3] => { results := [.lit (.bool true)], args := [d1, d2, d3] }
  | _ => none }
def fnOffsetRow : OpenClaim := { program := "ytmaphdfhoddnmaa", sum := "ede4791d7c93f690dcbfe8c491d92a14f5ec812089d7a005701c42ab1e501f3f", func := "given.example/pub-foolscap/laws.FnOffset", spec := "fnOffset", apart := false }
def FnOffsetSaid : Prop := fnOffsetRow.holds Try.pinned (OpenSpec.ofChange fnOffsetSpec)

/-- ITS FALSE NEIGHBOUR: 'it returns false'. Refute it at one input. -/
def fnOffsetWrong : ChangeSpec := { name := "fnOffset", fn := fun _ => fun
  | [d1, d2, d3] => { results := [.lit (.bool false)], args := [d1, d2, d3] }
  | _ => none }
def FnOffsetWrongFalsely : Prop := fnOffsetRow.holds Try.pinned (OpenSpec.ofChange fnOffsetWrong)

/-- 'laws.FnCropped': WHATEVER THE INPUT: true; the input reads as it did. -/
def fnCroppedSpec : ChangeSpec := { name := "fnCropped", fn := fun _ => fun
  | [d1, d2] => { results := [.lit (.bool true)], args := [d1, d2] }
  | _ => none }
def fnCroppedRow : OpenClaim := { program := "ytmaphdfhoddnmaa", sum := "ede4791d7c93f690dcbfe8c491d92a14f5ec812089d7a005701c42ab1e501f3f", func := "given.example/pub-foolscap/laws.FnCropped", spec := "fnCropped", apart := false }
def FnCroppedSaid : Prop := fnCroppedRow.holds Try.pinned (OpenSpec.ofChange fnCroppedSpec)

/-- ITS FALSE NEIGHBOUR: 'it returns false'. Refute it at one input. -/
def fnCroppedWrong : ChangeSpec := { name := "fnCropped", fn := fun _ => fun
  | [d1, d2] => { results := [.lit (.bool false)], args := [d1, d2] }
  | _ => none }
def FnCroppedWrongFalsely : Prop := fnCroppedRow.holds Try.pinned (OpenSpec.ofChange fnCroppedWrong)

/-- 'laws.FnFits': WHATEVER THE INPUT: true; the input reads as it did. -/
def fnFitsSpec : ChangeSpec := { name := "fnFits", fn := fun _ => fun
  | [d1, d2] => { results := [.lit (.bool true)], args := [d1, d2] }
  | _ => none }
def fnFitsRow : OpenClaim := { program := "ytmaphdfhoddnmaa", sum := "ede4791d7c93f690dcbfe8c491d92a14f5ec812089d7a005701c42ab1e501f3f", func := "given.example/pub-foolscap/laws.FnFits", spec := "fnFits", apart := false }
def FnFitsSaid : Prop := fnFitsRow.holds Try.pinned (OpenSpec.ofChange fnFitsSpec)

/-- ITS FALSE NEIGHBOUR: 'it returns false'. Refute it at one input. -/
def fnFitsWrong : ChangeSpec := { name := "fnFits", fn := fun _ => fun
  | [d1, d2] => { results := [.lit (.bool false)], args := [d1, d2] }
  | _ => none }
def FnFitsWrongFalsely : Prop := fnFitsRow.holds Try.pinned (OpenSpec.ofChange fnFitsWrong)

/-- 'laws.FnEnclosing': WHATEVER THE INPUT: true; the input reads as it did. -/
def fnEnclosingSpec : ChangeSpec := { name := "fnEnclosing", fn := fun _ => fun
  | [d1, d2] => { results := [.lit (.bool true)], args := [d1, d2] }
  | _ => none }
def fnEnclosingRow : OpenClaim := { program := "ytmaphdfhoddnmaa", sum := "ede4791d7c93f690dcbfe8c491d92a14f5ec812089d7a005701c42ab1e501f3f", func := "given.example/pub-foolscap/laws.FnEnclosing", spec := "fnEnclosing", apart := false }
def FnEnclosingSaid : Prop := fnEnclosingRow.holds Try.pinned (OpenSpec.ofChange fnEnclosingSpec)

/-- ITS FALSE NEIGHBOUR: 'it returns false'. Refute it at one input. -/
def fnEnclosingWrong : ChangeSpec := { name := "fnEnclosing", fn := fun _ => fun
  | [d1, d2] => { results := [.lit (.bool false)], args := [d1, d2] }
  | _ => none }
def FnEnclosingWrongFalsely : Prop := fnEnclosingRow.holds Try.pinned (OpenSpec.ofChange fnEnclosingWrong)

/-- 'laws.FnBounds': WHATEVER THE INPUT: true; the input reads as it did. -/
def fnBoundsSpec : ChangeSpec := { name := "fnBounds", fn := fun _ => fun
  | [d1, d2] => { results := [.lit (.bool true)], args := [d1, d2] }
  | _ => none }
def fnBoundsRow : OpenClaim := { program := "ytmaphdfhoddnmaa", sum := "ede4791d7c93f690dcbfe8c491d92a14f5ec812089d7a005701c42ab1e501f3f", func := "given.example/pub-foolscap/laws.FnBounds", spec := "fnBounds", apart := false }
def FnBoundsSaid : Prop := fnBoundsRow.holds Try.pinned (OpenSpec.ofChange fnBoundsSpec)

/-- ITS FALSE NEIGHBOUR: 'it returns false'. Refute it at one input. -/
def fnBoundsWrong : ChangeSpec := { name := "fnBounds", fn := fun _ => fun
  | [d1, d2] => { results := [.lit (.bool false)], args := [d1, d2] }
  | _ => none }
def FnBoundsWrongFalsely : Prop := fnBoundsRow.holds Try.pinned (OpenSpec.ofChange fnBoundsWrong)

/-- 'laws.FnBestFit': WHATEVER THE INPUT: true; the input reads as it did. -/
def fnBestFitSpec : ChangeSpec := { name := "fnBestFit", fn := fun _ => fun
  | [d1, d2, d3] => { results := [.lit (.bool true)], args := [d1, d2, d3] }
  | _ => none }
def fnBestFitRow : OpenClaim := { program := "ytmaphdfhoddnmaa", sum := "ede4791d7c93f690dcbfe8c491d92a14f5ec812089d7a005701c42ab1e501f3f", func := "given.example/pub-foolscap/laws.FnBestFit", spec := "fnBestFit", unfollowed := true, recurses := true, apart := false }
def FnBestFitSaid : Prop := fnBestFitRow.holds Try.pinned (OpenSpec.ofChange fnBestFitSpec)

/-- ITS FALSE NEIGHBOUR: 'it returns false'. Refute it at one input. -/
def fnBestFitWrong : ChangeSpec := { name := "fnBestFit", fn := fun _ => fun
  | [d1, d2, d3] => { results := [.lit (.bool false)], args := [d1, d2, d3] }
  | _ => none }
def FnBestFitWrongFalsely : Prop := fnBestFitRow.holds Try.pinned (OpenSpec.ofChange fnBestFitWrong)

/- THE SECOND FORM. 'bulk': how many values and letters a reading holds, each counted each time it is reached (what is shared counts as often as it is met; a slice's spare places count too). A statement '..UptoSaid' is the law's where the arguments, and the package variables that the reading takes, are together of bulk at most 1048576: NARROWER than '..Said'. Prove '..Said' where nothing that the law and all that it calls make is longer than what came in: it says more and counts as full. Else prove '..UptoSaid'. A law counts once. -/
mutual
def uptoBulk {H : Type} : DataW H → Nat
  | .lit (.string bytes) => bytes.length + 1
  | .lit _ => 1
  | .nil => 1
  | .ptr d => uptoBulk d + 1
  | .slice elems spare => uptoBulkAll elems + uptoBulkAll spare + 1
  | .agg parts => uptoBulkAll parts + 1
  | .iface _ d => uptoBulk d + 1
  | .map entries => uptoBulkEntries entries + 1
  | .held _ => 1
def uptoBulkAll {H : Type} : List (DataW H) → Nat
  | [] => 0
  | d :: r => uptoBulk d + uptoBulkAll r
def uptoBulkEntries {H : Type} : List (Lit × DataW H) → Nat
  | [] => 0
  | x :: r => uptoBulkEntry x + uptoBulkEntries r
def uptoBulkEntry {H : Type} : Lit × DataW H → Nat
  | (.string bytes, d) => bytes.length + uptoBulk d + 1
  | (_, d) => uptoBulk d + 1
 end
def uptoSmall : (H : Type) → List (DataW H) → Bool := fun _ ds => decide (uptoBulkAll ds ≤ 1048576)
def OpenSpec.upto (s : _root_.Go.ChangeSpec) : _root_.Go.OpenSpec := { _root_.Go.OpenSpec.ofChange s with cond := some uptoSmall }

/-- 'laws.FnTakesParms', WHERE WHAT IT READS IS OF BULK AT MOST 1048576: true; the input reads as it did. -/
def fnTakesParmsUptoRow : OpenClaim := { program := "ytmaphdfhoddnmaa", sum := "ede4791d7c93f690dcbfe8c491d92a14f5ec812089d7a005701c42ab1e501f3f", func := "given.example/pub-foolscap/laws.FnTakesParms", spec := "fnTakesParms", apart := false, narrowed := true }
def FnTakesParmsUptoSaid : Prop := fnTakesParmsUptoRow.holds Try.pinned (OpenSpec.upto fnTakesParmsSpec)

/-- 'laws.FnTransform', WHERE WHAT IT READS IS OF BULK AT MOST 1048576: true; the input reads as it did. -/
def fnTransformUptoRow : OpenClaim := { program := "ytmaphdfhoddnmaa", sum := "ede4791d7c93f690dcbfe8c491d92a14f5ec812089d7a005701c42ab1e501f3f", func := "given.example/pub-foolscap/laws.FnTransform", spec := "fnTransform", apart := false, narrowed := true }
def FnTransformUptoSaid : Prop := fnTransformUptoRow.holds Try.pinned (OpenSpec.upto fnTransformSpec)

/-- 'laws.FnOffset', WHERE WHAT IT READS IS OF BULK AT MOST 1048576: true; the input reads as it did. -/
def fnOffsetUptoRow : OpenClaim := { program := "ytmaphdfhoddnmaa", sum := "ede4791d7c93f690dcbfe8c491d92a14f5ec812089d7a005701c42ab1e501f3f", func := "given.example/pub-foolscap/laws.FnOffset", spec := "fnOffset", apart := false, narrowed := true }
def FnOffsetUptoSaid : Prop := fnOffsetUptoRow.holds Try.pinned (OpenSpec.upto fnOffsetSpec)

/-- 'laws.FnCropped', WHERE WHAT IT READS IS OF BULK AT MOST 1048576: true; the input reads as it did. -/
def fnCroppedUptoRow : OpenClaim := { program := "ytmaphdfhoddnmaa", sum := "ede4791d7c93f690dcbfe8c491d92a14f5ec812089d7a005701c42ab1e501f3f", func := "given.example/pub-foolscap/laws.FnCropped", spec := "fnCropped", apart := false, narrowed := true }
def FnCroppedUptoSaid : Prop := fnCroppedUptoRow.holds Try.pinned (OpenSpec.upto fnCroppedSpec)

/-- 'laws.FnFits', WHERE WHAT IT READS IS OF BULK AT MOST 1048576: true; the input reads as it did. -/
def fnFitsUptoRow : OpenClaim := { program := "ytmaphdfhoddnmaa", sum := "ede4791d7c93f690dcbfe8c491d92a14f5ec812089d7a005701c42ab1e501f3f", func := "given.example/pub-foolscap/laws.FnFits", spec := "fnFits", apart := false, narrowed := true }
def FnFitsUptoSaid : Prop := fnFitsUptoRow.holds Try.pinned (OpenSpec.upto fnFitsSpec)

/-- 'laws.FnEnclosing', WHERE WHAT IT READS IS OF BULK AT MOST 1048576: true; the input reads as it did. -/
def fnEnclosingUptoRow : OpenClaim := { program := "ytmaphdfhoddnmaa", sum := "ede4791d7c93f690dcbfe8c491d92a14f5ec812089d7a005701c42ab1e501f3f", func := "given.example/pub-foolscap/laws.FnEnclosing", spec := "fnEnclosing", apart := false, narrowed := true }
def FnEnclosingUptoSaid : Prop := fnEnclosingUptoRow.holds Try.pinned (OpenSpec.upto fnEnclosingSpec)

/-- 'laws.FnBounds', WHERE WHAT IT READS IS OF BULK AT MOST 1048576: true; the input reads as it did. -/
def fnBoundsUptoRow : OpenClaim := { program := "ytmaphdfhoddnmaa", sum := "ede4791d7c93f690dcbfe8c491d92a14f5ec812089d7a005701c42ab1e501f3f", func := "given.example/pub-foolscap/laws.FnBounds", spec := "fnBounds", apart := false, narrowed := true }
def FnBoundsUptoSaid : Prop := fnBoundsUptoRow.holds Try.pinned (OpenSpec.upto fnBoundsSpec)

/-- 'laws.FnBestFit', WHERE WHAT IT READS IS OF BULK AT MOST 1048576: true; the input reads as it did. -/
def fnBestFitUptoRow : OpenClaim := { program := "ytmaphdfhoddnmaa", sum := "ede4791d7c93f690dcbfe8c491d92a14f5ec812089d7a005701c42ab1e501f3f", func := "given.example/pub-foolscap/laws.FnBestFit", spec := "fnBestFit", unfollowed := true, recurses := true, apart := false, narrowed := true }
def FnBestFitUptoSaid : Prop := fnBestFitUptoRow.holds Try.pinned (OpenSpec.upto fnBestFitSpec)

end Rows
end Go.Proofs.Ytmaphdfhoddnmaa
