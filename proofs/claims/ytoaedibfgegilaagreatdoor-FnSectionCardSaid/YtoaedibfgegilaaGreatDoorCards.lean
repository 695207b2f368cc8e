/-
  DERIVED. GIVEN WITH THE SEED: THE CARDS: each row of YtoaedibfgegilaaGreatDoorRows.lean that lists a variable, with what it lists TIED to the program's text (the seventh form; the later family's looks); each row that meets fmt, with fmt's text TOLD by the authors' own Lean function (tested against real Go, not proved from fmt's source: count such statements apart). THE CARD IS WHAT COUNTS. Prove the row's statement (the work); the ties are given (YtoaedibfgegilaaGreatDoorTie.lean); close each card by the builder's one call (the guide's Derived/Test/ToyasCard.lean, 'card_holds'). Laid BY PROGRAM, IN A SANDBOX (cutbox-door.mjs). By AI agents, Wed Nov 11 2026. No macro, syntax, notation, axiom, sorry.
-/
import Derived.Test.YtoaedibfgegilaaGreatDoorRows
import GoSem.ClaimSeven
namespace Go.Proofs.YtoaedibfgegilaaGreatDoor
namespace Rows

/-- THE TIED CARD OF 'laws.FnSection'. -/
def fnSectionCard : Claim7 := { stood := { row := fnSectionRow, standIns := [], harness := (true, "e99f0df04d97681ff4fee2ea34a16a840f5e597665b395224ff05d0c1b77be08"), looks := true }, kinds := [], alts := [], laidByText := true, laidKinds := [.data, .data, .data, .sentinel, .sentinel, .sentinel, .sentinel, .sentinel, .sentinel, .sentinel, .sentinel, .sentinel, .sentinel, .sentinel, .sentinel], laidTests := true, laidLooks := .later }
def FnSectionCardSaid : Prop := Claim7.holds Tryz.pinned (.plain (OpenSpec.ofChange fnSectionSpec)) fnSectionCard

/-- THE SECOND FORM's CARD OF 'laws.FnSection'. -/
def fnSectionUptoCard : Claim7 := { stood := { row := fnSectionUptoRow, standIns := [], harness := (true, "e99f0df04d97681ff4fee2ea34a16a840f5e597665b395224ff05d0c1b77be08"), looks := true }, kinds := [], alts := [], laidByText := true, laidKinds := [.data, .data, .data, .sentinel, .sentinel, .sentinel, .sentinel, .sentinel, .sentinel, .sentinel, .sentinel, .sentinel, .sentinel, .sentinel, .sentinel], laidTests := true, laidLooks := .later }
def FnSectionUptoCardSaid : Prop := Claim7.holds Tryz.pinned (.plain (OpenSpec.upto fnSectionSpec)) fnSectionUptoCard
end Rows
end Go.Proofs.YtoaedibfgegilaaGreatDoor
