/-
  DERIVED. GIVEN WITH THE SEED: THE CARDS: each row of YtmihbmjillcjaaaDoorRows.lean that lists a variable, with what it lists TIED to the program's text (the seventh form; the later family's looks); each row that meets fmt, with fmt's text TOLD by the authors' own Lean function (tested against real Go, not proved from fmt's source: count such statements apart). THE CARD IS WHAT COUNTS. Prove the row's statement (the work); the ties are given (YtmihbmjillcjaaaDoorTie.lean); close each card by the builder's one call (the guide's Derived/Test/ToyasCard.lean, 'card_holds'). Laid BY PROGRAM, IN A SANDBOX (cutbox-door.mjs). By AI agents, Wed Nov 11 2026. No macro, syntax, notation, axiom, sorry.
-/
import Derived.Test.YtmihbmjillcjaaaDoorRows
import GoSem.ClaimSeven
namespace Go.Proofs.YtmihbmjillcjaaaDoor
namespace Rows

/-- THE TIED CARD OF 'laws.FnUnpredicted'. -/
def fnUnpredictedCard : Claim7 := { stood := { row := fnUnpredictedRow, standIns := [], harness := (true, "97327800a35b4dda3eb249c4860d877c9392b24d2bf47e743029adf8e1715c81"), looks := true }, kinds := [], alts := [], laidByText := true, laidKinds := [.sentinel, .sentinel, .sentinel, .sentinel, .sentinel], laidTests := true, laidLooks := .later }
def FnUnpredictedCardSaid : Prop := Claim7.holds Tryd.pinned (.plain (OpenSpec.ofChange fnUnpredictedSpec)) fnUnpredictedCard

/-- THE SECOND FORM's CARD OF 'laws.FnUnpredicted'. -/
def fnUnpredictedUptoCard : Claim7 := { stood := { row := fnUnpredictedUptoRow, standIns := [], harness := (true, "97327800a35b4dda3eb249c4860d877c9392b24d2bf47e743029adf8e1715c81"), looks := true }, kinds := [], alts := [], laidByText := true, laidKinds := [.sentinel, .sentinel, .sentinel, .sentinel, .sentinel], laidTests := true, laidLooks := .later }
def FnUnpredictedUptoCardSaid : Prop := Claim7.holds Tryd.pinned (.plain (OpenSpec.upto fnUnpredictedSpec)) fnUnpredictedUptoCard
end Rows
end Go.Proofs.YtmihbmjillcjaaaDoor
