/-
  DERIVED. GIVEN WITH THE SEED: THE CARDS: each row of YtmaphdfhoddnmaaDoorRows.lean that lists a variable, with what it lists TIED to the program's text (the seventh form; the later family's looks); each row that meets fmt, with fmt's text TOLD by the authors' own Lean function (tested against real Go, not proved from fmt's source: count such statements apart). THE CARD IS WHAT COUNTS. Prove the row's statement (the work); the ties are given (YtmaphdfhoddnmaaDoorTie.lean); close each card by the builder's one call (the guide's Derived/Test/ToyasCard.lean, 'card_holds'). Laid BY PROGRAM, IN A SANDBOX (cutbox-door.mjs). By AI agents, Wed Nov 11 2026. No macro, syntax, notation, axiom, sorry.
-/
import Derived.Test.YtmaphdfhoddnmaaDoorRows
import GoSem.ClaimSeven
namespace Go.Proofs.YtmaphdfhoddnmaaDoor
namespace Rows

/-- THE TIED CARD OF 'laws.FnFullMatrix'. -/
def fnFullMatrixCard : Claim7 := { stood := { row := fnFullMatrixRow, standIns := [], harness := (true, "376e243438afba48d6f11acd2c3b9c464ca04daeebb6c03c89358ed82146c4eb"), looks := false }, kinds := [], alts := [], laidByText := true, laidKinds := [.data], laidTests := true, laidLooks := .later }
def FnFullMatrixCardSaid : Prop := Claim7.holds Tryd.pinned (.plain (OpenSpec.ofChange fnFullMatrixSpec)) fnFullMatrixCard

/-- THE SECOND FORM's CARD OF 'laws.FnFullMatrix'. -/
def fnFullMatrixUptoCard : Claim7 := { stood := { row := fnFullMatrixUptoRow, standIns := [], harness := (true, "376e243438afba48d6f11acd2c3b9c464ca04daeebb6c03c89358ed82146c4eb"), looks := false }, kinds := [], alts := [], laidByText := true, laidKinds := [.data], laidTests := true, laidLooks := .later }
def FnFullMatrixUptoCardSaid : Prop := Claim7.holds Tryd.pinned (.plain (OpenSpec.upto fnFullMatrixSpec)) fnFullMatrixUptoCard
end Rows
end Go.Proofs.YtmaphdfhoddnmaaDoor
