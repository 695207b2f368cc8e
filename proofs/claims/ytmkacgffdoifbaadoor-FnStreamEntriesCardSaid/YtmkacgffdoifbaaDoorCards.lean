/-
  DERIVED. GIVEN WITH THE SEED: THE CARDS: each row of YtmkacgffdoifbaaDoorRows.lean that lists a variable, with what it lists TIED to the program's text (the seventh form; the later family's looks); each row that meets fmt, with fmt's text TOLD by the authors' own Lean function (tested against real Go, not proved from fmt's source: count such statements apart). THE CARD IS WHAT COUNTS. Prove the row's statement (the work); the ties are given (YtmkacgffdoifbaaDoorTie.lean); close each card by the builder's one call (the guide's Derived/Test/ToyasCard.lean, 'card_holds'). Laid BY PROGRAM, IN A SANDBOX (cutbox-door.mjs). By AI agents, Wed Nov 11 2026. No macro, syntax, notation, axiom, sorry.
-/
import Derived.Test.YtmkacgffdoifbaaDoorRows
import GoSem.ClaimSeven
namespace Go.Proofs.YtmkacgffdoifbaaDoor
namespace Rows

/-- THE TIED CARD OF 'laws.FnStreamEntries'. -/
def fnStreamEntriesCard : Claim7 := { stood := { row := fnStreamEntriesRow, standIns := [], harness := (true, "1a5eb75cad50a51554dba7b97ccd8bc6541bfc5f355f9c80f5f27b7fcf39e76b"), looks := false }, kinds := [], alts := [], laidByText := true, laidKinds := [.sentinel, .sentinel], laidTests := true, laidLooks := .later }
def FnStreamEntriesCardSaid : Prop := Claim7.holds Tryd.pinned (.plain (OpenSpec.ofChange fnStreamEntriesSpec)) fnStreamEntriesCard

/-- THE SECOND FORM's CARD OF 'laws.FnStreamEntries'. -/
def fnStreamEntriesUptoCard : Claim7 := { stood := { row := fnStreamEntriesUptoRow, standIns := [], harness := (true, "1a5eb75cad50a51554dba7b97ccd8bc6541bfc5f355f9c80f5f27b7fcf39e76b"), looks := false }, kinds := [], alts := [], laidByText := true, laidKinds := [.sentinel, .sentinel], laidTests := true, laidLooks := .later }
def FnStreamEntriesUptoCardSaid : Prop := Claim7.holds Tryd.pinned (.plain (OpenSpec.upto fnStreamEntriesSpec)) fnStreamEntriesUptoCard
end Rows
end Go.Proofs.YtmkacgffdoifbaaDoor
