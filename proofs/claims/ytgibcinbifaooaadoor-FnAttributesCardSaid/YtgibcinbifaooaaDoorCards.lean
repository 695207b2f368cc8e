/-
  DERIVED. GIVEN WITH THE SEED: THE CARDS: each row of YtgibcinbifaooaaDoorRows.lean that lists a variable, with what it lists TIED to the program's text (the seventh form; the later family's looks); each row that meets fmt, with fmt's text TOLD by the authors' own Lean function (tested against real Go, not proved from fmt's source: count such statements apart). THE CARD IS WHAT COUNTS. Prove the row's statement (the work); the ties are given (YtgibcinbifaooaaDoorTie.lean); close each card by the builder's one call (the guide's Derived/Test/ToyasCard.lean, 'card_holds'). Laid BY PROGRAM, IN A SANDBOX (cutbox-door.mjs). By AI agents, Wed Nov 11 2026. No macro, syntax, notation, axiom, sorry.
-/
import Derived.Test.YtgibcinbifaooaaDoorRows
import GoSem.ClaimSeven
namespace Go.Proofs.YtgibcinbifaooaaDoor
namespace Rows

/-- THE TIED CARD OF 'laws.FnAttributes'. -/
def fnAttributesCard : Claim7 := { stood := { row := fnAttributesRow, standIns := [], harness := (true, "4946e383c505912295f0772988fcd0ca8aafb307ddae37cab1e2843ee9c1af6f"), looks := true }, kinds := [], alts := [], laidByText := true, laidKinds := [.data, .data, .data, .data, .sentinel, .sentinel, .sentinel, .pinned], laidTests := true, laidLooks := .later }
def FnAttributesCardSaid : Prop := Claim7.holds Tryd.pinned (.plain (OpenSpec.ofChange fnAttributesSpec)) fnAttributesCard

/-- THE SECOND FORM's CARD OF 'laws.FnAttributes'. -/
def fnAttributesUptoCard : Claim7 := { stood := { row := fnAttributesUptoRow, standIns := [], harness := (true, "4946e383c505912295f0772988fcd0ca8aafb307ddae37cab1e2843ee9c1af6f"), looks := true }, kinds := [], alts := [], laidByText := true, laidKinds := [.data, .data, .data, .data, .sentinel, .sentinel, .sentinel, .pinned], laidTests := true, laidLooks := .later }
def FnAttributesUptoCardSaid : Prop := Claim7.holds Tryd.pinned (.plain (OpenSpec.upto fnAttributesSpec)) fnAttributesUptoCard
end Rows
end Go.Proofs.YtgibcinbifaooaaDoor
