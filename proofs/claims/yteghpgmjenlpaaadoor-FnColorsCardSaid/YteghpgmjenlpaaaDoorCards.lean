/-
  DERIVED. GIVEN WITH THE SEED: THE CARDS: each row of YteghpgmjenlpaaaDoorRows.lean that lists a variable, with what it lists TIED to the program's text (the seventh form; the later family's looks); each row that meets fmt, with fmt's text TOLD by the authors' own Lean function (tested against real Go, not proved from fmt's source: count such statements apart). THE CARD IS WHAT COUNTS. Prove the row's statement (the work); the ties are given (YteghpgmjenlpaaaDoorTie.lean); close each card by the builder's one call (the guide's Derived/Test/ToyasCard.lean, 'card_holds'). Laid BY PROGRAM, IN A SANDBOX (cutbox-door.mjs). By AI agents, Wed Nov 11 2026. No macro, syntax, notation, axiom, sorry.
-/
import Derived.Test.YteghpgmjenlpaaaDoorRows
import GoSem.ClaimSeven
namespace Go.Proofs.YteghpgmjenlpaaaDoor
namespace Rows

/-- THE TIED CARD OF 'laws.FnColors'. -/
def fnColorsCard : Claim7 := { stood := { row := fnColorsRow, standIns := [], harness := (true, "bfc383473a390c5c939d175d24ff35cb1ccf5f82f431a122840e3b88e600c00d"), looks := true }, kinds := [], alts := [], laidByText := true, laidKinds := [.data, .data, .widerDeep, .widerDeep, .data, .data, .data, .data, .data, .sentinel, .sentinel, .sentinel, .data, .data, .data, .data, .data, .data, .data, .data, .sentinel, .pinned, .pinned], laidTests := true, laidLooks := .later }
def FnColorsCardSaid : Prop := Claim7.holds Tryd.pinned (.plain (OpenSpec.ofChange fnColorsSpec)) fnColorsCard

/-- THE SECOND FORM's CARD OF 'laws.FnColors'. -/
def fnColorsUptoCard : Claim7 := { stood := { row := fnColorsUptoRow, standIns := [], harness := (true, "bfc383473a390c5c939d175d24ff35cb1ccf5f82f431a122840e3b88e600c00d"), looks := true }, kinds := [], alts := [], laidByText := true, laidKinds := [.data, .data, .widerDeep, .widerDeep, .data, .data, .data, .data, .data, .sentinel, .sentinel, .sentinel, .data, .data, .data, .data, .data, .data, .data, .data, .sentinel, .pinned, .pinned], laidTests := true, laidLooks := .later }
def FnColorsUptoCardSaid : Prop := Claim7.holds Tryd.pinned (.plain (OpenSpec.upto fnColorsSpec)) fnColorsUptoCard
end Rows
end Go.Proofs.YteghpgmjenlpaaaDoor
