/-
  DERIVED. GIVEN WITH THE SEED: THE CARDS: each row of YtcandemhaddkjaaDoorRows.lean that lists a variable, with what it lists TIED to the program's text (the seventh form; the later family's looks); each row that meets fmt, with fmt's text TOLD by the authors' own Lean function (tested against real Go, not proved from fmt's source: count such statements apart). THE CARD IS WHAT COUNTS. Prove the row's statement (the work); the ties are given (YtcandemhaddkjaaDoorTie.lean); close each card by the builder's one call (the guide's Derived/Test/ToyasCard.lean, 'card_holds'). Laid BY PROGRAM, IN A SANDBOX (cutbox-door.mjs). By AI agents, Wed Nov 11 2026. No macro, syntax, notation, axiom, sorry.
-/
import Derived.Test.YtcandemhaddkjaaDoorRows
import GoSem.ClaimSeven
namespace Go.Proofs.YtcandemhaddkjaaDoor
namespace Rows

/-- THE TIED CARD OF 'laws.FnXRefStream'. -/
def fnXRefStreamCard : Claim7 := { stood := { row := fnXRefStreamRow, standIns := [], harness := (true, "a4aa51614026a852ec1fc94e1948f274a4cc2941f4d4960d11392c11f32b3bbf"), looks := true }, kinds := [], alts := [], laidByText := true, laidKinds := [.sentinel, .sentinel, .sentinel, .sentinel, .sentinel], laidTests := true, laidLooks := .later }
def FnXRefStreamCardSaid : Prop := Claim7.holds Tryd.pinned (.plain (OpenSpec.ofChange fnXRefStreamSpec)) fnXRefStreamCard

/-- THE SECOND FORM's CARD OF 'laws.FnXRefStream'. -/
def fnXRefStreamUptoCard : Claim7 := { stood := { row := fnXRefStreamUptoRow, standIns := [], harness := (true, "a4aa51614026a852ec1fc94e1948f274a4cc2941f4d4960d11392c11f32b3bbf"), looks := true }, kinds := [], alts := [], laidByText := true, laidKinds := [.sentinel, .sentinel, .sentinel, .sentinel, .sentinel], laidTests := true, laidLooks := .later }
def FnXRefStreamUptoCardSaid : Prop := Claim7.holds Tryd.pinned (.plain (OpenSpec.upto fnXRefStreamSpec)) fnXRefStreamUptoCard
end Rows
end Go.Proofs.YtcandemhaddkjaaDoor
