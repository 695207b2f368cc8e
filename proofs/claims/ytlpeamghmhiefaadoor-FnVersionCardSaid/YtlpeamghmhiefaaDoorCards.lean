/-
  DERIVED. GIVEN WITH THE SEED: THE CARDS: each row of YtlpeamghmhiefaaDoorRows.lean that lists a variable, with what it lists TIED to the program's text (the seventh form; the later family's looks); each row that meets fmt, with fmt's text TOLD by the authors' own Lean function (tested against real Go, not proved from fmt's source: count such statements apart). THE CARD IS WHAT COUNTS. Prove the row's statement (the work); the ties are given (YtlpeamghmhiefaaDoorTie.lean); close each card by the builder's one call (the guide's Derived/Test/ToyasCard.lean, 'card_holds'). Laid BY PROGRAM, IN A SANDBOX (cutbox-door.mjs). By AI agents, Wed Nov 11 2026. No macro, syntax, notation, axiom, sorry.
-/
import Derived.Test.YtlpeamghmhiefaaDoorRows
import GoSem.ClaimSeven
namespace Go.Proofs.YtlpeamghmhiefaaDoor
namespace Rows

/-- THE TIED CARD OF 'laws.FnVersion'. -/
def fnVersionCard : Claim7 := { stood := { row := fnVersionRow, standIns := [], harness := (true, "fcd2d1845bfe04c55182e72ae730d6a9347754a40846179f52ff2cb4277b6e64"), looks := true }, kinds := [], alts := [], laidByText := true, laidKinds := [.data, .data, .data], laidTests := true, laidLooks := .later }
def FnVersionCardSaid : Prop := Claim7.holds Tryd.pinned (.plain (OpenSpec.ofChange fnVersionSpec)) fnVersionCard

/-- THE TIED CARD OF 'laws.FnXRefStream'. -/
def fnXRefStreamCard : Claim7 := { stood := { row := fnXRefStreamRow, standIns := [], harness := (true, "fcd2d1845bfe04c55182e72ae730d6a9347754a40846179f52ff2cb4277b6e64"), looks := true }, kinds := [], alts := [], laidByText := true, laidKinds := [.sentinel, .sentinel, .sentinel, .sentinel, .sentinel], laidTests := true, laidLooks := .later }
def FnXRefStreamCardSaid : Prop := Claim7.holds Tryd.pinned (.plain (OpenSpec.ofChange fnXRefStreamSpec)) fnXRefStreamCard

/-- THE TIED CARD OF 'laws.FnAttributes'. -/
def fnAttributesCard : Claim7 := { stood := { row := fnAttributesRow, standIns := [], harness := (true, "fcd2d1845bfe04c55182e72ae730d6a9347754a40846179f52ff2cb4277b6e64"), looks := true }, kinds := [], alts := [], laidByText := true, laidKinds := [.data, .data, .data, .data, .sentinel, .sentinel, .sentinel, .pinned], laidTests := true, laidLooks := .later }
def FnAttributesCardSaid : Prop := Claim7.holds Tryd.pinned (.plain (OpenSpec.ofChange fnAttributesSpec)) fnAttributesCard

/-- THE TIED CARD OF 'laws.FnStreamEntries'. -/
def fnStreamEntriesCard : Claim7 := { stood := { row := fnStreamEntriesRow, standIns := [], harness := (true, "fcd2d1845bfe04c55182e72ae730d6a9347754a40846179f52ff2cb4277b6e64"), looks := true }, kinds := [], alts := [], laidByText := true, laidKinds := [.sentinel, .sentinel], laidTests := true, laidLooks := .later }
def FnStreamEntriesCardSaid : Prop := Claim7.holds Tryd.pinned (.plain (OpenSpec.ofChange fnStreamEntriesSpec)) fnStreamEntriesCard

/-- THE SECOND FORM's CARD OF 'laws.FnVersion'. -/
def fnVersionUptoCard : Claim7 := { stood := { row := fnVersionUptoRow, standIns := [], harness := (true, "fcd2d1845bfe04c55182e72ae730d6a9347754a40846179f52ff2cb4277b6e64"), looks := true }, kinds := [], alts := [], laidByText := true, laidKinds := [.data, .data, .data], laidTests := true, laidLooks := .later }
def FnVersionUptoCardSaid : Prop := Claim7.holds Tryd.pinned (.plain (OpenSpec.upto fnVersionSpec)) fnVersionUptoCard

/-- THE SECOND FORM's CARD OF 'laws.FnXRefStream'. -/
def fnXRefStreamUptoCard : Claim7 := { stood := { row := fnXRefStreamUptoRow, standIns := [], harness := (true, "fcd2d1845bfe04c55182e72ae730d6a9347754a40846179f52ff2cb4277b6e64"), looks := true }, kinds := [], alts := [], laidByText := true, laidKinds := [.sentinel, .sentinel, .sentinel, .sentinel, .sentinel], laidTests := true, laidLooks := .later }
def FnXRefStreamUptoCardSaid : Prop := Claim7.holds Tryd.pinned (.plain (OpenSpec.upto fnXRefStreamSpec)) fnXRefStreamUptoCard

/-- THE SECOND FORM's CARD OF 'laws.FnAttributes'. -/
def fnAttributesUptoCard : Claim7 := { stood := { row := fnAttributesUptoRow, standIns := [], harness := (true, "fcd2d1845bfe04c55182e72ae730d6a9347754a40846179f52ff2cb4277b6e64"), looks := true }, kinds := [], alts := [], laidByText := true, laidKinds := [.data, .data, .data, .data, .sentinel, .sentinel, .sentinel, .pinned], laidTests := true, laidLooks := .later }
def FnAttributesUptoCardSaid : Prop := Claim7.holds Tryd.pinned (.plain (OpenSpec.upto fnAttributesSpec)) fnAttributesUptoCard

/-- THE SECOND FORM's CARD OF 'laws.FnStreamEntries'. -/
def fnStreamEntriesUptoCard : Claim7 := { stood := { row := fnStreamEntriesUptoRow, standIns := [], harness := (true, "fcd2d1845bfe04c55182e72ae730d6a9347754a40846179f52ff2cb4277b6e64"), looks := true }, kinds := [], alts := [], laidByText := true, laidKinds := [.sentinel, .sentinel], laidTests := true, laidLooks := .later }
def FnStreamEntriesUptoCardSaid : Prop := Claim7.holds Tryd.pinned (.plain (OpenSpec.upto fnStreamEntriesSpec)) fnStreamEntriesUptoCard
end Rows
end Go.Proofs.YtlpeamghmhiefaaDoor
