/-
  DERIVED. GIVEN WITH THE SEED: THE CARDS: each row of YtcohlcijgfdanaaDoorRows.lean that lists a variable, with what it lists TIED to the program's text (the seventh form; the later family's looks); each row that meets fmt, with fmt's text TOLD by the authors' own Lean function (tested against real Go, not proved from fmt's source: count such statements apart). THE CARD IS WHAT COUNTS. Prove the row's statement (the work); the ties are given (YtcohlcijgfdanaaDoorTie.lean); close each card by the builder's one call (the guide's Derived/Test/ToyasCard.lean, 'card_holds'). Laid BY PROGRAM, IN A SANDBOX (cutbox-door.mjs). By AI agents, Wed Nov 11 2026. No macro, syntax, notation, axiom, sorry.
-/
import Derived.Test.YtcohlcijgfdanaaDoorRows
import GoSem.ClaimSeven
namespace Go.Proofs.YtcohlcijgfdanaaDoor
namespace Rows

/-- THE TIED CARD OF 'laws.FnEncodeName'. -/
def fnEncodeNameCard : Claim7 := { stood := { row := fnEncodeNameRow, standIns := [], harness := (true, "6dad032a507c2cfdab9d2d961e42ac453317d27cbc428157a959974df35eb5bc"), looks := true }, kinds := [], alts := [], laidByText := true, laidKinds := [.sentinel], laidTests := true, laidLooks := .later }
def FnEncodeNameCardSaid : Prop := Claim7.holds Tryd.pinned (.plain (OpenSpec.ofChange fnEncodeNameSpec)) fnEncodeNameCard

/-- THE TIED CARD OF 'laws.FnIsUTF16'. -/
def fnIsUTF16Card : Claim7 := { stood := { row := fnIsUTF16Row, standIns := [], harness := (true, "6dad032a507c2cfdab9d2d961e42ac453317d27cbc428157a959974df35eb5bc"), looks := true }, kinds := [], alts := [], laidByText := true, laidKinds := [.sentinel], laidTests := true, laidLooks := .later }
def FnIsUTF16CardSaid : Prop := Claim7.holds Tryd.pinned (.plain (OpenSpec.ofChange fnIsUTF16Spec)) fnIsUTF16Card

/-- THE TIED CARD OF 'laws.FnUTF16Of'. -/
def fnUTF16OfCard : Claim7 := { stood := { row := fnUTF16OfRow, standIns := [], harness := (true, "6dad032a507c2cfdab9d2d961e42ac453317d27cbc428157a959974df35eb5bc"), looks := true }, kinds := [], alts := [], laidByText := true, laidKinds := [.data, .sentinel, .pinned], laidTests := true, laidLooks := .later }
def FnUTF16OfCardSaid : Prop := Claim7.holds Tryd.pinned (.plain (OpenSpec.ofChange fnUTF16OfSpec)) fnUTF16OfCard

/-- THE TIED CARD OF 'laws.FnOctal'. -/
def fnOctalCard : Claim7 := { stood := { row := fnOctalRow, standIns := [], harness := (true, "6dad032a507c2cfdab9d2d961e42ac453317d27cbc428157a959974df35eb5bc"), looks := true }, kinds := [], alts := [], laidByText := true, laidKinds := [.data, .data, .data, .sentinel, .sentinel], laidTests := true, laidLooks := .later }
def FnOctalCardSaid : Prop := Claim7.holds Tryd.pinned (.plain (OpenSpec.ofChange fnOctalSpec)) fnOctalCard

/-- THE TIED CARD OF 'laws.FnEscape'. -/
def fnEscapeCard : Claim7 := { stood := { row := fnEscapeRow, standIns := [], harness := (true, "6dad032a507c2cfdab9d2d961e42ac453317d27cbc428157a959974df35eb5bc"), looks := true }, kinds := [], alts := [], laidByText := true, laidKinds := [.data, .data, .data, .sentinel, .sentinel, .sentinel], laidTests := true, laidLooks := .later }
def FnEscapeCardSaid : Prop := Claim7.holds Tryd.pinned (.plain (OpenSpec.ofChange fnEscapeSpec)) fnEscapeCard

/-- THE TIED CARD OF 'laws.FnLiteralText'. -/
def fnLiteralTextCard : Claim7 := { stood := { row := fnLiteralTextRow, standIns := [], harness := (true, "6dad032a507c2cfdab9d2d961e42ac453317d27cbc428157a959974df35eb5bc"), looks := true }, kinds := [], alts := [], laidByText := true, laidKinds := [.data, .data, .data, .data, .sentinel, .sentinel, .sentinel, .mapped, .sentinel, .pinned], laidTests := true, laidLooks := .later }
def FnLiteralTextCardSaid : Prop := Claim7.holds Tryd.pinned (.plain (OpenSpec.ofChange fnLiteralTextSpec)) fnLiteralTextCard

/-- THE SECOND FORM's CARD OF 'laws.FnEncodeName'. -/
def fnEncodeNameUptoCard : Claim7 := { stood := { row := fnEncodeNameUptoRow, standIns := [], harness := (true, "6dad032a507c2cfdab9d2d961e42ac453317d27cbc428157a959974df35eb5bc"), looks := true }, kinds := [], alts := [], laidByText := true, laidKinds := [.sentinel], laidTests := true, laidLooks := .later }
def FnEncodeNameUptoCardSaid : Prop := Claim7.holds Tryd.pinned (.plain (OpenSpec.upto fnEncodeNameSpec)) fnEncodeNameUptoCard

/-- THE SECOND FORM's CARD OF 'laws.FnIsUTF16'. -/
def fnIsUTF16UptoCard : Claim7 := { stood := { row := fnIsUTF16UptoRow, standIns := [], harness := (true, "6dad032a507c2cfdab9d2d961e42ac453317d27cbc428157a959974df35eb5bc"), looks := true }, kinds := [], alts := [], laidByText := true, laidKinds := [.sentinel], laidTests := true, laidLooks := .later }
def FnIsUTF16UptoCardSaid : Prop := Claim7.holds Tryd.pinned (.plain (OpenSpec.upto fnIsUTF16Spec)) fnIsUTF16UptoCard

/-- THE SECOND FORM's CARD OF 'laws.FnUTF16Of'. -/
def fnUTF16OfUptoCard : Claim7 := { stood := { row := fnUTF16OfUptoRow, standIns := [], harness := (true, "6dad032a507c2cfdab9d2d961e42ac453317d27cbc428157a959974df35eb5bc"), looks := true }, kinds := [], alts := [], laidByText := true, laidKinds := [.data, .sentinel, .pinned], laidTests := true, laidLooks := .later }
def FnUTF16OfUptoCardSaid : Prop := Claim7.holds Tryd.pinned (.plain (OpenSpec.upto fnUTF16OfSpec)) fnUTF16OfUptoCard

/-- THE SECOND FORM's CARD OF 'laws.FnOctal'. -/
def fnOctalUptoCard : Claim7 := { stood := { row := fnOctalUptoRow, standIns := [], harness := (true, "6dad032a507c2cfdab9d2d961e42ac453317d27cbc428157a959974df35eb5bc"), looks := true }, kinds := [], alts := [], laidByText := true, laidKinds := [.data, .data, .data, .sentinel, .sentinel], laidTests := true, laidLooks := .later }
def FnOctalUptoCardSaid : Prop := Claim7.holds Tryd.pinned (.plain (OpenSpec.upto fnOctalSpec)) fnOctalUptoCard

/-- THE SECOND FORM's CARD OF 'laws.FnEscape'. -/
def fnEscapeUptoCard : Claim7 := { stood := { row := fnEscapeUptoRow, standIns := [], harness := (true, "6dad032a507c2cfdab9d2d961e42ac453317d27cbc428157a959974df35eb5bc"), looks := true }, kinds := [], alts := [], laidByText := true, laidKinds := [.data, .data, .data, .sentinel, .sentinel, .sentinel], laidTests := true, laidLooks := .later }
def FnEscapeUptoCardSaid : Prop := Claim7.holds Tryd.pinned (.plain (OpenSpec.upto fnEscapeSpec)) fnEscapeUptoCard

/-- THE SECOND FORM's CARD OF 'laws.FnLiteralText'. -/
def fnLiteralTextUptoCard : Claim7 := { stood := { row := fnLiteralTextUptoRow, standIns := [], harness := (true, "6dad032a507c2cfdab9d2d961e42ac453317d27cbc428157a959974df35eb5bc"), looks := true }, kinds := [], alts := [], laidByText := true, laidKinds := [.data, .data, .data, .data, .sentinel, .sentinel, .sentinel, .mapped, .sentinel, .pinned], laidTests := true, laidLooks := .later }
def FnLiteralTextUptoCardSaid : Prop := Claim7.holds Tryd.pinned (.plain (OpenSpec.upto fnLiteralTextSpec)) fnLiteralTextUptoCard
end Rows
end Go.Proofs.YtcohlcijgfdanaaDoor
