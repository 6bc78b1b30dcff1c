/-
  DERIVED. GIVEN WITH THE SEED: THE CARDS: each row of YtpfnakonpledgaaDoorRows.lean that lists a variable, with what it lists TIED to the program's text (the seventh form; the later family's looks); each row that meets fmt, with fmt's text TOLD by the authors' own Lean function (tested against real Go, not proved from fmt's source: count such statements apart). THE CARD IS WHAT COUNTS. Prove the row's statement (the work); the ties are given (YtpfnakonpledgaaDoorTie.lean); close each card by the builder's one call (the guide's Derived/Test/ToyasCard.lean, 'card_holds'). Laid BY PROGRAM, IN A SANDBOX (cutbox-door.mjs). By AI agents, Wed Nov 11 2026. No macro, syntax, notation, axiom, sorry.
-/
import Derived.Test.YtpfnakonpledgaaDoorRows
import GoSem.ClaimSeven
namespace Go.Proofs.YtpfnakonpledgaaDoor
namespace Rows

/-- THE TIED CARD OF 'thicketlaw01.TextNewlines'. -/
def textNewlinesCard : Claim7 := { stood := { row := textNewlinesRow, standIns := [], harness := (true, "f596d8e0cdc7cd68567c4e9c98ad12d4953860086fb023768a466ca77230ea83"), looks := false }, kinds := [], alts := [], laidByText := true, laidKinds := [.data, .pinned], laidTests := true, laidLooks := .later }
def TextNewlinesCardSaid : Prop := Claim7.holds Tryd.pinned (.plain (OpenSpec.ofChange textNewlinesSpec)) textNewlinesCard

/-- THE TIED CARD OF 'thicketlaw01.TextSpoilt'. -/
def textSpoiltCard : Claim7 := { stood := { row := textSpoiltRow, standIns := [], harness := (true, "f596d8e0cdc7cd68567c4e9c98ad12d4953860086fb023768a466ca77230ea83"), looks := false }, kinds := [], alts := [], laidByText := true, laidKinds := [.data, .pinned], laidTests := true, laidLooks := .later }
def TextSpoiltCardSaid : Prop := Claim7.holds Tryd.pinned (.plain (OpenSpec.ofChange textSpoiltSpec)) textSpoiltCard

/-- THE TIED CARD OF 'thicketlaw01.TextClasses'. -/
def textClassesCard : Claim7 := { stood := { row := textClassesRow, standIns := [], harness := (true, "f596d8e0cdc7cd68567c4e9c98ad12d4953860086fb023768a466ca77230ea83"), looks := false }, kinds := [], alts := [], laidByText := true, laidKinds := [.data, .pinned], laidTests := true, laidLooks := .later }
def TextClassesCardSaid : Prop := Claim7.holds Tryd.pinned (.plain (OpenSpec.ofChange textClassesSpec)) textClassesCard

/-- THE TIED CARD OF 'thicketlaw01.TextElements'. -/
def textElementsCard : Claim7 := { stood := { row := textElementsRow, standIns := [], harness := (true, "f596d8e0cdc7cd68567c4e9c98ad12d4953860086fb023768a466ca77230ea83"), looks := false }, kinds := [], alts := [], laidByText := true, laidKinds := [.data, .pinned], laidTests := true, laidLooks := .later }
def TextElementsCardSaid : Prop := Claim7.holds Tryd.pinned (.plain (OpenSpec.ofChange textElementsSpec)) textElementsCard

/-- THE TIED CARD OF 'thicketlaw01.TextDigits'. -/
def textDigitsCard : Claim7 := { stood := { row := textDigitsRow, standIns := [], harness := (true, "f596d8e0cdc7cd68567c4e9c98ad12d4953860086fb023768a466ca77230ea83"), looks := false }, kinds := [], alts := [], laidByText := true, laidKinds := [.data, .pinned], laidTests := true, laidLooks := .later }
def TextDigitsCardSaid : Prop := Claim7.holds Tryd.pinned (.plain (OpenSpec.ofChange textDigitsSpec)) textDigitsCard

/-- THE TIED CARD OF 'thicketlaw01.TextEscapes'. -/
def textEscapesCard : Claim7 := { stood := { row := textEscapesRow, standIns := [], harness := (true, "f596d8e0cdc7cd68567c4e9c98ad12d4953860086fb023768a466ca77230ea83"), looks := false }, kinds := [], alts := [], laidByText := true, laidKinds := [.data, .pinned], laidTests := true, laidLooks := .later }
def TextEscapesCardSaid : Prop := Claim7.holds Tryd.pinned (.plain (OpenSpec.ofChange textEscapesSpec)) textEscapesCard

/-- THE TIED CARD OF 'thicketlaw01.TextEscaped'. -/
def textEscapedCard : Claim7 := { stood := { row := textEscapedRow, standIns := [], harness := (true, "f596d8e0cdc7cd68567c4e9c98ad12d4953860086fb023768a466ca77230ea83"), looks := false }, kinds := [], alts := [], laidByText := true, laidKinds := [.data, .pinned], laidTests := true, laidLooks := .later }
def TextEscapedCardSaid : Prop := Claim7.holds Tryd.pinned (.plain (OpenSpec.ofChange textEscapedSpec)) textEscapedCard

/-- THE TIED CARD OF 'thicketlaw01.TextLowers'. -/
def textLowersCard : Claim7 := { stood := { row := textLowersRow, standIns := [], harness := (true, "f596d8e0cdc7cd68567c4e9c98ad12d4953860086fb023768a466ca77230ea83"), looks := false }, kinds := [], alts := [], laidByText := true, laidKinds := [.data, .pinned], laidTests := true, laidLooks := .later }
def TextLowersCardSaid : Prop := Claim7.holds Tryd.pinned (.plain (OpenSpec.ofChange textLowersSpec)) textLowersCard

/-- THE TIED CARD OF 'thicketlaw01.TextFolds'. -/
def textFoldsCard : Claim7 := { stood := { row := textFoldsRow, standIns := [], harness := (true, "f596d8e0cdc7cd68567c4e9c98ad12d4953860086fb023768a466ca77230ea83"), looks := false }, kinds := [], alts := [], laidByText := true, laidKinds := [.data, .pinned], laidTests := true, laidLooks := .later }
def TextFoldsCardSaid : Prop := Claim7.holds Tryd.pinned (.plain (OpenSpec.ofChange textFoldsSpec)) textFoldsCard

/-- THE TIED CARD OF 'thicketlaw01.TextDecodes'. -/
def textDecodesCard : Claim7 := { stood := { row := textDecodesRow, standIns := [], harness := (true, "f596d8e0cdc7cd68567c4e9c98ad12d4953860086fb023768a466ca77230ea83"), looks := false }, kinds := [], alts := [], laidByText := true, laidKinds := [.data, .pinned], laidTests := true, laidLooks := .later }
def TextDecodesCardSaid : Prop := Claim7.holds Tryd.pinned (.plain (OpenSpec.ofChange textDecodesSpec)) textDecodesCard

/-- THE TIED CARD OF 'thicketlaw01.TextPieces'. -/
def textPiecesCard : Claim7 := { stood := { row := textPiecesRow, standIns := [], harness := (true, "f596d8e0cdc7cd68567c4e9c98ad12d4953860086fb023768a466ca77230ea83"), looks := false }, kinds := [], alts := [], laidByText := true, laidKinds := [.data, .pinned], laidTests := true, laidLooks := .later }
def TextPiecesCardSaid : Prop := Claim7.holds Tryd.pinned (.plain (OpenSpec.ofChange textPiecesSpec)) textPiecesCard

/-- THE TIED CARD OF 'thicketlaw01.TextValid'. -/
def textValidCard : Claim7 := { stood := { row := textValidRow, standIns := [], harness := (true, "f596d8e0cdc7cd68567c4e9c98ad12d4953860086fb023768a466ca77230ea83"), looks := false }, kinds := [], alts := [], laidByText := true, laidKinds := [.data, .pinned], laidTests := true, laidLooks := .later }
def TextValidCardSaid : Prop := Claim7.holds Tryd.pinned (.plain (OpenSpec.ofChange textValidSpec)) textValidCard

/-- THE TIED CARD OF 'thicketlaw01.TextScalars'. -/
def textScalarsCard : Claim7 := { stood := { row := textScalarsRow, standIns := [], harness := (true, "f596d8e0cdc7cd68567c4e9c98ad12d4953860086fb023768a466ca77230ea83"), looks := false }, kinds := [], alts := [], laidByText := true, laidKinds := [.data, .pinned], laidTests := true, laidLooks := .later }
def TextScalarsCardSaid : Prop := Claim7.holds Tryd.pinned (.plain (OpenSpec.ofChange textScalarsSpec)) textScalarsCard

/-- THE TIED CARD OF 'thicketlaw01.TextInput'. -/
def textInputCard : Claim7 := { stood := { row := textInputRow, standIns := [], harness := (true, "f596d8e0cdc7cd68567c4e9c98ad12d4953860086fb023768a466ca77230ea83"), looks := false }, kinds := [], alts := [], laidByText := true, laidKinds := [.data, .pinned], laidTests := true, laidLooks := .later }
def TextInputCardSaid : Prop := Claim7.holds Tryd.pinned (.plain (OpenSpec.ofChange textInputSpec)) textInputCard

/-- THE TIED CARD OF 'thicketlaw01.TextNamed'. -/
def textNamedCard : Claim7 := { stood := { row := textNamedRow, standIns := [], harness := (true, "f596d8e0cdc7cd68567c4e9c98ad12d4953860086fb023768a466ca77230ea83"), looks := false }, kinds := [], alts := [], laidByText := true, laidKinds := [.data, .pinned], laidTests := true, laidLooks := .later }
def TextNamedCardSaid : Prop := Claim7.holds Tryd.pinned (.plain (OpenSpec.ofChange textNamedSpec)) textNamedCard

/-- THE TIED CARD OF 'thicketlaw01.TextCodes'. -/
def textCodesCard : Claim7 := { stood := { row := textCodesRow, standIns := [], harness := (true, "f596d8e0cdc7cd68567c4e9c98ad12d4953860086fb023768a466ca77230ea83"), looks := false }, kinds := [], alts := [], laidByText := true, laidKinds := [.data, .pinned], laidTests := true, laidLooks := .later }
def TextCodesCardSaid : Prop := Claim7.holds Tryd.pinned (.plain (OpenSpec.ofChange textCodesSpec)) textCodesCard

/-- THE TIED CARD OF 'thicketlaw01.TextTable'. -/
def textTableCard : Claim7 := { stood := { row := textTableRow, standIns := [], harness := (true, "f596d8e0cdc7cd68567c4e9c98ad12d4953860086fb023768a466ca77230ea83"), looks := false }, kinds := [], alts := [], laidByText := true, laidKinds := [.data, .pinned], laidTests := true, laidLooks := .later }
def TextTableCardSaid : Prop := Claim7.holds Tryd.pinned (.plain (OpenSpec.ofChange textTableSpec)) textTableCard

/-- THE TIED CARD OF 'thicketlaw01.TextBehind'. -/
def textBehindCard : Claim7 := { stood := { row := textBehindRow, standIns := [], harness := (true, "f596d8e0cdc7cd68567c4e9c98ad12d4953860086fb023768a466ca77230ea83"), looks := false }, kinds := [], alts := [], laidByText := true, laidKinds := [.data, .pinned], laidTests := true, laidLooks := .later }
def TextBehindCardSaid : Prop := Claim7.holds Tryd.pinned (.plain (OpenSpec.ofChange textBehindSpec)) textBehindCard

/-- THE SECOND FORM's CARD OF 'thicketlaw01.TextNewlines'. -/
def textNewlinesUptoCard : Claim7 := { stood := { row := textNewlinesUptoRow, standIns := [], harness := (true, "f596d8e0cdc7cd68567c4e9c98ad12d4953860086fb023768a466ca77230ea83"), looks := false }, kinds := [], alts := [], laidByText := true, laidKinds := [.data, .pinned], laidTests := true, laidLooks := .later }
def TextNewlinesUptoCardSaid : Prop := Claim7.holds Tryd.pinned (.plain (OpenSpec.upto textNewlinesSpec)) textNewlinesUptoCard

/-- THE SECOND FORM's CARD OF 'thicketlaw01.TextSpoilt'. -/
def textSpoiltUptoCard : Claim7 := { stood := { row := textSpoiltUptoRow, standIns := [], harness := (true, "f596d8e0cdc7cd68567c4e9c98ad12d4953860086fb023768a466ca77230ea83"), looks := false }, kinds := [], alts := [], laidByText := true, laidKinds := [.data, .pinned], laidTests := true, laidLooks := .later }
def TextSpoiltUptoCardSaid : Prop := Claim7.holds Tryd.pinned (.plain (OpenSpec.upto textSpoiltSpec)) textSpoiltUptoCard

/-- THE SECOND FORM's CARD OF 'thicketlaw01.TextClasses'. -/
def textClassesUptoCard : Claim7 := { stood := { row := textClassesUptoRow, standIns := [], harness := (true, "f596d8e0cdc7cd68567c4e9c98ad12d4953860086fb023768a466ca77230ea83"), looks := false }, kinds := [], alts := [], laidByText := true, laidKinds := [.data, .pinned], laidTests := true, laidLooks := .later }
def TextClassesUptoCardSaid : Prop := Claim7.holds Tryd.pinned (.plain (OpenSpec.upto textClassesSpec)) textClassesUptoCard

/-- THE SECOND FORM's CARD OF 'thicketlaw01.TextElements'. -/
def textElementsUptoCard : Claim7 := { stood := { row := textElementsUptoRow, standIns := [], harness := (true, "f596d8e0cdc7cd68567c4e9c98ad12d4953860086fb023768a466ca77230ea83"), looks := false }, kinds := [], alts := [], laidByText := true, laidKinds := [.data, .pinned], laidTests := true, laidLooks := .later }
def TextElementsUptoCardSaid : Prop := Claim7.holds Tryd.pinned (.plain (OpenSpec.upto textElementsSpec)) textElementsUptoCard

/-- THE SECOND FORM's CARD OF 'thicketlaw01.TextDigits'. -/
def textDigitsUptoCard : Claim7 := { stood := { row := textDigitsUptoRow, standIns := [], harness := (true, "f596d8e0cdc7cd68567c4e9c98ad12d4953860086fb023768a466ca77230ea83"), looks := false }, kinds := [], alts := [], laidByText := true, laidKinds := [.data, .pinned], laidTests := true, laidLooks := .later }
def TextDigitsUptoCardSaid : Prop := Claim7.holds Tryd.pinned (.plain (OpenSpec.upto textDigitsSpec)) textDigitsUptoCard

/-- THE SECOND FORM's CARD OF 'thicketlaw01.TextEscapes'. -/
def textEscapesUptoCard : Claim7 := { stood := { row := textEscapesUptoRow, standIns := [], harness := (true, "f596d8e0cdc7cd68567c4e9c98ad12d4953860086fb023768a466ca77230ea83"), looks := false }, kinds := [], alts := [], laidByText := true, laidKinds := [.data, .pinned], laidTests := true, laidLooks := .later }
def TextEscapesUptoCardSaid : Prop := Claim7.holds Tryd.pinned (.plain (OpenSpec.upto textEscapesSpec)) textEscapesUptoCard

/-- THE SECOND FORM's CARD OF 'thicketlaw01.TextEscaped'. -/
def textEscapedUptoCard : Claim7 := { stood := { row := textEscapedUptoRow, standIns := [], harness := (true, "f596d8e0cdc7cd68567c4e9c98ad12d4953860086fb023768a466ca77230ea83"), looks := false }, kinds := [], alts := [], laidByText := true, laidKinds := [.data, .pinned], laidTests := true, laidLooks := .later }
def TextEscapedUptoCardSaid : Prop := Claim7.holds Tryd.pinned (.plain (OpenSpec.upto textEscapedSpec)) textEscapedUptoCard

/-- THE SECOND FORM's CARD OF 'thicketlaw01.TextLowers'. -/
def textLowersUptoCard : Claim7 := { stood := { row := textLowersUptoRow, standIns := [], harness := (true, "f596d8e0cdc7cd68567c4e9c98ad12d4953860086fb023768a466ca77230ea83"), looks := false }, kinds := [], alts := [], laidByText := true, laidKinds := [.data, .pinned], laidTests := true, laidLooks := .later }
def TextLowersUptoCardSaid : Prop := Claim7.holds Tryd.pinned (.plain (OpenSpec.upto textLowersSpec)) textLowersUptoCard

/-- THE SECOND FORM's CARD OF 'thicketlaw01.TextFolds'. -/
def textFoldsUptoCard : Claim7 := { stood := { row := textFoldsUptoRow, standIns := [], harness := (true, "f596d8e0cdc7cd68567c4e9c98ad12d4953860086fb023768a466ca77230ea83"), looks := false }, kinds := [], alts := [], laidByText := true, laidKinds := [.data, .pinned], laidTests := true, laidLooks := .later }
def TextFoldsUptoCardSaid : Prop := Claim7.holds Tryd.pinned (.plain (OpenSpec.upto textFoldsSpec)) textFoldsUptoCard

/-- THE SECOND FORM's CARD OF 'thicketlaw01.TextDecodes'. -/
def textDecodesUptoCard : Claim7 := { stood := { row := textDecodesUptoRow, standIns := [], harness := (true, "f596d8e0cdc7cd68567c4e9c98ad12d4953860086fb023768a466ca77230ea83"), looks := false }, kinds := [], alts := [], laidByText := true, laidKinds := [.data, .pinned], laidTests := true, laidLooks := .later }
def TextDecodesUptoCardSaid : Prop := Claim7.holds Tryd.pinned (.plain (OpenSpec.upto textDecodesSpec)) textDecodesUptoCard

/-- THE SECOND FORM's CARD OF 'thicketlaw01.TextPieces'. -/
def textPiecesUptoCard : Claim7 := { stood := { row := textPiecesUptoRow, standIns := [], harness := (true, "f596d8e0cdc7cd68567c4e9c98ad12d4953860086fb023768a466ca77230ea83"), looks := false }, kinds := [], alts := [], laidByText := true, laidKinds := [.data, .pinned], laidTests := true, laidLooks := .later }
def TextPiecesUptoCardSaid : Prop := Claim7.holds Tryd.pinned (.plain (OpenSpec.upto textPiecesSpec)) textPiecesUptoCard

/-- THE SECOND FORM's CARD OF 'thicketlaw01.TextValid'. -/
def textValidUptoCard : Claim7 := { stood := { row := textValidUptoRow, standIns := [], harness := (true, "f596d8e0cdc7cd68567c4e9c98ad12d4953860086fb023768a466ca77230ea83"), looks := false }, kinds := [], alts := [], laidByText := true, laidKinds := [.data, .pinned], laidTests := true, laidLooks := .later }
def TextValidUptoCardSaid : Prop := Claim7.holds Tryd.pinned (.plain (OpenSpec.upto textValidSpec)) textValidUptoCard

/-- THE SECOND FORM's CARD OF 'thicketlaw01.TextScalars'. -/
def textScalarsUptoCard : Claim7 := { stood := { row := textScalarsUptoRow, standIns := [], harness := (true, "f596d8e0cdc7cd68567c4e9c98ad12d4953860086fb023768a466ca77230ea83"), looks := false }, kinds := [], alts := [], laidByText := true, laidKinds := [.data, .pinned], laidTests := true, laidLooks := .later }
def TextScalarsUptoCardSaid : Prop := Claim7.holds Tryd.pinned (.plain (OpenSpec.upto textScalarsSpec)) textScalarsUptoCard

/-- THE SECOND FORM's CARD OF 'thicketlaw01.TextInput'. -/
def textInputUptoCard : Claim7 := { stood := { row := textInputUptoRow, standIns := [], harness := (true, "f596d8e0cdc7cd68567c4e9c98ad12d4953860086fb023768a466ca77230ea83"), looks := false }, kinds := [], alts := [], laidByText := true, laidKinds := [.data, .pinned], laidTests := true, laidLooks := .later }
def TextInputUptoCardSaid : Prop := Claim7.holds Tryd.pinned (.plain (OpenSpec.upto textInputSpec)) textInputUptoCard

/-- THE SECOND FORM's CARD OF 'thicketlaw01.TextNamed'. -/
def textNamedUptoCard : Claim7 := { stood := { row := textNamedUptoRow, standIns := [], harness := (true, "f596d8e0cdc7cd68567c4e9c98ad12d4953860086fb023768a466ca77230ea83"), looks := false }, kinds := [], alts := [], laidByText := true, laidKinds := [.data, .pinned], laidTests := true, laidLooks := .later }
def TextNamedUptoCardSaid : Prop := Claim7.holds Tryd.pinned (.plain (OpenSpec.upto textNamedSpec)) textNamedUptoCard

/-- THE SECOND FORM's CARD OF 'thicketlaw01.TextCodes'. -/
def textCodesUptoCard : Claim7 := { stood := { row := textCodesUptoRow, standIns := [], harness := (true, "f596d8e0cdc7cd68567c4e9c98ad12d4953860086fb023768a466ca77230ea83"), looks := false }, kinds := [], alts := [], laidByText := true, laidKinds := [.data, .pinned], laidTests := true, laidLooks := .later }
def TextCodesUptoCardSaid : Prop := Claim7.holds Tryd.pinned (.plain (OpenSpec.upto textCodesSpec)) textCodesUptoCard

/-- THE SECOND FORM's CARD OF 'thicketlaw01.TextTable'. -/
def textTableUptoCard : Claim7 := { stood := { row := textTableUptoRow, standIns := [], harness := (true, "f596d8e0cdc7cd68567c4e9c98ad12d4953860086fb023768a466ca77230ea83"), looks := false }, kinds := [], alts := [], laidByText := true, laidKinds := [.data, .pinned], laidTests := true, laidLooks := .later }
def TextTableUptoCardSaid : Prop := Claim7.holds Tryd.pinned (.plain (OpenSpec.upto textTableSpec)) textTableUptoCard

/-- THE SECOND FORM's CARD OF 'thicketlaw01.TextBehind'. -/
def textBehindUptoCard : Claim7 := { stood := { row := textBehindUptoRow, standIns := [], harness := (true, "f596d8e0cdc7cd68567c4e9c98ad12d4953860086fb023768a466ca77230ea83"), looks := false }, kinds := [], alts := [], laidByText := true, laidKinds := [.data, .pinned], laidTests := true, laidLooks := .later }
def TextBehindUptoCardSaid : Prop := Claim7.holds Tryd.pinned (.plain (OpenSpec.upto textBehindSpec)) textBehindUptoCard
end Rows
end Go.Proofs.YtpfnakonpledgaaDoor
