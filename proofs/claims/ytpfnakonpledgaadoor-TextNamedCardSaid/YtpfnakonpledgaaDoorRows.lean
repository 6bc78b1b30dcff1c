/-
  NARROWER THAN 'FOR EVERY INPUT', by the rows' own cells (each row's printed sentence says how): TextNewlines: laid · TextSpoilt: laid · TextClasses: laid · TextElements: laid · TextDigits: laid · TextEscapes: laid · TextEscaped: laid · TextLowers: laid · TextFolds: laid · TextDecodes: laid · TextPieces: laid · TextValid: laid · TextScalars: laid · TextInput: laid · TextNamed: laid · TextCodes: laid · TextTable: laid · TextBehind: laid.
  DERIVED. THE GIVEN ROWS OF THIS SEAT. 18 by the template 'for every input the law returns true; each argument reads behind the call as it read before'; 0 by the template 'total and deterministic' (their statements: YtpfnakonpledgaaDoorTotals.lean).
  GIVEN WITH THE SEED: the statements are not yours to turn. If you find one false, say at which input.
  Laid BY PROGRAM, IN A SANDBOX (cutbox-rows.mjs): the forced cells as the released guide's own fill.sh prints them over the translation 0ef133748ade52cb… (all of the seat's roots in one cut). By AI agents, Wed Nov 11 2026. No macro, syntax, notation, axiom, sorry.
-/
import Derived.Test.YtpfnakonpledgaaDoorChecked
import GoSem.PinnedTables
import GoSem.Claim
import GoSem.ClaimJoined
import GoSem.ClaimMapViews
import Derived.JoinedTies
import Derived.KernelRfl
namespace Go.Proofs.YtpfnakonpledgaaDoor
/- THE CELL 'sum', in the pinned program and in every row, IS THE sha256 OF THE DUMP (.gsa) THAT YtpfnakonpledgaaDoorProg.lean LOADS. Nothing in Lean hashes anything: it is a label: what it is worth is what the hold of that sum in a sandbox is worth. -/
noncomputable def Tryd.pinned : Pinned := { name := "ytpfnakonpledgaadoor", sum := "0ef133748ade52cb56af3c543067fc4d232f63d14a436559783a4b812fbb1443", checked := Tryd.checked }
namespace Rows
def none {H : Type} : Left H := { results := [], args := [] }

/- WHAT THE LISTED PACKAGE-LEVEL VARIABLES READ AS WHEN THE CALL BEGINS. Each datum BY PROGRAM (the guide's laid-datum.mjs) off the statement by which the dump's own 'gosem.cut.vars' lays the variable. In a bare row this is a premise. The card (YtpfnakonpledgaaDoorCards.lean) ties it to the program's text. -/
def laid_unicode_utf8_acceptRanges {H : Type} : DataW H := .agg [.agg [.lit (.int .u8 128), .lit (.int .u8 191)], .agg [.lit (.int .u8 160), .lit (.int .u8 191)], .agg [.lit (.int .u8 128), .lit (.int .u8 159)], .agg [.lit (.int .u8 144), .lit (.int .u8 191)], .agg [.lit (.int .u8 128), .lit (.int .u8 143)], .agg [.lit (.int .u8 0), .lit (.int .u8 0)], .agg [.lit (.int .u8 0), .lit (.int .u8 0)], .agg [.lit (.int .u8 0), .lit (.int .u8 0)], .agg [.lit (.int .u8 0), .lit (.int .u8 0)], .agg [.lit (.int .u8 0), .lit (.int .u8 0)], .agg [.lit (.int .u8 0), .lit (.int .u8 0)], .agg [.lit (.int .u8 0), .lit (.int .u8 0)], .agg [.lit (.int .u8 0), .lit (.int .u8 0)], .agg [.lit (.int .u8 0), .lit (.int .u8 0)], .agg [.lit (.int .u8 0), .lit (.int .u8 0)], .agg [.lit (.int .u8 0), .lit (.int .u8 0)]]
/-- One of Go's own tables, pinned by name: the form's constant. -/
def laid_unicode_utf8_first : DataW Unit := Go.Pinned.utf8First

/-- 'thicketlaw01.TextNewlines': WHATEVER THE INPUT: true; the input reads as it did. -/
def textNewlinesSpec : ChangeSpec := { name := "textNewlines", fn := fun _ => fun
  | [d] => { results := [.lit (.bool true)], args := [d] }
  | _ => none }
def textNewlinesRow : OpenClaim := { program := "ytpfnakonpledgaadoor", sum := "0ef133748ade52cb56af3c543067fc4d232f63d14a436559783a4b812fbb1443", func := "thicket/thicketlaw01.TextNewlines", spec := "textNewlines", inPlace := ["internal/bytealg.IndexByteString", "internal/bytealg.IndexString", "internal/abi.NoEscape", "internal/bytealg.CountString", "internal/bytealg.MakeNoZero"], unfollowed := true, recurses := true, named := ["internal/bytealg.MaxLen", "unicode/utf8.first", "unicode/utf8.acceptRanges"], apart := false, laid := [("unicode/utf8.acceptRanges", laid_unicode_utf8_acceptRanges), ("unicode/utf8.first", laid_unicode_utf8_first)] }
def TextNewlinesSaid : Prop := textNewlinesRow.holds Tryd.pinned (OpenSpec.ofChange textNewlinesSpec)

/-- ITS FALSE NEIGHBOUR: 'it returns false'. Refute it at one input. -/
def textNewlinesWrong : ChangeSpec := { name := "textNewlines", fn := fun _ => fun
  | [d] => { results := [.lit (.bool false)], args := [d] }
  | _ => none }
def TextNewlinesWrongFalsely : Prop := textNewlinesRow.holds Tryd.pinned (OpenSpec.ofChange textNewlinesWrong)

/-- 'thicketlaw01.TextSpoilt': WHATEVER THE INPUT: true; the input reads as it did. -/
def textSpoiltSpec : ChangeSpec := { name := "textSpoilt", fn := fun _ => fun
  | [d1, d2, d3] => { results := [.lit (.bool true)], args := [d1, d2, d3] }
  | _ => none }
def textSpoiltRow : OpenClaim := { program := "ytpfnakonpledgaadoor", sum := "0ef133748ade52cb56af3c543067fc4d232f63d14a436559783a4b812fbb1443", func := "thicket/thicketlaw01.TextSpoilt", spec := "textSpoilt", inPlace := ["internal/bytealg.IndexByteString", "internal/bytealg.IndexString", "internal/abi.NoEscape", "internal/bytealg.CountString", "internal/bytealg.MakeNoZero"], unfollowed := true, recurses := true, named := ["internal/bytealg.MaxLen", "unicode/utf8.first", "unicode/utf8.acceptRanges"], apart := false, laid := [("unicode/utf8.acceptRanges", laid_unicode_utf8_acceptRanges), ("unicode/utf8.first", laid_unicode_utf8_first)] }
def TextSpoiltSaid : Prop := textSpoiltRow.holds Tryd.pinned (OpenSpec.ofChange textSpoiltSpec)

/-- ITS FALSE NEIGHBOUR: 'it returns false'. Refute it at one input. -/
def textSpoiltWrong : ChangeSpec := { name := "textSpoilt", fn := fun _ => fun
  | [d1, d2, d3] => { results := [.lit (.bool false)], args := [d1, d2, d3] }
  | _ => none }
def TextSpoiltWrongFalsely : Prop := textSpoiltRow.holds Tryd.pinned (OpenSpec.ofChange textSpoiltWrong)

/-- 'thicketlaw01.TextClasses': WHATEVER THE INPUT: true; the input reads as it did. -/
def textClassesSpec : ChangeSpec := { name := "textClasses", fn := fun _ => fun
  | [d] => { results := [.lit (.bool true)], args := [d] }
  | _ => none }
def textClassesRow : OpenClaim := { program := "ytpfnakonpledgaadoor", sum := "0ef133748ade52cb56af3c543067fc4d232f63d14a436559783a4b812fbb1443", func := "thicket/thicketlaw01.TextClasses", spec := "textClasses", inPlace := ["internal/bytealg.IndexByteString", "internal/bytealg.IndexString", "internal/abi.NoEscape", "internal/bytealg.CountString", "internal/bytealg.MakeNoZero"], unfollowed := true, recurses := true, named := ["internal/bytealg.MaxLen", "unicode/utf8.first", "unicode/utf8.acceptRanges"], apart := false, laid := [("unicode/utf8.acceptRanges", laid_unicode_utf8_acceptRanges), ("unicode/utf8.first", laid_unicode_utf8_first)] }
def TextClassesSaid : Prop := textClassesRow.holds Tryd.pinned (OpenSpec.ofChange textClassesSpec)

/-- ITS FALSE NEIGHBOUR: 'it returns false'. Refute it at one input. -/
def textClassesWrong : ChangeSpec := { name := "textClasses", fn := fun _ => fun
  | [d] => { results := [.lit (.bool false)], args := [d] }
  | _ => none }
def TextClassesWrongFalsely : Prop := textClassesRow.holds Tryd.pinned (OpenSpec.ofChange textClassesWrong)

/-- 'thicketlaw01.TextElements': WHATEVER THE INPUT: true; the input reads as it did. -/
def textElementsSpec : ChangeSpec := { name := "textElements", fn := fun _ => fun
  | [d] => { results := [.lit (.bool true)], args := [d] }
  | _ => none }
def textElementsRow : OpenClaim := { program := "ytpfnakonpledgaadoor", sum := "0ef133748ade52cb56af3c543067fc4d232f63d14a436559783a4b812fbb1443", func := "thicket/thicketlaw01.TextElements", spec := "textElements", inPlace := ["internal/bytealg.IndexByteString", "internal/bytealg.IndexString", "internal/abi.NoEscape", "internal/bytealg.CountString", "internal/bytealg.MakeNoZero"], unfollowed := true, recurses := true, named := ["internal/bytealg.MaxLen", "unicode/utf8.first", "unicode/utf8.acceptRanges"], apart := false, laid := [("unicode/utf8.acceptRanges", laid_unicode_utf8_acceptRanges), ("unicode/utf8.first", laid_unicode_utf8_first)] }
def TextElementsSaid : Prop := textElementsRow.holds Tryd.pinned (OpenSpec.ofChange textElementsSpec)

/-- ITS FALSE NEIGHBOUR: 'it returns false'. Refute it at one input. -/
def textElementsWrong : ChangeSpec := { name := "textElements", fn := fun _ => fun
  | [d] => { results := [.lit (.bool false)], args := [d] }
  | _ => none }
def TextElementsWrongFalsely : Prop := textElementsRow.holds Tryd.pinned (OpenSpec.ofChange textElementsWrong)

/-- 'thicketlaw01.TextDigits': WHATEVER THE INPUT: true; the input reads as it did. -/
def textDigitsSpec : ChangeSpec := { name := "textDigits", fn := fun _ => fun
  | [d1, d2] => { results := [.lit (.bool true)], args := [d1, d2] }
  | _ => none }
def textDigitsRow : OpenClaim := { program := "ytpfnakonpledgaadoor", sum := "0ef133748ade52cb56af3c543067fc4d232f63d14a436559783a4b812fbb1443", func := "thicket/thicketlaw01.TextDigits", spec := "textDigits", inPlace := ["internal/bytealg.IndexByteString", "internal/bytealg.IndexString", "internal/abi.NoEscape", "internal/bytealg.CountString", "internal/bytealg.MakeNoZero"], unfollowed := true, recurses := true, named := ["internal/bytealg.MaxLen", "unicode/utf8.first", "unicode/utf8.acceptRanges"], apart := false, laid := [("unicode/utf8.acceptRanges", laid_unicode_utf8_acceptRanges), ("unicode/utf8.first", laid_unicode_utf8_first)] }
def TextDigitsSaid : Prop := textDigitsRow.holds Tryd.pinned (OpenSpec.ofChange textDigitsSpec)

/-- ITS FALSE NEIGHBOUR: 'it returns false'. Refute it at one input. -/
def textDigitsWrong : ChangeSpec := { name := "textDigits", fn := fun _ => fun
  | [d1, d2] => { results := [.lit (.bool false)], args := [d1, d2] }
  | _ => none }
def TextDigitsWrongFalsely : Prop := textDigitsRow.holds Tryd.pinned (OpenSpec.ofChange textDigitsWrong)

/-- 'thicketlaw01.TextEscapes': WHATEVER THE INPUT: true; the input reads as it did. -/
def textEscapesSpec : ChangeSpec := { name := "textEscapes", fn := fun _ => fun
  | [d] => { results := [.lit (.bool true)], args := [d] }
  | _ => none }
def textEscapesRow : OpenClaim := { program := "ytpfnakonpledgaadoor", sum := "0ef133748ade52cb56af3c543067fc4d232f63d14a436559783a4b812fbb1443", func := "thicket/thicketlaw01.TextEscapes", spec := "textEscapes", inPlace := ["internal/bytealg.IndexByteString", "internal/bytealg.IndexString", "internal/abi.NoEscape", "internal/bytealg.CountString", "internal/bytealg.MakeNoZero"], unfollowed := true, recurses := true, named := ["internal/bytealg.MaxLen", "unicode/utf8.first", "unicode/utf8.acceptRanges"], apart := false, laid := [("unicode/utf8.acceptRanges", laid_unicode_utf8_acceptRanges), ("unicode/utf8.first", laid_unicode_utf8_first)] }
def TextEscapesSaid : Prop := textEscapesRow.holds Tryd.pinned (OpenSpec.ofChange textEscapesSpec)

/-- ITS FALSE NEIGHBOUR: 'it returns false'. Refute it at one input. -/
def textEscapesWrong : ChangeSpec := { name := "textEscapes", fn := fun _ => fun
  | [d] => { results := [.lit (.bool false)], args := [d] }
  | _ => none }
def TextEscapesWrongFalsely : Prop := textEscapesRow.holds Tryd.pinned (OpenSpec.ofChange textEscapesWrong)

/-- 'thicketlaw01.TextEscaped': WHATEVER THE INPUT: true; the input reads as it did. -/
def textEscapedSpec : ChangeSpec := { name := "textEscaped", fn := fun _ => fun
  | [d1, d2] => { results := [.lit (.bool true)], args := [d1, d2] }
  | _ => none }
def textEscapedRow : OpenClaim := { program := "ytpfnakonpledgaadoor", sum := "0ef133748ade52cb56af3c543067fc4d232f63d14a436559783a4b812fbb1443", func := "thicket/thicketlaw01.TextEscaped", spec := "textEscaped", inPlace := ["internal/bytealg.IndexByteString", "internal/bytealg.IndexString", "internal/abi.NoEscape", "internal/bytealg.CountString", "internal/bytealg.MakeNoZero"], unfollowed := true, recurses := true, named := ["internal/bytealg.MaxLen", "unicode/utf8.first", "unicode/utf8.acceptRanges"], apart := false, laid := [("unicode/utf8.acceptRanges", laid_unicode_utf8_acceptRanges), ("unicode/utf8.first", laid_unicode_utf8_first)] }
def TextEscapedSaid : Prop := textEscapedRow.holds Tryd.pinned (OpenSpec.ofChange textEscapedSpec)

/-- ITS FALSE NEIGHBOUR: 'it returns false'. Refute it at one input. -/
def textEscapedWrong : ChangeSpec := { name := "textEscaped", fn := fun _ => fun
  | [d1, d2] => { results := [.lit (.bool false)], args := [d1, d2] }
  | _ => none }
def TextEscapedWrongFalsely : Prop := textEscapedRow.holds Tryd.pinned (OpenSpec.ofChange textEscapedWrong)

/-- 'thicketlaw01.TextLowers': WHATEVER THE INPUT: true; the input reads as it did. -/
def textLowersSpec : ChangeSpec := { name := "textLowers", fn := fun _ => fun
  | [d] => { results := [.lit (.bool true)], args := [d] }
  | _ => none }
def textLowersRow : OpenClaim := { program := "ytpfnakonpledgaadoor", sum := "0ef133748ade52cb56af3c543067fc4d232f63d14a436559783a4b812fbb1443", func := "thicket/thicketlaw01.TextLowers", spec := "textLowers", inPlace := ["internal/bytealg.IndexByteString", "internal/bytealg.IndexString", "internal/abi.NoEscape", "internal/bytealg.CountString", "internal/bytealg.MakeNoZero"], unfollowed := true, recurses := true, named := ["internal/bytealg.MaxLen", "unicode/utf8.first", "unicode/utf8.acceptRanges"], apart := false, laid := [("unicode/utf8.acceptRanges", laid_unicode_utf8_acceptRanges), ("unicode/utf8.first", laid_unicode_utf8_first)] }
def TextLowersSaid : Prop := textLowersRow.holds Tryd.pinned (OpenSpec.ofChange textLowersSpec)

/-- ITS FALSE NEIGHBOUR: 'it returns false'. Refute it at one input. -/
def textLowersWrong : ChangeSpec := { name := "textLowers", fn := fun _ => fun
  | [d] => { results := [.lit (.bool false)], args := [d] }
  | _ => none }
def TextLowersWrongFalsely : Prop := textLowersRow.holds Tryd.pinned (OpenSpec.ofChange textLowersWrong)

/-- 'thicketlaw01.TextFolds': WHATEVER THE INPUT: true; the input reads as it did. -/
def textFoldsSpec : ChangeSpec := { name := "textFolds", fn := fun _ => fun
  | [d1, d2, d3] => { results := [.lit (.bool true)], args := [d1, d2, d3] }
  | _ => none }
def textFoldsRow : OpenClaim := { program := "ytpfnakonpledgaadoor", sum := "0ef133748ade52cb56af3c543067fc4d232f63d14a436559783a4b812fbb1443", func := "thicket/thicketlaw01.TextFolds", spec := "textFolds", inPlace := ["internal/bytealg.IndexByteString", "internal/bytealg.IndexString", "internal/abi.NoEscape", "internal/bytealg.CountString", "internal/bytealg.MakeNoZero"], unfollowed := true, recurses := true, named := ["internal/bytealg.MaxLen", "unicode/utf8.first", "unicode/utf8.acceptRanges"], apart := false, laid := [("unicode/utf8.acceptRanges", laid_unicode_utf8_acceptRanges), ("unicode/utf8.first", laid_unicode_utf8_first)] }
def TextFoldsSaid : Prop := textFoldsRow.holds Tryd.pinned (OpenSpec.ofChange textFoldsSpec)

/-- ITS FALSE NEIGHBOUR: 'it returns false'. Refute it at one input. -/
def textFoldsWrong : ChangeSpec := { name := "textFolds", fn := fun _ => fun
  | [d1, d2, d3] => { results := [.lit (.bool false)], args := [d1, d2, d3] }
  | _ => none }
def TextFoldsWrongFalsely : Prop := textFoldsRow.holds Tryd.pinned (OpenSpec.ofChange textFoldsWrong)

/-- 'thicketlaw01.TextDecodes': WHATEVER THE INPUT: true; the input reads as it did. -/
def textDecodesSpec : ChangeSpec := { name := "textDecodes", fn := fun _ => fun
  | [d] => { results := [.lit (.bool true)], args := [d] }
  | _ => none }
def textDecodesRow : OpenClaim := { program := "ytpfnakonpledgaadoor", sum := "0ef133748ade52cb56af3c543067fc4d232f63d14a436559783a4b812fbb1443", func := "thicket/thicketlaw01.TextDecodes", spec := "textDecodes", inPlace := ["internal/bytealg.IndexByteString", "internal/bytealg.IndexString", "internal/abi.NoEscape", "internal/bytealg.CountString", "internal/bytealg.MakeNoZero"], unfollowed := true, recurses := true, named := ["internal/bytealg.MaxLen", "unicode/utf8.first", "unicode/utf8.acceptRanges"], apart := false, laid := [("unicode/utf8.acceptRanges", laid_unicode_utf8_acceptRanges), ("unicode/utf8.first", laid_unicode_utf8_first)] }
def TextDecodesSaid : Prop := textDecodesRow.holds Tryd.pinned (OpenSpec.ofChange textDecodesSpec)

/-- ITS FALSE NEIGHBOUR: 'it returns false'. Refute it at one input. -/
def textDecodesWrong : ChangeSpec := { name := "textDecodes", fn := fun _ => fun
  | [d] => { results := [.lit (.bool false)], args := [d] }
  | _ => none }
def TextDecodesWrongFalsely : Prop := textDecodesRow.holds Tryd.pinned (OpenSpec.ofChange textDecodesWrong)

/-- 'thicketlaw01.TextPieces': WHATEVER THE INPUT: true; the input reads as it did. -/
def textPiecesSpec : ChangeSpec := { name := "textPieces", fn := fun _ => fun
  | [d1, d2] => { results := [.lit (.bool true)], args := [d1, d2] }
  | _ => none }
def textPiecesRow : OpenClaim := { program := "ytpfnakonpledgaadoor", sum := "0ef133748ade52cb56af3c543067fc4d232f63d14a436559783a4b812fbb1443", func := "thicket/thicketlaw01.TextPieces", spec := "textPieces", inPlace := ["internal/bytealg.IndexByteString", "internal/bytealg.IndexString", "internal/abi.NoEscape", "internal/bytealg.CountString", "internal/bytealg.MakeNoZero"], unfollowed := true, recurses := true, named := ["internal/bytealg.MaxLen", "unicode/utf8.first", "unicode/utf8.acceptRanges"], apart := false, laid := [("unicode/utf8.acceptRanges", laid_unicode_utf8_acceptRanges), ("unicode/utf8.first", laid_unicode_utf8_first)] }
def TextPiecesSaid : Prop := textPiecesRow.holds Tryd.pinned (OpenSpec.ofChange textPiecesSpec)

/-- ITS FALSE NEIGHBOUR: 'it returns false'. Refute it at one input. -/
def textPiecesWrong : ChangeSpec := { name := "textPieces", fn := fun _ => fun
  | [d1, d2] => { results := [.lit (.bool false)], args := [d1, d2] }
  | _ => none }
def TextPiecesWrongFalsely : Prop := textPiecesRow.holds Tryd.pinned (OpenSpec.ofChange textPiecesWrong)

/-- 'thicketlaw01.TextValid': WHATEVER THE INPUT: true; the input reads as it did. -/
def textValidSpec : ChangeSpec := { name := "textValid", fn := fun _ => fun
  | [d] => { results := [.lit (.bool true)], args := [d] }
  | _ => none }
def textValidRow : OpenClaim := { program := "ytpfnakonpledgaadoor", sum := "0ef133748ade52cb56af3c543067fc4d232f63d14a436559783a4b812fbb1443", func := "thicket/thicketlaw01.TextValid", spec := "textValid", inPlace := ["internal/bytealg.IndexByteString", "internal/bytealg.IndexString", "internal/abi.NoEscape", "internal/bytealg.CountString", "internal/bytealg.MakeNoZero"], unfollowed := true, recurses := true, named := ["internal/bytealg.MaxLen", "unicode/utf8.first", "unicode/utf8.acceptRanges"], apart := false, laid := [("unicode/utf8.acceptRanges", laid_unicode_utf8_acceptRanges), ("unicode/utf8.first", laid_unicode_utf8_first)] }
def TextValidSaid : Prop := textValidRow.holds Tryd.pinned (OpenSpec.ofChange textValidSpec)

/-- ITS FALSE NEIGHBOUR: 'it returns false'. Refute it at one input. -/
def textValidWrong : ChangeSpec := { name := "textValid", fn := fun _ => fun
  | [d] => { results := [.lit (.bool false)], args := [d] }
  | _ => none }
def TextValidWrongFalsely : Prop := textValidRow.holds Tryd.pinned (OpenSpec.ofChange textValidWrong)

/-- 'thicketlaw01.TextScalars': WHATEVER THE INPUT: true; the input reads as it did. -/
def textScalarsSpec : ChangeSpec := { name := "textScalars", fn := fun _ => fun
  | [d] => { results := [.lit (.bool true)], args := [d] }
  | _ => none }
def textScalarsRow : OpenClaim := { program := "ytpfnakonpledgaadoor", sum := "0ef133748ade52cb56af3c543067fc4d232f63d14a436559783a4b812fbb1443", func := "thicket/thicketlaw01.TextScalars", spec := "textScalars", inPlace := ["internal/bytealg.IndexByteString", "internal/bytealg.IndexString", "internal/abi.NoEscape", "internal/bytealg.CountString", "internal/bytealg.MakeNoZero"], unfollowed := true, recurses := true, named := ["internal/bytealg.MaxLen", "unicode/utf8.first", "unicode/utf8.acceptRanges"], apart := false, laid := [("unicode/utf8.acceptRanges", laid_unicode_utf8_acceptRanges), ("unicode/utf8.first", laid_unicode_utf8_first)] }
def TextScalarsSaid : Prop := textScalarsRow.holds Tryd.pinned (OpenSpec.ofChange textScalarsSpec)

/-- ITS FALSE NEIGHBOUR: 'it returns false'. Refute it at one input. -/
def textScalarsWrong : ChangeSpec := { name := "textScalars", fn := fun _ => fun
  | [d] => { results := [.lit (.bool false)], args := [d] }
  | _ => none }
def TextScalarsWrongFalsely : Prop := textScalarsRow.holds Tryd.pinned (OpenSpec.ofChange textScalarsWrong)

/-- 'thicketlaw01.TextInput': WHATEVER THE INPUT: true; the input reads as it did. -/
def textInputSpec : ChangeSpec := { name := "textInput", fn := fun _ => fun
  | [d] => { results := [.lit (.bool true)], args := [d] }
  | _ => none }
def textInputRow : OpenClaim := { program := "ytpfnakonpledgaadoor", sum := "0ef133748ade52cb56af3c543067fc4d232f63d14a436559783a4b812fbb1443", func := "thicket/thicketlaw01.TextInput", spec := "textInput", inPlace := ["internal/bytealg.IndexByteString", "internal/bytealg.IndexString", "internal/abi.NoEscape", "internal/bytealg.CountString", "internal/bytealg.MakeNoZero"], unfollowed := true, recurses := true, named := ["internal/bytealg.MaxLen", "unicode/utf8.first", "unicode/utf8.acceptRanges"], apart := false, laid := [("unicode/utf8.acceptRanges", laid_unicode_utf8_acceptRanges), ("unicode/utf8.first", laid_unicode_utf8_first)] }
def TextInputSaid : Prop := textInputRow.holds Tryd.pinned (OpenSpec.ofChange textInputSpec)

/-- ITS FALSE NEIGHBOUR: 'it returns false'. Refute it at one input. -/
def textInputWrong : ChangeSpec := { name := "textInput", fn := fun _ => fun
  | [d] => { results := [.lit (.bool false)], args := [d] }
  | _ => none }
def TextInputWrongFalsely : Prop := textInputRow.holds Tryd.pinned (OpenSpec.ofChange textInputWrong)

/-- 'thicketlaw01.TextNamed': WHATEVER THE INPUT: true; the input reads as it did. -/
def textNamedSpec : ChangeSpec := { name := "textNamed", fn := fun _ => fun
  | [d] => { results := [.lit (.bool true)], args := [d] }
  | _ => none }
def textNamedRow : OpenClaim := { program := "ytpfnakonpledgaadoor", sum := "0ef133748ade52cb56af3c543067fc4d232f63d14a436559783a4b812fbb1443", func := "thicket/thicketlaw01.TextNamed", spec := "textNamed", inPlace := ["internal/bytealg.IndexByteString", "internal/bytealg.IndexString", "internal/abi.NoEscape", "internal/bytealg.CountString", "internal/bytealg.MakeNoZero"], unfollowed := true, recurses := true, named := ["internal/bytealg.MaxLen", "unicode/utf8.first", "unicode/utf8.acceptRanges"], apart := false, laid := [("unicode/utf8.acceptRanges", laid_unicode_utf8_acceptRanges), ("unicode/utf8.first", laid_unicode_utf8_first)] }
def TextNamedSaid : Prop := textNamedRow.holds Tryd.pinned (OpenSpec.ofChange textNamedSpec)

/-- ITS FALSE NEIGHBOUR: 'it returns false'. Refute it at one input. -/
def textNamedWrong : ChangeSpec := { name := "textNamed", fn := fun _ => fun
  | [d] => { results := [.lit (.bool false)], args := [d] }
  | _ => none }
def TextNamedWrongFalsely : Prop := textNamedRow.holds Tryd.pinned (OpenSpec.ofChange textNamedWrong)

/-- 'thicketlaw01.TextCodes': WHATEVER THE INPUT: true; the input reads as it did. -/
def textCodesSpec : ChangeSpec := { name := "textCodes", fn := fun _ => fun
  | [d] => { results := [.lit (.bool true)], args := [d] }
  | _ => none }
def textCodesRow : OpenClaim := { program := "ytpfnakonpledgaadoor", sum := "0ef133748ade52cb56af3c543067fc4d232f63d14a436559783a4b812fbb1443", func := "thicket/thicketlaw01.TextCodes", spec := "textCodes", inPlace := ["internal/bytealg.IndexByteString", "internal/bytealg.IndexString", "internal/abi.NoEscape", "internal/bytealg.CountString", "internal/bytealg.MakeNoZero"], unfollowed := true, recurses := true, named := ["internal/bytealg.MaxLen", "unicode/utf8.first", "unicode/utf8.acceptRanges"], apart := false, laid := [("unicode/utf8.acceptRanges", laid_unicode_utf8_acceptRanges), ("unicode/utf8.first", laid_unicode_utf8_first)] }
def TextCodesSaid : Prop := textCodesRow.holds Tryd.pinned (OpenSpec.ofChange textCodesSpec)

/-- ITS FALSE NEIGHBOUR: 'it returns false'. Refute it at one input. -/
def textCodesWrong : ChangeSpec := { name := "textCodes", fn := fun _ => fun
  | [d] => { results := [.lit (.bool false)], args := [d] }
  | _ => none }
def TextCodesWrongFalsely : Prop := textCodesRow.holds Tryd.pinned (OpenSpec.ofChange textCodesWrong)

/-- 'thicketlaw01.TextTable': WHATEVER THE INPUT: true; the input reads as it did. -/
def textTableSpec : ChangeSpec := { name := "textTable", fn := fun _ => fun
  | [d] => { results := [.lit (.bool true)], args := [d] }
  | _ => none }
def textTableRow : OpenClaim := { program := "ytpfnakonpledgaadoor", sum := "0ef133748ade52cb56af3c543067fc4d232f63d14a436559783a4b812fbb1443", func := "thicket/thicketlaw01.TextTable", spec := "textTable", inPlace := ["internal/bytealg.IndexByteString", "internal/bytealg.IndexString", "internal/abi.NoEscape", "internal/bytealg.CountString", "internal/bytealg.MakeNoZero"], unfollowed := true, recurses := true, named := ["internal/bytealg.MaxLen", "unicode/utf8.first", "unicode/utf8.acceptRanges"], apart := false, laid := [("unicode/utf8.acceptRanges", laid_unicode_utf8_acceptRanges), ("unicode/utf8.first", laid_unicode_utf8_first)] }
def TextTableSaid : Prop := textTableRow.holds Tryd.pinned (OpenSpec.ofChange textTableSpec)

/-- ITS FALSE NEIGHBOUR: 'it returns false'. Refute it at one input. -/
def textTableWrong : ChangeSpec := { name := "textTable", fn := fun _ => fun
  | [d] => { results := [.lit (.bool false)], args := [d] }
  | _ => none }
def TextTableWrongFalsely : Prop := textTableRow.holds Tryd.pinned (OpenSpec.ofChange textTableWrong)

/-- 'thicketlaw01.TextBehind': WHATEVER THE INPUT: true; the input reads as it did. -/
def textBehindSpec : ChangeSpec := { name := "textBehind", fn := fun _ => fun
  | [d1, d2] => { results := [.lit (.bool true)], args := [d1, d2] }
  | _ => none }
def textBehindRow : OpenClaim := { program := "ytpfnakonpledgaadoor", sum := "0ef133748ade52cb56af3c543067fc4d232f63d14a436559783a4b812fbb1443", func := "thicket/thicketlaw01.TextBehind", spec := "textBehind", inPlace := ["internal/bytealg.IndexByteString", "internal/bytealg.IndexString", "internal/abi.NoEscape", "internal/bytealg.CountString", "internal/bytealg.MakeNoZero"], unfollowed := true, recurses := true, named := ["internal/bytealg.MaxLen", "unicode/utf8.first", "unicode/utf8.acceptRanges"], apart := false, laid := [("unicode/utf8.acceptRanges", laid_unicode_utf8_acceptRanges), ("unicode/utf8.first", laid_unicode_utf8_first)] }
def TextBehindSaid : Prop := textBehindRow.holds Tryd.pinned (OpenSpec.ofChange textBehindSpec)

/-- ITS FALSE NEIGHBOUR: 'it returns false'. Refute it at one input. -/
def textBehindWrong : ChangeSpec := { name := "textBehind", fn := fun _ => fun
  | [d1, d2] => { results := [.lit (.bool false)], args := [d1, d2] }
  | _ => none }
def TextBehindWrongFalsely : Prop := textBehindRow.holds Tryd.pinned (OpenSpec.ofChange textBehindWrong)

/- THE SECOND FORM. 'bulk': how many values and letters a reading holds, each counted each time it is reached (what is shared counts as often as it is met; a slice's spare places count too). A statement '..UptoSaid' is the law's where the arguments, and the package variables that the reading takes, are together of bulk at most 1048576: NARROWER than '..Said'. Prove '..Said' where nothing that the law and all that it calls make is longer than what came in: it says more and counts as full. Else prove '..UptoSaid'. A law counts once. -/
mutual
def uptoBulk {H : Type} : DataW H → Nat
  | .lit (.string bytes) => bytes.length + 1
  | .lit _ => 1
  | .nil => 1
  | .ptr d => uptoBulk d + 1
  | .slice elems spare => uptoBulkAll elems + uptoBulkAll spare + 1
  | .agg parts => uptoBulkAll parts + 1
  | .iface _ d => uptoBulk d + 1
  | .map entries => uptoBulkEntries entries + 1
  | .held _ => 1
def uptoBulkAll {H : Type} : List (DataW H) → Nat
  | [] => 0
  | d :: r => uptoBulk d + uptoBulkAll r
def uptoBulkEntries {H : Type} : List (Lit × DataW H) → Nat
  | [] => 0
  | x :: r => uptoBulkEntry x + uptoBulkEntries r
def uptoBulkEntry {H : Type} : Lit × DataW H → Nat
  | (.string bytes, d) => bytes.length + uptoBulk d + 1
  | (_, d) => uptoBulk d + 1
 end
def uptoSmall : (H : Type) → List (DataW H) → Bool := fun _ ds => decide (uptoBulkAll ds ≤ 1048576)
def OpenSpec.upto (s : _root_.Go.ChangeSpec) : _root_.Go.OpenSpec := { _root_.Go.OpenSpec.ofChange s with cond := some uptoSmall }

/-- 'thicketlaw01.TextNewlines', WHERE WHAT IT READS IS OF BULK AT MOST 1048576: true; the input reads as it did. -/
def textNewlinesUptoRow : OpenClaim := { program := "ytpfnakonpledgaadoor", sum := "0ef133748ade52cb56af3c543067fc4d232f63d14a436559783a4b812fbb1443", func := "thicket/thicketlaw01.TextNewlines", spec := "textNewlines", inPlace := ["internal/bytealg.IndexByteString", "internal/bytealg.IndexString", "internal/abi.NoEscape", "internal/bytealg.CountString", "internal/bytealg.MakeNoZero"], unfollowed := true, recurses := true, named := ["internal/bytealg.MaxLen", "unicode/utf8.first", "unicode/utf8.acceptRanges"], apart := false, laid := [("unicode/utf8.acceptRanges", laid_unicode_utf8_acceptRanges), ("unicode/utf8.first", laid_unicode_utf8_first)], narrowed := true }
def TextNewlinesUptoSaid : Prop := textNewlinesUptoRow.holds Tryd.pinned (OpenSpec.upto textNewlinesSpec)

/-- 'thicketlaw01.TextSpoilt', WHERE WHAT IT READS IS OF BULK AT MOST 1048576: true; the input reads as it did. -/
def textSpoiltUptoRow : OpenClaim := { program := "ytpfnakonpledgaadoor", sum := "0ef133748ade52cb56af3c543067fc4d232f63d14a436559783a4b812fbb1443", func := "thicket/thicketlaw01.TextSpoilt", spec := "textSpoilt", inPlace := ["internal/bytealg.IndexByteString", "internal/bytealg.IndexString", "internal/abi.NoEscape", "internal/bytealg.CountString", "internal/bytealg.MakeNoZero"], unfollowed := true, recurses := true, named := ["internal/bytealg.MaxLen", "unicode/utf8.first", "unicode/utf8.acceptRanges"], apart := false, laid := [("unicode/utf8.acceptRanges", laid_unicode_utf8_acceptRanges), ("unicode/utf8.first", laid_unicode_utf8_first)], narrowed := true }
def TextSpoiltUptoSaid : Prop := textSpoiltUptoRow.holds Tryd.pinned (OpenSpec.upto textSpoiltSpec)

/-- 'thicketlaw01.TextClasses', WHERE WHAT IT READS IS OF BULK AT MOST 1048576: true; the input reads as it did. -/
def textClassesUptoRow : OpenClaim := { program := "ytpfnakonpledgaadoor", sum := "0ef133748ade52cb56af3c543067fc4d232f63d14a436559783a4b812fbb1443", func := "thicket/thicketlaw01.TextClasses", spec := "textClasses", inPlace := ["internal/bytealg.IndexByteString", "internal/bytealg.IndexString", "internal/abi.NoEscape", "internal/bytealg.CountString", "internal/bytealg.MakeNoZero"], unfollowed := true, recurses := true, named := ["internal/bytealg.MaxLen", "unicode/utf8.first", "unicode/utf8.acceptRanges"], apart := false, laid := [("unicode/utf8.acceptRanges", laid_unicode_utf8_acceptRanges), ("unicode/utf8.first", laid_unicode_utf8_first)], narrowed := true }
def TextClassesUptoSaid : Prop := textClassesUptoRow.holds Tryd.pinned (OpenSpec.upto textClassesSpec)

/-- 'thicketlaw01.TextElements', WHERE WHAT IT READS IS OF BULK AT MOST 1048576: true; the input reads as it did. -/
def textElementsUptoRow : OpenClaim := { program := "ytpfnakonpledgaadoor", sum := "0ef133748ade52cb56af3c543067fc4d232f63d14a436559783a4b812fbb1443", func := "thicket/thicketlaw01.TextElements", spec := "textElements", inPlace := ["internal/bytealg.IndexByteString", "internal/bytealg.IndexString", "internal/abi.NoEscape", "internal/bytealg.CountString", "internal/bytealg.MakeNoZero"], unfollowed := true, recurses := true, named := ["internal/bytealg.MaxLen", "unicode/utf8.first", "unicode/utf8.acceptRanges"], apart := false, laid := [("unicode/utf8.acceptRanges", laid_unicode_utf8_acceptRanges), ("unicode/utf8.first", laid_unicode_utf8_first)], narrowed := true }
def TextElementsUptoSaid : Prop := textElementsUptoRow.holds Tryd.pinned (OpenSpec.upto textElementsSpec)

/-- 'thicketlaw01.TextDigits', WHERE WHAT IT READS IS OF BULK AT MOST 1048576: true; the input reads as it did. -/
def textDigitsUptoRow : OpenClaim := { program := "ytpfnakonpledgaadoor", sum := "0ef133748ade52cb56af3c543067fc4d232f63d14a436559783a4b812fbb1443", func := "thicket/thicketlaw01.TextDigits", spec := "textDigits", inPlace := ["internal/bytealg.IndexByteString", "internal/bytealg.IndexString", "internal/abi.NoEscape", "internal/bytealg.CountString", "internal/bytealg.MakeNoZero"], unfollowed := true, recurses := true, named := ["internal/bytealg.MaxLen", "unicode/utf8.first", "unicode/utf8.acceptRanges"], apart := false, laid := [("unicode/utf8.acceptRanges", laid_unicode_utf8_acceptRanges), ("unicode/utf8.first", laid_unicode_utf8_first)], narrowed := true }
def TextDigitsUptoSaid : Prop := textDigitsUptoRow.holds Tryd.pinned (OpenSpec.upto textDigitsSpec)

/-- 'thicketlaw01.TextEscapes', WHERE WHAT IT READS IS OF BULK AT MOST 1048576: true; the input reads as it did. -/
def textEscapesUptoRow : OpenClaim := { program := "ytpfnakonpledgaadoor", sum := "0ef133748ade52cb56af3c543067fc4d232f63d14a436559783a4b812fbb1443", func := "thicket/thicketlaw01.TextEscapes", spec := "textEscapes", inPlace := ["internal/bytealg.IndexByteString", "internal/bytealg.IndexString", "internal/abi.NoEscape", "internal/bytealg.CountString", "internal/bytealg.MakeNoZero"], unfollowed := true, recurses := true, named := ["internal/bytealg.MaxLen", "unicode/utf8.first", "unicode/utf8.acceptRanges"], apart := false, laid := [("unicode/utf8.acceptRanges", laid_unicode_utf8_acceptRanges), ("unicode/utf8.first", laid_unicode_utf8_first)], narrowed := true }
def TextEscapesUptoSaid : Prop := textEscapesUptoRow.holds Tryd.pinned (OpenSpec.upto textEscapesSpec)

/-- 'thicketlaw01.TextEscaped', WHERE WHAT IT READS IS OF BULK AT MOST 1048576: true; the input reads as it did. -/
def textEscapedUptoRow : OpenClaim := { program := "ytpfnakonpledgaadoor", sum := "0ef133748ade52cb56af3c543067fc4d232f63d14a436559783a4b812fbb1443", func := "thicket/thicketlaw01.TextEscaped", spec := "textEscaped", inPlace := ["internal/bytealg.IndexByteString", "internal/bytealg.IndexString", "internal/abi.NoEscape", "internal/bytealg.CountString", "internal/bytealg.MakeNoZero"], unfollowed := true, recurses := true, named := ["internal/bytealg.MaxLen", "unicode/utf8.first", "unicode/utf8.acceptRanges"], apart := false, laid := [("unicode/utf8.acceptRanges", laid_unicode_utf8_acceptRanges), ("unicode/utf8.first", laid_unicode_utf8_first)], narrowed := true }
def TextEscapedUptoSaid : Prop := textEscapedUptoRow.holds Tryd.pinned (OpenSpec.upto textEscapedSpec)

/-- 'thicketlaw01.TextLowers', WHERE WHAT IT READS IS OF BULK AT MOST 1048576: true; the input reads as it did. -/
def textLowersUptoRow : OpenClaim := { program := "ytpfnakonpledgaadoor", sum := "0ef133748ade52cb56af3c543067fc4d232f63d14a436559783a4b812fbb1443", func := "thicket/thicketlaw01.TextLowers", spec := "textLowers", inPlace := ["internal/bytealg.IndexByteString", "internal/bytealg.IndexString", "internal/abi.NoEscape", "internal/bytealg.CountString", "internal/bytealg.MakeNoZero"], unfollowed := true, recurses := true, named := ["internal/bytealg.MaxLen", "unicode/utf8.first", "unicode/utf8.acceptRanges"], apart := false, laid := [("unicode/utf8.acceptRanges", laid_unicode_utf8_acceptRanges), ("unicode/utf8.first", laid_unicode_utf8_first)], narrowed := true }
def TextLowersUptoSaid : Prop := textLowersUptoRow.holds Tryd.pinned (OpenSpec.upto textLowersSpec)

/-- 'thicketlaw01.TextFolds', WHERE WHAT IT READS IS OF BULK AT MOST 1048576: true; the input reads as it did. -/
def textFoldsUptoRow : OpenClaim := { program := "ytpfnakonpledgaadoor", sum := "0ef133748ade52cb56af3c543067fc4d232f63d14a436559783a4b812fbb1443", func := "thicket/thicketlaw01.TextFolds", spec := "textFolds", inPlace := ["internal/bytealg.IndexByteString", "internal/bytealg.IndexString", "internal/abi.NoEscape", "internal/bytealg.CountString", "internal/bytealg.MakeNoZero"], unfollowed := true, recurses := true, named := ["internal/bytealg.MaxLen", "unicode/utf8.first", "unicode/utf8.acceptRanges"], apart := false, laid := [("unicode/utf8.acceptRanges", laid_unicode_utf8_acceptRanges), ("unicode/utf8.first", laid_unicode_utf8_first)], narrowed := true }
def TextFoldsUptoSaid : Prop := textFoldsUptoRow.holds Tryd.pinned (OpenSpec.upto textFoldsSpec)

/-- 'thicketlaw01.TextDecodes', WHERE WHAT IT READS IS OF BULK AT MOST 1048576: true; the input reads as it did. -/
def textDecodesUptoRow : OpenClaim := { program := "ytpfnakonpledgaadoor", sum := "0ef133748ade52cb56af3c543067fc4d232f63d14a436559783a4b812fbb1443", func := "thicket/thicketlaw01.TextDecodes", spec := "textDecodes", inPlace := ["internal/bytealg.IndexByteString", "internal/bytealg.IndexString", "internal/abi.NoEscape", "internal/bytealg.CountString", "internal/bytealg.MakeNoZero"], unfollowed := true, recurses := true, named := ["internal/bytealg.MaxLen", "unicode/utf8.first", "unicode/utf8.acceptRanges"], apart := false, laid := [("unicode/utf8.acceptRanges", laid_unicode_utf8_acceptRanges), ("unicode/utf8.first", laid_unicode_utf8_first)], narrowed := true }
def TextDecodesUptoSaid : Prop := textDecodesUptoRow.holds Tryd.pinned (OpenSpec.upto textDecodesSpec)

/-- 'thicketlaw01.TextPieces', WHERE WHAT IT READS IS OF BULK AT MOST 1048576: true; the input reads as it did. -/
def textPiecesUptoRow : OpenClaim := { program := "ytpfnakonpledgaadoor", sum := "0ef133748ade52cb56af3c543067fc4d232f63d14a436559783a4b812fbb1443", func := "thicket/thicketlaw01.TextPieces", spec := "textPieces", inPlace := ["internal/bytealg.IndexByteString", "internal/bytealg.IndexString", "internal/abi.NoEscape", "internal/bytealg.CountString", "internal/bytealg.MakeNoZero"], unfollowed := true, recurses := true, named := ["internal/bytealg.MaxLen", "unicode/utf8.first", "unicode/utf8.acceptRanges"], apart := false, laid := [("unicode/utf8.acceptRanges", laid_unicode_utf8_acceptRanges), ("unicode/utf8.first", laid_unicode_utf8_first)], narrowed := true }
def TextPiecesUptoSaid : Prop := textPiecesUptoRow.holds Tryd.pinned (OpenSpec.upto textPiecesSpec)

/-- 'thicketlaw01.TextValid', WHERE WHAT IT READS IS OF BULK AT MOST 1048576: true; the input reads as it did. -/
def textValidUptoRow : OpenClaim := { program := "ytpfnakonpledgaadoor", sum := "0ef133748ade52cb56af3c543067fc4d232f63d14a436559783a4b812fbb1443", func := "thicket/thicketlaw01.TextValid", spec := "textValid", inPlace := ["internal/bytealg.IndexByteString", "internal/bytealg.IndexString", "internal/abi.NoEscape", "internal/bytealg.CountString", "internal/bytealg.MakeNoZero"], unfollowed := true, recurses := true, named := ["internal/bytealg.MaxLen", "unicode/utf8.first", "unicode/utf8.acceptRanges"], apart := false, laid := [("unicode/utf8.acceptRanges", laid_unicode_utf8_acceptRanges), ("unicode/utf8.first", laid_unicode_utf8_first)], narrowed := true }
def TextValidUptoSaid : Prop := textValidUptoRow.holds Tryd.pinned (OpenSpec.upto textValidSpec)

/-- 'thicketlaw01.TextScalars', WHERE WHAT IT READS IS OF BULK AT MOST 1048576: true; the input reads as it did. -/
def textScalarsUptoRow : OpenClaim := { program := "ytpfnakonpledgaadoor", sum := "0ef133748ade52cb56af3c543067fc4d232f63d14a436559783a4b812fbb1443", func := "thicket/thicketlaw01.TextScalars", spec := "textScalars", inPlace := ["internal/bytealg.IndexByteString", "internal/bytealg.IndexString", "internal/abi.NoEscape", "internal/bytealg.CountString", "internal/bytealg.MakeNoZero"], unfollowed := true, recurses := true, named := ["internal/bytealg.MaxLen", "unicode/utf8.first", "unicode/utf8.acceptRanges"], apart := false, laid := [("unicode/utf8.acceptRanges", laid_unicode_utf8_acceptRanges), ("unicode/utf8.first", laid_unicode_utf8_first)], narrowed := true }
def TextScalarsUptoSaid : Prop := textScalarsUptoRow.holds Tryd.pinned (OpenSpec.upto textScalarsSpec)

/-- 'thicketlaw01.TextInput', WHERE WHAT IT READS IS OF BULK AT MOST 1048576: true; the input reads as it did. -/
def textInputUptoRow : OpenClaim := { program := "ytpfnakonpledgaadoor", sum := "0ef133748ade52cb56af3c543067fc4d232f63d14a436559783a4b812fbb1443", func := "thicket/thicketlaw01.TextInput", spec := "textInput", inPlace := ["internal/bytealg.IndexByteString", "internal/bytealg.IndexString", "internal/abi.NoEscape", "internal/bytealg.CountString", "internal/bytealg.MakeNoZero"], unfollowed := true, recurses := true, named := ["internal/bytealg.MaxLen", "unicode/utf8.first", "unicode/utf8.acceptRanges"], apart := false, laid := [("unicode/utf8.acceptRanges", laid_unicode_utf8_acceptRanges), ("unicode/utf8.first", laid_unicode_utf8_first)], narrowed := true }
def TextInputUptoSaid : Prop := textInputUptoRow.holds Tryd.pinned (OpenSpec.upto textInputSpec)

/-- 'thicketlaw01.TextNamed', WHERE WHAT IT READS IS OF BULK AT MOST 1048576: true; the input reads as it did. -/
def textNamedUptoRow : OpenClaim := { program := "ytpfnakonpledgaadoor", sum := "0ef133748ade52cb56af3c543067fc4d232f63d14a436559783a4b812fbb1443", func := "thicket/thicketlaw01.TextNamed", spec := "textNamed", inPlace := ["internal/bytealg.IndexByteString", "internal/bytealg.IndexString", "internal/abi.NoEscape", "internal/bytealg.CountString", "internal/bytealg.MakeNoZero"], unfollowed := true, recurses := true, named := ["internal/bytealg.MaxLen", "unicode/utf8.first", "unicode/utf8.acceptRanges"], apart := false, laid := [("unicode/utf8.acceptRanges", laid_unicode_utf8_acceptRanges), ("unicode/utf8.first", laid_unicode_utf8_first)], narrowed := true }
def TextNamedUptoSaid : Prop := textNamedUptoRow.holds Tryd.pinned (OpenSpec.upto textNamedSpec)

/-- 'thicketlaw01.TextCodes', WHERE WHAT IT READS IS OF BULK AT MOST 1048576: true; the input reads as it did. -/
def textCodesUptoRow : OpenClaim := { program := "ytpfnakonpledgaadoor", sum := "0ef133748ade52cb56af3c543067fc4d232f63d14a436559783a4b812fbb1443", func := "thicket/thicketlaw01.TextCodes", spec := "textCodes", inPlace := ["internal/bytealg.IndexByteString", "internal/bytealg.IndexString", "internal/abi.NoEscape", "internal/bytealg.CountString", "internal/bytealg.MakeNoZero"], unfollowed := true, recurses := true, named := ["internal/bytealg.MaxLen", "unicode/utf8.first", "unicode/utf8.acceptRanges"], apart := false, laid := [("unicode/utf8.acceptRanges", laid_unicode_utf8_acceptRanges), ("unicode/utf8.first", laid_unicode_utf8_first)], narrowed := true }
def TextCodesUptoSaid : Prop := textCodesUptoRow.holds Tryd.pinned (OpenSpec.upto textCodesSpec)

/-- 'thicketlaw01.TextTable', WHERE WHAT IT READS IS OF BULK AT MOST 1048576: true; the input reads as it did. -/
def textTableUptoRow : OpenClaim := { program := "ytpfnakonpledgaadoor", sum := "0ef133748ade52cb56af3c543067fc4d232f63d14a436559783a4b812fbb1443", func := "thicket/thicketlaw01.TextTable", spec := "textTable", inPlace := ["internal/bytealg.IndexByteString", "internal/bytealg.IndexString", "internal/abi.NoEscape", "internal/bytealg.CountString", "internal/bytealg.MakeNoZero"], unfollowed := true, recurses := true, named := ["internal/bytealg.MaxLen", "unicode/utf8.first", "unicode/utf8.acceptRanges"], apart := false, laid := [("unicode/utf8.acceptRanges", laid_unicode_utf8_acceptRanges), ("unicode/utf8.first", laid_unicode_utf8_first)], narrowed := true }
def TextTableUptoSaid : Prop := textTableUptoRow.holds Tryd.pinned (OpenSpec.upto textTableSpec)

/-- 'thicketlaw01.TextBehind', WHERE WHAT IT READS IS OF BULK AT MOST 1048576: true; the input reads as it did. -/
def textBehindUptoRow : OpenClaim := { program := "ytpfnakonpledgaadoor", sum := "0ef133748ade52cb56af3c543067fc4d232f63d14a436559783a4b812fbb1443", func := "thicket/thicketlaw01.TextBehind", spec := "textBehind", inPlace := ["internal/bytealg.IndexByteString", "internal/bytealg.IndexString", "internal/abi.NoEscape", "internal/bytealg.CountString", "internal/bytealg.MakeNoZero"], unfollowed := true, recurses := true, named := ["internal/bytealg.MaxLen", "unicode/utf8.first", "unicode/utf8.acceptRanges"], apart := false, laid := [("unicode/utf8.acceptRanges", laid_unicode_utf8_acceptRanges), ("unicode/utf8.first", laid_unicode_utf8_first)], narrowed := true }
def TextBehindUptoSaid : Prop := textBehindUptoRow.holds Tryd.pinned (OpenSpec.upto textBehindSpec)

end Rows
end Go.Proofs.YtpfnakonpledgaaDoor
