/-
  DERIVED. GIVEN WITH THE SEED: THE CARDS: each row of YtgjodmjegmilhaaDoorRows.lean that lists a variable, with what it lists TIED to the program's text (the seventh form; the later family's looks); each row that meets fmt, with fmt's text TOLD by the authors' own Lean function (tested against real Go, not proved from fmt's source: count such statements apart). THE CARD IS WHAT COUNTS. Prove the row's statement (the work); the ties are given (YtgjodmjegmilhaaDoorTie.lean); close each card by the builder's one call (the guide's Derived/Test/ToyasCard.lean, 'card_holds'). Laid BY PROGRAM, IN A SANDBOX (cutbox-door.mjs). By AI agents, Wed Nov 11 2026. No macro, syntax, notation, axiom, sorry.
-/
import Derived.Test.YtgjodmjegmilhaaDoorRows
import GoSem.ClaimSeven
namespace Go.Proofs.YtgjodmjegmilhaaDoor
namespace Rows

/-- THE TIED CARD OF 'thicketlaw01.TextTable'. -/
def textTableCard : Claim7 := { stood := { row := textTableRow, standIns := [], harness := (true, "077b76788abc2383e13fdcb0db10a83fd20f4fe125642c705c505874ae13e777"), looks := false }, kinds := [], alts := [], laidByText := true, laidKinds := [.data, .pinned], laidTests := true, laidLooks := .later }
def TextTableCardSaid : Prop := Claim7.holds Tryd.pinned (.plain (OpenSpec.ofChange textTableSpec)) textTableCard

/-- THE TIED CARD OF 'thicketlaw01.TextBehind'. -/
def textBehindCard : Claim7 := { stood := { row := textBehindRow, standIns := [], harness := (true, "077b76788abc2383e13fdcb0db10a83fd20f4fe125642c705c505874ae13e777"), looks := false }, kinds := [], alts := [], laidByText := true, laidKinds := [.data, .pinned], laidTests := true, laidLooks := .later }
def TextBehindCardSaid : Prop := Claim7.holds Tryd.pinned (.plain (OpenSpec.ofChange textBehindSpec)) textBehindCard

/-- THE SECOND FORM's CARD OF 'thicketlaw01.TextTable'. -/
def textTableUptoCard : Claim7 := { stood := { row := textTableUptoRow, standIns := [], harness := (true, "077b76788abc2383e13fdcb0db10a83fd20f4fe125642c705c505874ae13e777"), looks := false }, kinds := [], alts := [], laidByText := true, laidKinds := [.data, .pinned], laidTests := true, laidLooks := .later }
def TextTableUptoCardSaid : Prop := Claim7.holds Tryd.pinned (.plain (OpenSpec.upto textTableSpec)) textTableUptoCard

/-- THE SECOND FORM's CARD OF 'thicketlaw01.TextBehind'. -/
def textBehindUptoCard : Claim7 := { stood := { row := textBehindUptoRow, standIns := [], harness := (true, "077b76788abc2383e13fdcb0db10a83fd20f4fe125642c705c505874ae13e777"), looks := false }, kinds := [], alts := [], laidByText := true, laidKinds := [.data, .pinned], laidTests := true, laidLooks := .later }
def TextBehindUptoCardSaid : Prop := Claim7.holds Tryd.pinned (.plain (OpenSpec.upto textBehindSpec)) textBehindUptoCard
end Rows
end Go.Proofs.YtgjodmjegmilhaaDoor
