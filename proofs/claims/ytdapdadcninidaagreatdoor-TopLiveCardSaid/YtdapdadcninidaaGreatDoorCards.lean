/-
  DERIVED. GIVEN WITH THE SEED: THE CARDS: each row of YtdapdadcninidaaGreatDoorRows.lean that lists a variable, with what it lists TIED to the program's text (the seventh form; the later family's looks); each row that meets fmt, with fmt's text TOLD by the authors' own Lean function (tested against real Go, not proved from fmt's source: count such statements apart). THE CARD IS WHAT COUNTS. Prove the row's statement (the work); the ties are given (YtdapdadcninidaaGreatDoorTie.lean); close each card by the builder's one call (the guide's Derived/Test/ToyasCard.lean, 'card_holds'). Laid BY PROGRAM, IN A SANDBOX (cutbox-door.mjs). By AI agents, Wed Nov 11 2026. No macro, syntax, notation, axiom, sorry.
-/
import Derived.Test.YtdapdadcninidaaGreatDoorRows
import GoSem.ClaimSeven
namespace Go.Proofs.YtdapdadcninidaaGreatDoor
namespace Rows

/-- THE TIED CARD OF 'thickettop.TopSplits'. -/
def topSplitsCard : Claim7 := { stood := { row := topSplitsRow, standIns := [], harness := (true, "459276a99041e9cbfaf5ce8271aaf6a49318d24bd0b5aba2d97033ffbf30e025"), looks := true }, kinds := [], alts := [], laidByText := true, laidKinds := [.data, .data, .data], laidTests := true, laidLooks := .later }
def TopSplitsCardSaid : Prop := Claim7.holds Tryz.pinned (.plain (OpenSpec.ofChange topSplitsSpec)) topSplitsCard

/-- THE TIED CARD OF 'thickettop.TopOpened'. -/
def topOpenedCard : Claim7 := { stood := { row := topOpenedRow, standIns := [], harness := (true, "459276a99041e9cbfaf5ce8271aaf6a49318d24bd0b5aba2d97033ffbf30e025"), looks := true }, kinds := [], alts := [], laidByText := true, laidKinds := [.data, .data, .data, .listed, .data], laidTests := true, laidLooks := .later }
def TopOpenedCardSaid : Prop := Claim7.holds Tryz.pinned (.plain (OpenSpec.ofChange topOpenedSpec)) topOpenedCard

/-- THE TIED CARD OF 'thickettop.TopLive'. -/
def topLiveCard : Claim7 := { stood := { row := topLiveRow, standIns := [], harness := (true, "459276a99041e9cbfaf5ce8271aaf6a49318d24bd0b5aba2d97033ffbf30e025"), looks := true }, kinds := [], alts := [], laidByText := true, laidKinds := [.data, .data, .data], laidTests := true, laidLooks := .later }
def TopLiveCardSaid : Prop := Claim7.holds Tryz.pinned (.plain (OpenSpec.ofChange topLiveSpec)) topLiveCard

/-- THE SECOND FORM's CARD OF 'thickettop.TopSplits'. -/
def topSplitsUptoCard : Claim7 := { stood := { row := topSplitsUptoRow, standIns := [], harness := (true, "459276a99041e9cbfaf5ce8271aaf6a49318d24bd0b5aba2d97033ffbf30e025"), looks := true }, kinds := [], alts := [], laidByText := true, laidKinds := [.data, .data, .data], laidTests := true, laidLooks := .later }
def TopSplitsUptoCardSaid : Prop := Claim7.holds Tryz.pinned (.plain (OpenSpec.upto topSplitsSpec)) topSplitsUptoCard

/-- THE SECOND FORM's CARD OF 'thickettop.TopOpened'. -/
def topOpenedUptoCard : Claim7 := { stood := { row := topOpenedUptoRow, standIns := [], harness := (true, "459276a99041e9cbfaf5ce8271aaf6a49318d24bd0b5aba2d97033ffbf30e025"), looks := true }, kinds := [], alts := [], laidByText := true, laidKinds := [.data, .data, .data, .listed, .data], laidTests := true, laidLooks := .later }
def TopOpenedUptoCardSaid : Prop := Claim7.holds Tryz.pinned (.plain (OpenSpec.upto topOpenedSpec)) topOpenedUptoCard

/-- THE SECOND FORM's CARD OF 'thickettop.TopLive'. -/
def topLiveUptoCard : Claim7 := { stood := { row := topLiveUptoRow, standIns := [], harness := (true, "459276a99041e9cbfaf5ce8271aaf6a49318d24bd0b5aba2d97033ffbf30e025"), looks := true }, kinds := [], alts := [], laidByText := true, laidKinds := [.data, .data, .data], laidTests := true, laidLooks := .later }
def TopLiveUptoCardSaid : Prop := Claim7.holds Tryz.pinned (.plain (OpenSpec.upto topLiveSpec)) topLiveUptoCard
end Rows
end Go.Proofs.YtdapdadcninidaaGreatDoor
