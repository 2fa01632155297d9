/-
  DERIVED. GIVEN WITH THE SEED: THE CARDS: each row of YtammjbmfiakbnaaGreatDoorRows.lean that lists a variable, with what it lists TIED to the program's text (the seventh form; the later family's looks); each row that meets fmt, with fmt's text TOLD by the authors' own Lean function (tested against real Go, not proved from fmt's source: count such statements apart). THE CARD IS WHAT COUNTS. Prove the row's statement (the work); the ties are given (YtammjbmfiakbnaaGreatDoorTie.lean); close each card by the builder's one call (the guide's Derived/Test/ToyasCard.lean, 'card_holds'). Laid BY PROGRAM, IN A SANDBOX (cutbox-door.mjs). By AI agents, Wed Nov 11 2026. No macro, syntax, notation, axiom, sorry.
-/
import Derived.Test.YtammjbmfiakbnaaGreatDoorRows
import GoSem.ClaimSeven
namespace Go.Proofs.YtammjbmfiakbnaaGreatDoor
namespace Rows

/-- THE TIED CARD OF 'laws.FnMarshal'. -/
def fnMarshalCard : Claim7 := { stood := { row := fnMarshalRow, standIns := [], harness := (true, "35c6bae85c69663d47c6d9ec433ea2f02a55463b6f8cea1dd4e6060586ae50d3"), looks := true }, kinds := [], alts := [], laidByText := true, laidKinds := [.data, .data, .data, .data, .sentinel, .sentinel, .sentinel, .mapped, .sentinel, .sentinel, .sentinel, .sentinel, .sentinel], laidTests := true, laidLooks := .later }
def FnMarshalCardSaid : Prop := Claim7.holds Tryz.pinned (.plain (OpenSpec.ofChange fnMarshalSpec)) fnMarshalCard

/-- THE TIED CARD OF 'laws.FnNull'. -/
def fnNullCard : Claim7 := { stood := { row := fnNullRow, standIns := [], harness := (true, "35c6bae85c69663d47c6d9ec433ea2f02a55463b6f8cea1dd4e6060586ae50d3"), looks := true }, kinds := [], alts := [], laidByText := true, laidKinds := [.data, .data, .data, .data, .sentinel, .sentinel, .sentinel, .mapped, .sentinel, .sentinel, .sentinel, .sentinel, .sentinel], laidTests := true, laidLooks := .later }
def FnNullCardSaid : Prop := Claim7.holds Tryz.pinned (.plain (OpenSpec.ofChange fnNullSpec)) fnNullCard

/-- THE TIED CARD OF 'laws.FnHeader'. -/
def fnHeaderCard : Claim7 := { stood := { row := fnHeaderRow, standIns := [], harness := (true, "35c6bae85c69663d47c6d9ec433ea2f02a55463b6f8cea1dd4e6060586ae50d3"), looks := true }, kinds := [], alts := [], laidByText := true, laidKinds := [.data, .data, .data, .data, .sentinel, .sentinel, .sentinel, .mapped, .sentinel, .sentinel, .sentinel, .sentinel, .sentinel], laidTests := true, laidLooks := .later }
def FnHeaderCardSaid : Prop := Claim7.holds Tryz.pinned (.plain (OpenSpec.ofChange fnHeaderSpec)) fnHeaderCard

/-- THE SECOND FORM's CARD OF 'laws.FnMarshal'. -/
def fnMarshalUptoCard : Claim7 := { stood := { row := fnMarshalUptoRow, standIns := [], harness := (true, "35c6bae85c69663d47c6d9ec433ea2f02a55463b6f8cea1dd4e6060586ae50d3"), looks := true }, kinds := [], alts := [], laidByText := true, laidKinds := [.data, .data, .data, .data, .sentinel, .sentinel, .sentinel, .mapped, .sentinel, .sentinel, .sentinel, .sentinel, .sentinel], laidTests := true, laidLooks := .later }
def FnMarshalUptoCardSaid : Prop := Claim7.holds Tryz.pinned (.plain (OpenSpec.upto fnMarshalSpec)) fnMarshalUptoCard

/-- THE SECOND FORM's CARD OF 'laws.FnNull'. -/
def fnNullUptoCard : Claim7 := { stood := { row := fnNullUptoRow, standIns := [], harness := (true, "35c6bae85c69663d47c6d9ec433ea2f02a55463b6f8cea1dd4e6060586ae50d3"), looks := true }, kinds := [], alts := [], laidByText := true, laidKinds := [.data, .data, .data, .data, .sentinel, .sentinel, .sentinel, .mapped, .sentinel, .sentinel, .sentinel, .sentinel, .sentinel], laidTests := true, laidLooks := .later }
def FnNullUptoCardSaid : Prop := Claim7.holds Tryz.pinned (.plain (OpenSpec.upto fnNullSpec)) fnNullUptoCard

/-- THE SECOND FORM's CARD OF 'laws.FnHeader'. -/
def fnHeaderUptoCard : Claim7 := { stood := { row := fnHeaderUptoRow, standIns := [], harness := (true, "35c6bae85c69663d47c6d9ec433ea2f02a55463b6f8cea1dd4e6060586ae50d3"), looks := true }, kinds := [], alts := [], laidByText := true, laidKinds := [.data, .data, .data, .data, .sentinel, .sentinel, .sentinel, .mapped, .sentinel, .sentinel, .sentinel, .sentinel, .sentinel], laidTests := true, laidLooks := .later }
def FnHeaderUptoCardSaid : Prop := Claim7.holds Tryz.pinned (.plain (OpenSpec.upto fnHeaderSpec)) fnHeaderUptoCard
end Rows
end Go.Proofs.YtammjbmfiakbnaaGreatDoor
