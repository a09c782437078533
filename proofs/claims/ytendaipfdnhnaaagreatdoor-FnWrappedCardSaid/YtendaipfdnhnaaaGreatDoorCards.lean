/-
  DERIVED. GIVEN WITH THE SEED: THE CARDS: each row of YtendaipfdnhnaaaGreatDoorRows.lean that lists a variable, with what it lists TIED to the program's text (the seventh form; the later family's looks); each row that meets fmt, with fmt's text TOLD by the authors' own Lean function (tested against real Go, not proved from fmt's source: count such statements apart). THE CARD IS WHAT COUNTS. Prove the row's statement (the work); the ties are given (YtendaipfdnhnaaaGreatDoorTie.lean); close each card by the builder's one call (the guide's Derived/Test/ToyasCard.lean, 'card_holds'). Laid BY PROGRAM, IN A SANDBOX (cutbox-door.mjs). By AI agents, Wed Nov 11 2026. No macro, syntax, notation, axiom, sorry.
-/
import Derived.Test.YtendaipfdnhnaaaGreatDoorRows
import GoSem.ClaimSeven
namespace Go.Proofs.YtendaipfdnhnaaaGreatDoor
namespace Rows

/-- THE TIED CARD OF 'laws.FnFlat'. -/
def fnFlatCard : Claim7 := { stood := { row := fnFlatRow, standIns := [], harness := (true, "2497210a1e685749151671afd08711d1d2508eec70a6af6fa411d8201e0e83ff"), looks := true }, kinds := [], alts := [], laidByText := true, laidKinds := [.data, .data, .data, .data, .sentinel, .sentinel, .data, .pinned], laidTests := true, laidLooks := .later }
def FnFlatCardSaid : Prop := Claim7.holds Tryz.pinned (.plain (OpenSpec.ofChange fnFlatSpec)) fnFlatCard

/-- THE TIED CARD OF 'laws.FnExactLines'. -/
def fnExactLinesCard : Claim7 := { stood := { row := fnExactLinesRow, standIns := [], harness := (true, "2497210a1e685749151671afd08711d1d2508eec70a6af6fa411d8201e0e83ff"), looks := true }, kinds := [], alts := [], laidByText := true, laidKinds := [.data, .data, .data, .data, .sentinel, .sentinel, .data, .pinned], laidTests := true, laidLooks := .later }
def FnExactLinesCardSaid : Prop := Claim7.holds Tryz.pinned (.plain (OpenSpec.ofChange fnExactLinesSpec)) fnExactLinesCard

/-- THE TIED CARD OF 'laws.FnPlaced'. -/
def fnPlacedCard : Claim7 := { stood := { row := fnPlacedRow, standIns := [], harness := (true, "2497210a1e685749151671afd08711d1d2508eec70a6af6fa411d8201e0e83ff"), looks := true }, kinds := [], alts := [], laidByText := true, laidKinds := [.data, .data, .data, .data, .sentinel, .sentinel, .data, .pinned], laidTests := true, laidLooks := .later }
def FnPlacedCardSaid : Prop := Claim7.holds Tryz.pinned (.plain (OpenSpec.ofChange fnPlacedSpec)) fnPlacedCard

/-- THE TIED CARD OF 'laws.FnForeign'. -/
def fnForeignCard : Claim7 := { stood := { row := fnForeignRow, standIns := [], harness := (true, "2497210a1e685749151671afd08711d1d2508eec70a6af6fa411d8201e0e83ff"), looks := true }, kinds := [], alts := [], laidByText := true, laidKinds := [.data, .data, .data, .data, .sentinel, .sentinel, .data, .pinned], laidTests := true, laidLooks := .later }
def FnForeignCardSaid : Prop := Claim7.holds Tryz.pinned (.plain (OpenSpec.ofChange fnForeignSpec)) fnForeignCard

/-- THE TIED CARD OF 'laws.FnWrapped'. -/
def fnWrappedCard : Claim7 := { stood := { row := fnWrappedRow, standIns := [], harness := (true, "2497210a1e685749151671afd08711d1d2508eec70a6af6fa411d8201e0e83ff"), looks := true }, kinds := [], alts := [], laidByText := true, laidKinds := [.data, .data, .data, .data, .sentinel, .sentinel, .data, .pinned], laidTests := true, laidLooks := .later }
def FnWrappedCardSaid : Prop := Claim7.holds Tryz.pinned (.plain (OpenSpec.ofChange fnWrappedSpec)) fnWrappedCard

/-- THE TIED CARD OF 'laws.FnSpread'. -/
def fnSpreadCard : Claim7 := { stood := { row := fnSpreadRow, standIns := [], harness := (true, "2497210a1e685749151671afd08711d1d2508eec70a6af6fa411d8201e0e83ff"), looks := true }, kinds := [], alts := [], laidByText := true, laidKinds := [.data, .data, .data, .data, .sentinel, .sentinel, .data, .pinned], laidTests := true, laidLooks := .later }
def FnSpreadCardSaid : Prop := Claim7.holds Tryz.pinned (.plain (OpenSpec.ofChange fnSpreadSpec)) fnSpreadCard

/-- THE TIED CARD OF 'laws.FnBuiltTwice'. -/
def fnBuiltTwiceCard : Claim7 := { stood := { row := fnBuiltTwiceRow, standIns := [], harness := (true, "2497210a1e685749151671afd08711d1d2508eec70a6af6fa411d8201e0e83ff"), looks := true }, kinds := [], alts := [], laidByText := true, laidKinds := [.data, .data, .data, .data, .sentinel, .sentinel, .data, .pinned], laidTests := true, laidLooks := .later }
def FnBuiltTwiceCardSaid : Prop := Claim7.holds Tryz.pinned (.plain (OpenSpec.ofChange fnBuiltTwiceSpec)) fnBuiltTwiceCard

/-- THE SECOND FORM's CARD OF 'laws.FnFlat'. -/
def fnFlatUptoCard : Claim7 := { stood := { row := fnFlatUptoRow, standIns := [], harness := (true, "2497210a1e685749151671afd08711d1d2508eec70a6af6fa411d8201e0e83ff"), looks := true }, kinds := [], alts := [], laidByText := true, laidKinds := [.data, .data, .data, .data, .sentinel, .sentinel, .data, .pinned], laidTests := true, laidLooks := .later }
def FnFlatUptoCardSaid : Prop := Claim7.holds Tryz.pinned (.plain (OpenSpec.upto fnFlatSpec)) fnFlatUptoCard

/-- THE SECOND FORM's CARD OF 'laws.FnExactLines'. -/
def fnExactLinesUptoCard : Claim7 := { stood := { row := fnExactLinesUptoRow, standIns := [], harness := (true, "2497210a1e685749151671afd08711d1d2508eec70a6af6fa411d8201e0e83ff"), looks := true }, kinds := [], alts := [], laidByText := true, laidKinds := [.data, .data, .data, .data, .sentinel, .sentinel, .data, .pinned], laidTests := true, laidLooks := .later }
def FnExactLinesUptoCardSaid : Prop := Claim7.holds Tryz.pinned (.plain (OpenSpec.upto fnExactLinesSpec)) fnExactLinesUptoCard

/-- THE SECOND FORM's CARD OF 'laws.FnPlaced'. -/
def fnPlacedUptoCard : Claim7 := { stood := { row := fnPlacedUptoRow, standIns := [], harness := (true, "2497210a1e685749151671afd08711d1d2508eec70a6af6fa411d8201e0e83ff"), looks := true }, kinds := [], alts := [], laidByText := true, laidKinds := [.data, .data, .data, .data, .sentinel, .sentinel, .data, .pinned], laidTests := true, laidLooks := .later }
def FnPlacedUptoCardSaid : Prop := Claim7.holds Tryz.pinned (.plain (OpenSpec.upto fnPlacedSpec)) fnPlacedUptoCard

/-- THE SECOND FORM's CARD OF 'laws.FnForeign'. -/
def fnForeignUptoCard : Claim7 := { stood := { row := fnForeignUptoRow, standIns := [], harness := (true, "2497210a1e685749151671afd08711d1d2508eec70a6af6fa411d8201e0e83ff"), looks := true }, kinds := [], alts := [], laidByText := true, laidKinds := [.data, .data, .data, .data, .sentinel, .sentinel, .data, .pinned], laidTests := true, laidLooks := .later }
def FnForeignUptoCardSaid : Prop := Claim7.holds Tryz.pinned (.plain (OpenSpec.upto fnForeignSpec)) fnForeignUptoCard

/-- THE SECOND FORM's CARD OF 'laws.FnWrapped'. -/
def fnWrappedUptoCard : Claim7 := { stood := { row := fnWrappedUptoRow, standIns := [], harness := (true, "2497210a1e685749151671afd08711d1d2508eec70a6af6fa411d8201e0e83ff"), looks := true }, kinds := [], alts := [], laidByText := true, laidKinds := [.data, .data, .data, .data, .sentinel, .sentinel, .data, .pinned], laidTests := true, laidLooks := .later }
def FnWrappedUptoCardSaid : Prop := Claim7.holds Tryz.pinned (.plain (OpenSpec.upto fnWrappedSpec)) fnWrappedUptoCard

/-- THE SECOND FORM's CARD OF 'laws.FnSpread'. -/
def fnSpreadUptoCard : Claim7 := { stood := { row := fnSpreadUptoRow, standIns := [], harness := (true, "2497210a1e685749151671afd08711d1d2508eec70a6af6fa411d8201e0e83ff"), looks := true }, kinds := [], alts := [], laidByText := true, laidKinds := [.data, .data, .data, .data, .sentinel, .sentinel, .data, .pinned], laidTests := true, laidLooks := .later }
def FnSpreadUptoCardSaid : Prop := Claim7.holds Tryz.pinned (.plain (OpenSpec.upto fnSpreadSpec)) fnSpreadUptoCard

/-- THE SECOND FORM's CARD OF 'laws.FnBuiltTwice'. -/
def fnBuiltTwiceUptoCard : Claim7 := { stood := { row := fnBuiltTwiceUptoRow, standIns := [], harness := (true, "2497210a1e685749151671afd08711d1d2508eec70a6af6fa411d8201e0e83ff"), looks := true }, kinds := [], alts := [], laidByText := true, laidKinds := [.data, .data, .data, .data, .sentinel, .sentinel, .data, .pinned], laidTests := true, laidLooks := .later }
def FnBuiltTwiceUptoCardSaid : Prop := Claim7.holds Tryz.pinned (.plain (OpenSpec.upto fnBuiltTwiceSpec)) fnBuiltTwiceUptoCard
end Rows
end Go.Proofs.YtendaipfdnhnaaaGreatDoor
