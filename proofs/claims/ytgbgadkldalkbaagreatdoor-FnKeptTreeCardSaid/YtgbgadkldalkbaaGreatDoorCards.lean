/-
  DERIVED. GIVEN WITH THE SEED: THE CARDS: each row of YtgbgadkldalkbaaGreatDoorRows.lean that lists a variable, with what it lists TIED to the program's text (the seventh form; the later family's looks); each row that meets fmt, with fmt's text TOLD by the authors' own Lean function (tested against real Go, not proved from fmt's source: count such statements apart). THE CARD IS WHAT COUNTS. Prove the row's statement (the work); the ties are given (YtgbgadkldalkbaaGreatDoorTie.lean); close each card by the builder's one call (the guide's Derived/Test/ToyasCard.lean, 'card_holds'). Laid BY PROGRAM, IN A SANDBOX (cutbox-door.mjs). By AI agents, Wed Nov 11 2026. No macro, syntax, notation, axiom, sorry.
-/
import Derived.Test.YtgbgadkldalkbaaGreatDoorRows
import GoSem.ClaimSeven
namespace Go.Proofs.YtgbgadkldalkbaaGreatDoor
namespace Rows

/-- THE TIED CARD OF 'laws.FnTaskList'. -/
def fnTaskListCard : Claim7 := { stood := { row := fnTaskListRow, standIns := [], harness := (true, "f5ab134a7a32835e893a3712aa8a21049d6fa39dc2ba8da59add3fb8d26df578"), looks := true }, kinds := [], alts := [], laidByText := true, laidKinds := [.data, .data, .data, .data, .sentinel, .sentinel, .data, .pinned], laidTests := true, laidLooks := .later }
def FnTaskListCardSaid : Prop := Claim7.holds Tryz.pinned (.plain (OpenSpec.ofChange fnTaskListSpec)) fnTaskListCard

/-- THE TIED CARD OF 'laws.FnIndentColumns'. -/
def fnIndentColumnsCard : Claim7 := { stood := { row := fnIndentColumnsRow, standIns := [], harness := (true, "f5ab134a7a32835e893a3712aa8a21049d6fa39dc2ba8da59add3fb8d26df578"), looks := true }, kinds := [], alts := [], laidByText := true, laidKinds := [.data, .data, .data, .data, .sentinel, .sentinel, .data, .pinned], laidTests := true, laidLooks := .later }
def FnIndentColumnsCardSaid : Prop := Claim7.holds Tryz.pinned (.plain (OpenSpec.ofChange fnIndentColumnsSpec)) fnIndentColumnsCard

/-- THE TIED CARD OF 'laws.FnKeptTree'. -/
def fnKeptTreeCard : Claim7 := { stood := { row := fnKeptTreeRow, standIns := [], harness := (true, "f5ab134a7a32835e893a3712aa8a21049d6fa39dc2ba8da59add3fb8d26df578"), looks := true }, kinds := [], alts := [], laidByText := true, laidKinds := [.data, .data, .data, .data, .sentinel, .sentinel, .data, .pinned], laidTests := true, laidLooks := .later }
def FnKeptTreeCardSaid : Prop := Claim7.holds Tryz.pinned (.plain (OpenSpec.ofChange fnKeptTreeSpec)) fnKeptTreeCard

/-- THE TIED CARD OF 'laws.FnLazyAnywhere'. -/
def fnLazyAnywhereCard : Claim7 := { stood := { row := fnLazyAnywhereRow, standIns := [], harness := (true, "f5ab134a7a32835e893a3712aa8a21049d6fa39dc2ba8da59add3fb8d26df578"), looks := true }, kinds := [], alts := [], laidByText := true, laidKinds := [.data, .data, .data, .data, .sentinel, .sentinel, .data, .pinned], laidTests := true, laidLooks := .later }
def FnLazyAnywhereCardSaid : Prop := Claim7.holds Tryz.pinned (.plain (OpenSpec.ofChange fnLazyAnywhereSpec)) fnLazyAnywhereCard

/-- THE SECOND FORM's CARD OF 'laws.FnTaskList'. -/
def fnTaskListUptoCard : Claim7 := { stood := { row := fnTaskListUptoRow, standIns := [], harness := (true, "f5ab134a7a32835e893a3712aa8a21049d6fa39dc2ba8da59add3fb8d26df578"), looks := true }, kinds := [], alts := [], laidByText := true, laidKinds := [.data, .data, .data, .data, .sentinel, .sentinel, .data, .pinned], laidTests := true, laidLooks := .later }
def FnTaskListUptoCardSaid : Prop := Claim7.holds Tryz.pinned (.plain (OpenSpec.upto fnTaskListSpec)) fnTaskListUptoCard

/-- THE SECOND FORM's CARD OF 'laws.FnIndentColumns'. -/
def fnIndentColumnsUptoCard : Claim7 := { stood := { row := fnIndentColumnsUptoRow, standIns := [], harness := (true, "f5ab134a7a32835e893a3712aa8a21049d6fa39dc2ba8da59add3fb8d26df578"), looks := true }, kinds := [], alts := [], laidByText := true, laidKinds := [.data, .data, .data, .data, .sentinel, .sentinel, .data, .pinned], laidTests := true, laidLooks := .later }
def FnIndentColumnsUptoCardSaid : Prop := Claim7.holds Tryz.pinned (.plain (OpenSpec.upto fnIndentColumnsSpec)) fnIndentColumnsUptoCard

/-- THE SECOND FORM's CARD OF 'laws.FnKeptTree'. -/
def fnKeptTreeUptoCard : Claim7 := { stood := { row := fnKeptTreeUptoRow, standIns := [], harness := (true, "f5ab134a7a32835e893a3712aa8a21049d6fa39dc2ba8da59add3fb8d26df578"), looks := true }, kinds := [], alts := [], laidByText := true, laidKinds := [.data, .data, .data, .data, .sentinel, .sentinel, .data, .pinned], laidTests := true, laidLooks := .later }
def FnKeptTreeUptoCardSaid : Prop := Claim7.holds Tryz.pinned (.plain (OpenSpec.upto fnKeptTreeSpec)) fnKeptTreeUptoCard

/-- THE SECOND FORM's CARD OF 'laws.FnLazyAnywhere'. -/
def fnLazyAnywhereUptoCard : Claim7 := { stood := { row := fnLazyAnywhereUptoRow, standIns := [], harness := (true, "f5ab134a7a32835e893a3712aa8a21049d6fa39dc2ba8da59add3fb8d26df578"), looks := true }, kinds := [], alts := [], laidByText := true, laidKinds := [.data, .data, .data, .data, .sentinel, .sentinel, .data, .pinned], laidTests := true, laidLooks := .later }
def FnLazyAnywhereUptoCardSaid : Prop := Claim7.holds Tryz.pinned (.plain (OpenSpec.upto fnLazyAnywhereSpec)) fnLazyAnywhereUptoCard
end Rows
end Go.Proofs.YtgbgadkldalkbaaGreatDoor
