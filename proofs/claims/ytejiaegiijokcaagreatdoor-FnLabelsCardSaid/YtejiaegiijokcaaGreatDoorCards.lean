/-
  DERIVED. GIVEN WITH THE SEED: THE CARDS: each row of YtejiaegiijokcaaGreatDoorRows.lean that lists a variable, with what it lists TIED to the program's text (the seventh form; the later family's looks); each row that meets fmt, with fmt's text TOLD by the authors' own Lean function (tested against real Go, not proved from fmt's source: count such statements apart). THE CARD IS WHAT COUNTS. Prove the row's statement (the work); the ties are given (YtejiaegiijokcaaGreatDoorTie.lean); close each card by the builder's one call (the guide's Derived/Test/ToyasCard.lean, 'card_holds'). Laid BY PROGRAM, IN A SANDBOX (cutbox-door.mjs). By AI agents, Wed Nov 11 2026. No macro, syntax, notation, axiom, sorry.
-/
import Derived.Test.YtejiaegiijokcaaGreatDoorRows
import GoSem.ClaimSeven
namespace Go.Proofs.YtejiaegiijokcaaGreatDoor
namespace Rows

/-- THE TIED CARD OF 'laws.FnLabels'. -/
def fnLabelsCard : Claim7 := { stood := { row := fnLabelsRow, standIns := [], harness := (true, "589cafbd9976d6c0435b14f25da6e302ce184b09ced5857faba3e79551daadf4"), looks := true }, kinds := [], alts := [], laidByText := true, laidKinds := [.data, .data, .data, .data, .sentinel, .sentinel, .data, .pinned], laidTests := true, laidLooks := .later }
def FnLabelsCardSaid : Prop := Claim7.holds Tryz.pinned (.plain (OpenSpec.ofChange fnLabelsSpec)) fnLabelsCard

/-- THE TIED CARD OF 'laws.FnFirst'. -/
def fnFirstCard : Claim7 := { stood := { row := fnFirstRow, standIns := [], harness := (true, "589cafbd9976d6c0435b14f25da6e302ce184b09ced5857faba3e79551daadf4"), looks := true }, kinds := [], alts := [], laidByText := true, laidKinds := [.data, .data, .data, .data, .sentinel, .sentinel, .data, .pinned], laidTests := true, laidLooks := .later }
def FnFirstCardSaid : Prop := Claim7.holds Tryz.pinned (.plain (OpenSpec.ofChange fnFirstSpec)) fnFirstCard

/-- THE TIED CARD OF 'laws.FnRawBlock'. -/
def fnRawBlockCard : Claim7 := { stood := { row := fnRawBlockRow, standIns := [], harness := (true, "589cafbd9976d6c0435b14f25da6e302ce184b09ced5857faba3e79551daadf4"), looks := true }, kinds := [], alts := [], laidByText := true, laidKinds := [.data, .data, .data, .data, .sentinel, .sentinel, .data, .pinned], laidTests := true, laidLooks := .later }
def FnRawBlockCardSaid : Prop := Claim7.holds Tryz.pinned (.plain (OpenSpec.ofChange fnRawBlockSpec)) fnRawBlockCard

/-- THE TIED CARD OF 'laws.FnFenceTicks'. -/
def fnFenceTicksCard : Claim7 := { stood := { row := fnFenceTicksRow, standIns := [], harness := (true, "589cafbd9976d6c0435b14f25da6e302ce184b09ced5857faba3e79551daadf4"), looks := true }, kinds := [], alts := [], laidByText := true, laidKinds := [.data, .data, .data, .data, .sentinel, .sentinel, .data, .pinned], laidTests := true, laidLooks := .later }
def FnFenceTicksCardSaid : Prop := Claim7.holds Tryz.pinned (.plain (OpenSpec.ofChange fnFenceTicksSpec)) fnFenceTicksCard

/-- THE TIED CARD OF 'laws.FnDeep'. -/
def fnDeepCard : Claim7 := { stood := { row := fnDeepRow, standIns := [], harness := (true, "589cafbd9976d6c0435b14f25da6e302ce184b09ced5857faba3e79551daadf4"), looks := true }, kinds := [], alts := [], laidByText := true, laidKinds := [.data, .data, .data, .data, .sentinel, .sentinel, .data, .pinned], laidTests := true, laidLooks := .later }
def FnDeepCardSaid : Prop := Claim7.holds Tryz.pinned (.plain (OpenSpec.ofChange fnDeepSpec)) fnDeepCard

/-- THE TIED CARD OF 'laws.FnItems'. -/
def fnItemsCard : Claim7 := { stood := { row := fnItemsRow, standIns := [], harness := (true, "589cafbd9976d6c0435b14f25da6e302ce184b09ced5857faba3e79551daadf4"), looks := true }, kinds := [], alts := [], laidByText := true, laidKinds := [.data, .data, .data, .data, .sentinel, .sentinel, .data, .pinned], laidTests := true, laidLooks := .later }
def FnItemsCardSaid : Prop := Claim7.holds Tryz.pinned (.plain (OpenSpec.ofChange fnItemsSpec)) fnItemsCard

/-- THE TIED CARD OF 'laws.FnTaskList'. -/
def fnTaskListCard : Claim7 := { stood := { row := fnTaskListRow, standIns := [], harness := (true, "589cafbd9976d6c0435b14f25da6e302ce184b09ced5857faba3e79551daadf4"), looks := true }, kinds := [], alts := [], laidByText := true, laidKinds := [.data, .data, .data, .data, .sentinel, .sentinel, .data, .pinned], laidTests := true, laidLooks := .later }
def FnTaskListCardSaid : Prop := Claim7.holds Tryz.pinned (.plain (OpenSpec.ofChange fnTaskListSpec)) fnTaskListCard

/-- THE TIED CARD OF 'laws.FnIndentColumns'. -/
def fnIndentColumnsCard : Claim7 := { stood := { row := fnIndentColumnsRow, standIns := [], harness := (true, "589cafbd9976d6c0435b14f25da6e302ce184b09ced5857faba3e79551daadf4"), looks := true }, kinds := [], alts := [], laidByText := true, laidKinds := [.data, .data, .data, .data, .sentinel, .sentinel, .data, .pinned], laidTests := true, laidLooks := .later }
def FnIndentColumnsCardSaid : Prop := Claim7.holds Tryz.pinned (.plain (OpenSpec.ofChange fnIndentColumnsSpec)) fnIndentColumnsCard

/-- THE SECOND FORM's CARD OF 'laws.FnLabels'. -/
def fnLabelsUptoCard : Claim7 := { stood := { row := fnLabelsUptoRow, standIns := [], harness := (true, "589cafbd9976d6c0435b14f25da6e302ce184b09ced5857faba3e79551daadf4"), looks := true }, kinds := [], alts := [], laidByText := true, laidKinds := [.data, .data, .data, .data, .sentinel, .sentinel, .data, .pinned], laidTests := true, laidLooks := .later }
def FnLabelsUptoCardSaid : Prop := Claim7.holds Tryz.pinned (.plain (OpenSpec.upto fnLabelsSpec)) fnLabelsUptoCard

/-- THE SECOND FORM's CARD OF 'laws.FnFirst'. -/
def fnFirstUptoCard : Claim7 := { stood := { row := fnFirstUptoRow, standIns := [], harness := (true, "589cafbd9976d6c0435b14f25da6e302ce184b09ced5857faba3e79551daadf4"), looks := true }, kinds := [], alts := [], laidByText := true, laidKinds := [.data, .data, .data, .data, .sentinel, .sentinel, .data, .pinned], laidTests := true, laidLooks := .later }
def FnFirstUptoCardSaid : Prop := Claim7.holds Tryz.pinned (.plain (OpenSpec.upto fnFirstSpec)) fnFirstUptoCard

/-- THE SECOND FORM's CARD OF 'laws.FnRawBlock'. -/
def fnRawBlockUptoCard : Claim7 := { stood := { row := fnRawBlockUptoRow, standIns := [], harness := (true, "589cafbd9976d6c0435b14f25da6e302ce184b09ced5857faba3e79551daadf4"), looks := true }, kinds := [], alts := [], laidByText := true, laidKinds := [.data, .data, .data, .data, .sentinel, .sentinel, .data, .pinned], laidTests := true, laidLooks := .later }
def FnRawBlockUptoCardSaid : Prop := Claim7.holds Tryz.pinned (.plain (OpenSpec.upto fnRawBlockSpec)) fnRawBlockUptoCard

/-- THE SECOND FORM's CARD OF 'laws.FnFenceTicks'. -/
def fnFenceTicksUptoCard : Claim7 := { stood := { row := fnFenceTicksUptoRow, standIns := [], harness := (true, "589cafbd9976d6c0435b14f25da6e302ce184b09ced5857faba3e79551daadf4"), looks := true }, kinds := [], alts := [], laidByText := true, laidKinds := [.data, .data, .data, .data, .sentinel, .sentinel, .data, .pinned], laidTests := true, laidLooks := .later }
def FnFenceTicksUptoCardSaid : Prop := Claim7.holds Tryz.pinned (.plain (OpenSpec.upto fnFenceTicksSpec)) fnFenceTicksUptoCard

/-- THE SECOND FORM's CARD OF 'laws.FnDeep'. -/
def fnDeepUptoCard : Claim7 := { stood := { row := fnDeepUptoRow, standIns := [], harness := (true, "589cafbd9976d6c0435b14f25da6e302ce184b09ced5857faba3e79551daadf4"), looks := true }, kinds := [], alts := [], laidByText := true, laidKinds := [.data, .data, .data, .data, .sentinel, .sentinel, .data, .pinned], laidTests := true, laidLooks := .later }
def FnDeepUptoCardSaid : Prop := Claim7.holds Tryz.pinned (.plain (OpenSpec.upto fnDeepSpec)) fnDeepUptoCard

/-- THE SECOND FORM's CARD OF 'laws.FnItems'. -/
def fnItemsUptoCard : Claim7 := { stood := { row := fnItemsUptoRow, standIns := [], harness := (true, "589cafbd9976d6c0435b14f25da6e302ce184b09ced5857faba3e79551daadf4"), looks := true }, kinds := [], alts := [], laidByText := true, laidKinds := [.data, .data, .data, .data, .sentinel, .sentinel, .data, .pinned], laidTests := true, laidLooks := .later }
def FnItemsUptoCardSaid : Prop := Claim7.holds Tryz.pinned (.plain (OpenSpec.upto fnItemsSpec)) fnItemsUptoCard

/-- THE SECOND FORM's CARD OF 'laws.FnTaskList'. -/
def fnTaskListUptoCard : Claim7 := { stood := { row := fnTaskListUptoRow, standIns := [], harness := (true, "589cafbd9976d6c0435b14f25da6e302ce184b09ced5857faba3e79551daadf4"), looks := true }, kinds := [], alts := [], laidByText := true, laidKinds := [.data, .data, .data, .data, .sentinel, .sentinel, .data, .pinned], laidTests := true, laidLooks := .later }
def FnTaskListUptoCardSaid : Prop := Claim7.holds Tryz.pinned (.plain (OpenSpec.upto fnTaskListSpec)) fnTaskListUptoCard

/-- THE SECOND FORM's CARD OF 'laws.FnIndentColumns'. -/
def fnIndentColumnsUptoCard : Claim7 := { stood := { row := fnIndentColumnsUptoRow, standIns := [], harness := (true, "589cafbd9976d6c0435b14f25da6e302ce184b09ced5857faba3e79551daadf4"), looks := true }, kinds := [], alts := [], laidByText := true, laidKinds := [.data, .data, .data, .data, .sentinel, .sentinel, .data, .pinned], laidTests := true, laidLooks := .later }
def FnIndentColumnsUptoCardSaid : Prop := Claim7.holds Tryz.pinned (.plain (OpenSpec.upto fnIndentColumnsSpec)) fnIndentColumnsUptoCard
end Rows
end Go.Proofs.YtejiaegiijokcaaGreatDoor
