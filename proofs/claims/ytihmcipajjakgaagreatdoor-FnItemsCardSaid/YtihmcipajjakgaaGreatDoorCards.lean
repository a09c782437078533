/-
  DERIVED. GIVEN WITH THE SEED: THE CARDS: each row of YtihmcipajjakgaaGreatDoorRows.lean that lists a variable, with what it lists TIED to the program's text (the seventh form; the later family's looks); each row that meets fmt, with fmt's text TOLD by the authors' own Lean function (tested against real Go, not proved from fmt's source: count such statements apart). THE CARD IS WHAT COUNTS. Prove the row's statement (the work); the ties are given (YtihmcipajjakgaaGreatDoorTie.lean); close each card by the builder's one call (the guide's Derived/Test/ToyasCard.lean, 'card_holds'). Laid BY PROGRAM, IN A SANDBOX (cutbox-door.mjs). By AI agents, Wed Nov 11 2026. No macro, syntax, notation, axiom, sorry.
-/
import Derived.Test.YtihmcipajjakgaaGreatDoorRows
import GoSem.ClaimSeven
namespace Go.Proofs.YtihmcipajjakgaaGreatDoor
namespace Rows

/-- THE TIED CARD OF 'laws.FnRawBlock'. -/
def fnRawBlockCard : Claim7 := { stood := { row := fnRawBlockRow, standIns := [], harness := (true, "4b91f1ee749023fd45c988ff08afc56fd869f341644e989b4d09f5589a277338"), looks := true }, kinds := [], alts := [], laidByText := true, laidKinds := [.data, .data, .data, .data, .sentinel, .sentinel, .data, .pinned], laidTests := true, laidLooks := .later }
def FnRawBlockCardSaid : Prop := Claim7.holds Tryz.pinned (.plain (OpenSpec.ofChange fnRawBlockSpec)) fnRawBlockCard

/-- THE TIED CARD OF 'laws.FnFenceTicks'. -/
def fnFenceTicksCard : Claim7 := { stood := { row := fnFenceTicksRow, standIns := [], harness := (true, "4b91f1ee749023fd45c988ff08afc56fd869f341644e989b4d09f5589a277338"), looks := true }, kinds := [], alts := [], laidByText := true, laidKinds := [.data, .data, .data, .data, .sentinel, .sentinel, .data, .pinned], laidTests := true, laidLooks := .later }
def FnFenceTicksCardSaid : Prop := Claim7.holds Tryz.pinned (.plain (OpenSpec.ofChange fnFenceTicksSpec)) fnFenceTicksCard

/-- THE TIED CARD OF 'laws.FnDeep'. -/
def fnDeepCard : Claim7 := { stood := { row := fnDeepRow, standIns := [], harness := (true, "4b91f1ee749023fd45c988ff08afc56fd869f341644e989b4d09f5589a277338"), looks := true }, kinds := [], alts := [], laidByText := true, laidKinds := [.data, .data, .data, .data, .sentinel, .sentinel, .data, .pinned], laidTests := true, laidLooks := .later }
def FnDeepCardSaid : Prop := Claim7.holds Tryz.pinned (.plain (OpenSpec.ofChange fnDeepSpec)) fnDeepCard

/-- THE TIED CARD OF 'laws.FnItems'. -/
def fnItemsCard : Claim7 := { stood := { row := fnItemsRow, standIns := [], harness := (true, "4b91f1ee749023fd45c988ff08afc56fd869f341644e989b4d09f5589a277338"), looks := true }, kinds := [], alts := [], laidByText := true, laidKinds := [.data, .data, .data, .data, .sentinel, .sentinel, .data, .pinned], laidTests := true, laidLooks := .later }
def FnItemsCardSaid : Prop := Claim7.holds Tryz.pinned (.plain (OpenSpec.ofChange fnItemsSpec)) fnItemsCard

/-- THE SECOND FORM's CARD OF 'laws.FnRawBlock'. -/
def fnRawBlockUptoCard : Claim7 := { stood := { row := fnRawBlockUptoRow, standIns := [], harness := (true, "4b91f1ee749023fd45c988ff08afc56fd869f341644e989b4d09f5589a277338"), looks := true }, kinds := [], alts := [], laidByText := true, laidKinds := [.data, .data, .data, .data, .sentinel, .sentinel, .data, .pinned], laidTests := true, laidLooks := .later }
def FnRawBlockUptoCardSaid : Prop := Claim7.holds Tryz.pinned (.plain (OpenSpec.upto fnRawBlockSpec)) fnRawBlockUptoCard

/-- THE SECOND FORM's CARD OF 'laws.FnFenceTicks'. -/
def fnFenceTicksUptoCard : Claim7 := { stood := { row := fnFenceTicksUptoRow, standIns := [], harness := (true, "4b91f1ee749023fd45c988ff08afc56fd869f341644e989b4d09f5589a277338"), looks := true }, kinds := [], alts := [], laidByText := true, laidKinds := [.data, .data, .data, .data, .sentinel, .sentinel, .data, .pinned], laidTests := true, laidLooks := .later }
def FnFenceTicksUptoCardSaid : Prop := Claim7.holds Tryz.pinned (.plain (OpenSpec.upto fnFenceTicksSpec)) fnFenceTicksUptoCard

/-- THE SECOND FORM's CARD OF 'laws.FnDeep'. -/
def fnDeepUptoCard : Claim7 := { stood := { row := fnDeepUptoRow, standIns := [], harness := (true, "4b91f1ee749023fd45c988ff08afc56fd869f341644e989b4d09f5589a277338"), looks := true }, kinds := [], alts := [], laidByText := true, laidKinds := [.data, .data, .data, .data, .sentinel, .sentinel, .data, .pinned], laidTests := true, laidLooks := .later }
def FnDeepUptoCardSaid : Prop := Claim7.holds Tryz.pinned (.plain (OpenSpec.upto fnDeepSpec)) fnDeepUptoCard

/-- THE SECOND FORM's CARD OF 'laws.FnItems'. -/
def fnItemsUptoCard : Claim7 := { stood := { row := fnItemsUptoRow, standIns := [], harness := (true, "4b91f1ee749023fd45c988ff08afc56fd869f341644e989b4d09f5589a277338"), looks := true }, kinds := [], alts := [], laidByText := true, laidKinds := [.data, .data, .data, .data, .sentinel, .sentinel, .data, .pinned], laidTests := true, laidLooks := .later }
def FnItemsUptoCardSaid : Prop := Claim7.holds Tryz.pinned (.plain (OpenSpec.upto fnItemsSpec)) fnItemsUptoCard
end Rows
end Go.Proofs.YtihmcipajjakgaaGreatDoor
