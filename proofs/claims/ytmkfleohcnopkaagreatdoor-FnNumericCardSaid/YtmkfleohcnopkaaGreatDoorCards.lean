/-
  DERIVED. GIVEN WITH THE SEED: THE CARDS: each row of YtmkfleohcnopkaaGreatDoorRows.lean that lists a variable, with what it lists TIED to the program's text (the seventh form; the later family's looks); each row that meets fmt, with fmt's text TOLD by the authors' own Lean function (tested against real Go, not proved from fmt's source: count such statements apart). THE CARD IS WHAT COUNTS. Prove the row's statement (the work); the ties are given (YtmkfleohcnopkaaGreatDoorTie.lean); close each card by the builder's one call (the guide's Derived/Test/ToyasCard.lean, 'card_holds'). Laid BY PROGRAM, IN A SANDBOX (cutbox-door.mjs). By AI agents, Wed Nov 11 2026. No macro, syntax, notation, axiom, sorry.
-/
import Derived.Test.YtmkfleohcnopkaaGreatDoorRows
import GoSem.ClaimSeven
namespace Go.Proofs.YtmkfleohcnopkaaGreatDoor
namespace Rows

/-- THE TIED CARD OF 'laws.FnDots'. -/
def fnDotsCard : Claim7 := { stood := { row := fnDotsRow, standIns := [], harness := (true, "97084342bed680ce42f5560d140dceedc24a63680797967bbc14281af21b29aa"), looks := true }, kinds := [], alts := [], laidByText := true, laidKinds := [.data, .data, .data, .data, .sentinel, .sentinel, .data, .pinned], laidTests := true, laidLooks := .later }
def FnDotsCardSaid : Prop := Claim7.holds Tryz.pinned (.plain (OpenSpec.ofChange fnDotsSpec)) fnDotsCard

/-- THE TIED CARD OF 'laws.FnHeadID'. -/
def fnHeadIDCard : Claim7 := { stood := { row := fnHeadIDRow, standIns := [], harness := (true, "97084342bed680ce42f5560d140dceedc24a63680797967bbc14281af21b29aa"), looks := true }, kinds := [], alts := [], laidByText := true, laidKinds := [.data, .data, .data, .data, .sentinel, .sentinel, .data, .pinned], laidTests := true, laidLooks := .later }
def FnHeadIDCardSaid : Prop := Claim7.holds Tryz.pinned (.plain (OpenSpec.ofChange fnHeadIDSpec)) fnHeadIDCard

/-- THE TIED CARD OF 'laws.FnNested'. -/
def fnNestedCard : Claim7 := { stood := { row := fnNestedRow, standIns := [], harness := (true, "97084342bed680ce42f5560d140dceedc24a63680797967bbc14281af21b29aa"), looks := true }, kinds := [], alts := [], laidByText := true, laidKinds := [.data, .data, .data, .data, .sentinel, .sentinel, .data, .pinned], laidTests := true, laidLooks := .later }
def FnNestedCardSaid : Prop := Claim7.holds Tryz.pinned (.plain (OpenSpec.ofChange fnNestedSpec)) fnNestedCard

/-- THE TIED CARD OF 'laws.FnNumeric'. -/
def fnNumericCard : Claim7 := { stood := { row := fnNumericRow, standIns := [], harness := (true, "97084342bed680ce42f5560d140dceedc24a63680797967bbc14281af21b29aa"), looks := true }, kinds := [], alts := [], laidByText := true, laidKinds := [.data, .data, .data, .data, .sentinel, .sentinel, .data, .pinned], laidTests := true, laidLooks := .later }
def FnNumericCardSaid : Prop := Claim7.holds Tryz.pinned (.plain (OpenSpec.ofChange fnNumericSpec)) fnNumericCard

/-- THE SECOND FORM's CARD OF 'laws.FnDots'. -/
def fnDotsUptoCard : Claim7 := { stood := { row := fnDotsUptoRow, standIns := [], harness := (true, "97084342bed680ce42f5560d140dceedc24a63680797967bbc14281af21b29aa"), looks := true }, kinds := [], alts := [], laidByText := true, laidKinds := [.data, .data, .data, .data, .sentinel, .sentinel, .data, .pinned], laidTests := true, laidLooks := .later }
def FnDotsUptoCardSaid : Prop := Claim7.holds Tryz.pinned (.plain (OpenSpec.upto fnDotsSpec)) fnDotsUptoCard

/-- THE SECOND FORM's CARD OF 'laws.FnHeadID'. -/
def fnHeadIDUptoCard : Claim7 := { stood := { row := fnHeadIDUptoRow, standIns := [], harness := (true, "97084342bed680ce42f5560d140dceedc24a63680797967bbc14281af21b29aa"), looks := true }, kinds := [], alts := [], laidByText := true, laidKinds := [.data, .data, .data, .data, .sentinel, .sentinel, .data, .pinned], laidTests := true, laidLooks := .later }
def FnHeadIDUptoCardSaid : Prop := Claim7.holds Tryz.pinned (.plain (OpenSpec.upto fnHeadIDSpec)) fnHeadIDUptoCard

/-- THE SECOND FORM's CARD OF 'laws.FnNested'. -/
def fnNestedUptoCard : Claim7 := { stood := { row := fnNestedUptoRow, standIns := [], harness := (true, "97084342bed680ce42f5560d140dceedc24a63680797967bbc14281af21b29aa"), looks := true }, kinds := [], alts := [], laidByText := true, laidKinds := [.data, .data, .data, .data, .sentinel, .sentinel, .data, .pinned], laidTests := true, laidLooks := .later }
def FnNestedUptoCardSaid : Prop := Claim7.holds Tryz.pinned (.plain (OpenSpec.upto fnNestedSpec)) fnNestedUptoCard

/-- THE SECOND FORM's CARD OF 'laws.FnNumeric'. -/
def fnNumericUptoCard : Claim7 := { stood := { row := fnNumericUptoRow, standIns := [], harness := (true, "97084342bed680ce42f5560d140dceedc24a63680797967bbc14281af21b29aa"), looks := true }, kinds := [], alts := [], laidByText := true, laidKinds := [.data, .data, .data, .data, .sentinel, .sentinel, .data, .pinned], laidTests := true, laidLooks := .later }
def FnNumericUptoCardSaid : Prop := Claim7.holds Tryz.pinned (.plain (OpenSpec.upto fnNumericSpec)) fnNumericUptoCard
end Rows
end Go.Proofs.YtmkfleohcnopkaaGreatDoor
