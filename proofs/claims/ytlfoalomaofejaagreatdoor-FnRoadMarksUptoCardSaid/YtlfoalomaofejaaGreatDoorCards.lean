/-
  DERIVED. GIVEN WITH THE SEED: THE CARDS: each row of YtlfoalomaofejaaGreatDoorRows.lean that lists a variable, with what it lists TIED to the program's text (the seventh form; the later family's looks); each row that meets fmt, with fmt's text TOLD by the authors' own Lean function (tested against real Go, not proved from fmt's source: count such statements apart). THE CARD IS WHAT COUNTS. Prove the row's statement (the work); the ties are given (YtlfoalomaofejaaGreatDoorTie.lean); close each card by the builder's one call (the guide's Derived/Test/ToyasCard.lean, 'card_holds'). Laid BY PROGRAM, IN A SANDBOX (cutbox-door.mjs). By AI agents, Wed Nov 11 2026. No macro, syntax, notation, axiom, sorry.
-/
import Derived.Test.YtlfoalomaofejaaGreatDoorRows
import GoSem.ClaimSeven
namespace Go.Proofs.YtlfoalomaofejaaGreatDoor
namespace Rows

/-- THE TIED CARD OF 'laws.FnRoadUnknownAgain'. -/
def fnRoadUnknownAgainCard : Claim7 := { stood := { row := fnRoadUnknownAgainRow, standIns := [], harness := (true, "3761c70da8c76d3ea4fc6ce73b535badcd1c635393d598ea5cc78ae460172cbd"), looks := true }, kinds := [], alts := [], laidByText := true, laidKinds := [.data, .sentinel, .sentinel, .sentinel, .listed, .data, .pinned], laidTests := true, laidLooks := .later }
def FnRoadUnknownAgainCardSaid : Prop := Claim7.holds Tryz.pinned (.plain (OpenSpec.ofChange fnRoadUnknownAgainSpec)) fnRoadUnknownAgainCard

/-- THE TIED CARD OF 'laws.FnUnknownAgain'. -/
def fnUnknownAgainCard : Claim7 := { stood := { row := fnUnknownAgainRow, standIns := [], harness := (true, "3761c70da8c76d3ea4fc6ce73b535badcd1c635393d598ea5cc78ae460172cbd"), looks := true }, kinds := [], alts := [], laidByText := true, laidKinds := [.data, .sentinel, .sentinel, .sentinel, .listed, .data, .pinned], laidTests := true, laidLooks := .later }
def FnUnknownAgainCardSaid : Prop := Claim7.holds Tryz.pinned (.plain (OpenSpec.ofChange fnUnknownAgainSpec)) fnUnknownAgainCard

/-- THE TIED CARD OF 'laws.FnRoadContents'. -/
def fnRoadContentsCard : Claim7 := { stood := { row := fnRoadContentsRow, standIns := [], harness := (true, "3761c70da8c76d3ea4fc6ce73b535badcd1c635393d598ea5cc78ae460172cbd"), looks := true }, kinds := [], alts := [], laidByText := true, laidKinds := [.data, .data, .data, .data, .listed, .data, .pinned, .pinned, .pinned, .pinned, .pinned, .pinned], laidTests := true, laidLooks := .later }
def FnRoadContentsCardSaid : Prop := Claim7.holds Tryz.pinned (.plain (OpenSpec.ofChange fnRoadContentsSpec)) fnRoadContentsCard

/-- THE TIED CARD OF 'laws.FnRoadUser'. -/
def fnRoadUserCard : Claim7 := { stood := { row := fnRoadUserRow, standIns := [], harness := (true, "3761c70da8c76d3ea4fc6ce73b535badcd1c635393d598ea5cc78ae460172cbd"), looks := true }, kinds := [], alts := [], laidByText := true, laidKinds := [.data, .data, .data, .data, .listed, .data, .pinned, .pinned, .pinned, .pinned, .pinned, .pinned], laidTests := true, laidLooks := .later }
def FnRoadUserCardSaid : Prop := Claim7.holds Tryz.pinned (.plain (OpenSpec.ofChange fnRoadUserSpec)) fnRoadUserCard

/-- THE TIED CARD OF 'laws.FnRoadMarks'. -/
def fnRoadMarksCard : Claim7 := { stood := { row := fnRoadMarksRow, standIns := [], harness := (true, "3761c70da8c76d3ea4fc6ce73b535badcd1c635393d598ea5cc78ae460172cbd"), looks := true }, kinds := [], alts := [], laidByText := true, laidKinds := [.data, .data, .data, .data, .sentinel, .sentinel, .sentinel, .listed, .data, .pinned, .pinned, .pinned, .pinned, .pinned, .pinned], laidTests := true, laidLooks := .later }
def FnRoadMarksCardSaid : Prop := Claim7.holds Tryz.pinned (.plain (OpenSpec.ofChange fnRoadMarksSpec)) fnRoadMarksCard

/-- THE SECOND FORM's CARD OF 'laws.FnRoadUnknownAgain'. -/
def fnRoadUnknownAgainUptoCard : Claim7 := { stood := { row := fnRoadUnknownAgainUptoRow, standIns := [], harness := (true, "3761c70da8c76d3ea4fc6ce73b535badcd1c635393d598ea5cc78ae460172cbd"), looks := true }, kinds := [], alts := [], laidByText := true, laidKinds := [.data, .sentinel, .sentinel, .sentinel, .listed, .data, .pinned], laidTests := true, laidLooks := .later }
def FnRoadUnknownAgainUptoCardSaid : Prop := Claim7.holds Tryz.pinned (.plain (OpenSpec.upto fnRoadUnknownAgainSpec)) fnRoadUnknownAgainUptoCard

/-- THE SECOND FORM's CARD OF 'laws.FnUnknownAgain'. -/
def fnUnknownAgainUptoCard : Claim7 := { stood := { row := fnUnknownAgainUptoRow, standIns := [], harness := (true, "3761c70da8c76d3ea4fc6ce73b535badcd1c635393d598ea5cc78ae460172cbd"), looks := true }, kinds := [], alts := [], laidByText := true, laidKinds := [.data, .sentinel, .sentinel, .sentinel, .listed, .data, .pinned], laidTests := true, laidLooks := .later }
def FnUnknownAgainUptoCardSaid : Prop := Claim7.holds Tryz.pinned (.plain (OpenSpec.upto fnUnknownAgainSpec)) fnUnknownAgainUptoCard

/-- THE SECOND FORM's CARD OF 'laws.FnRoadContents'. -/
def fnRoadContentsUptoCard : Claim7 := { stood := { row := fnRoadContentsUptoRow, standIns := [], harness := (true, "3761c70da8c76d3ea4fc6ce73b535badcd1c635393d598ea5cc78ae460172cbd"), looks := true }, kinds := [], alts := [], laidByText := true, laidKinds := [.data, .data, .data, .data, .listed, .data, .pinned, .pinned, .pinned, .pinned, .pinned, .pinned], laidTests := true, laidLooks := .later }
def FnRoadContentsUptoCardSaid : Prop := Claim7.holds Tryz.pinned (.plain (OpenSpec.upto fnRoadContentsSpec)) fnRoadContentsUptoCard

/-- THE SECOND FORM's CARD OF 'laws.FnRoadUser'. -/
def fnRoadUserUptoCard : Claim7 := { stood := { row := fnRoadUserUptoRow, standIns := [], harness := (true, "3761c70da8c76d3ea4fc6ce73b535badcd1c635393d598ea5cc78ae460172cbd"), looks := true }, kinds := [], alts := [], laidByText := true, laidKinds := [.data, .data, .data, .data, .listed, .data, .pinned, .pinned, .pinned, .pinned, .pinned, .pinned], laidTests := true, laidLooks := .later }
def FnRoadUserUptoCardSaid : Prop := Claim7.holds Tryz.pinned (.plain (OpenSpec.upto fnRoadUserSpec)) fnRoadUserUptoCard

/-- THE SECOND FORM's CARD OF 'laws.FnRoadMarks'. -/
def fnRoadMarksUptoCard : Claim7 := { stood := { row := fnRoadMarksUptoRow, standIns := [], harness := (true, "3761c70da8c76d3ea4fc6ce73b535badcd1c635393d598ea5cc78ae460172cbd"), looks := true }, kinds := [], alts := [], laidByText := true, laidKinds := [.data, .data, .data, .data, .sentinel, .sentinel, .sentinel, .listed, .data, .pinned, .pinned, .pinned, .pinned, .pinned, .pinned], laidTests := true, laidLooks := .later }
def FnRoadMarksUptoCardSaid : Prop := Claim7.holds Tryz.pinned (.plain (OpenSpec.upto fnRoadMarksSpec)) fnRoadMarksUptoCard
end Rows
end Go.Proofs.YtlfoalomaofejaaGreatDoor
