/-
  DERIVED. GIVEN WITH THE SEED: THE CARDS: each row of YtoliamijgmifkaaGreatDoorRows.lean that lists a variable, with what it lists TIED to the program's text (the seventh form; the later family's looks); each row that meets fmt, with fmt's text TOLD by the authors' own Lean function (tested against real Go, not proved from fmt's source: count such statements apart). THE CARD IS WHAT COUNTS. Prove the row's statement (the work); the ties are given (YtoliamijgmifkaaGreatDoorTie.lean); close each card by the builder's one call (the guide's Derived/Test/ToyasCard.lean, 'card_holds'). Laid BY PROGRAM, IN A SANDBOX (cutbox-door.mjs). By AI agents, Wed Nov 11 2026. No macro, syntax, notation, axiom, sorry.
-/
import Derived.Test.YtoliamijgmifkaaGreatDoorRows
import GoSem.ClaimSeven
namespace Go.Proofs.YtoliamijgmifkaaGreatDoor
namespace Rows

/-- THE TIED CARD OF 'laws.FnDetailsKnown'. -/
def fnDetailsKnownCard : Claim7 := { stood := { row := fnDetailsKnownRow, standIns := [], harness := (true, "5e39fa906ca232bd2317dfa4276aebd74ef128d7f000cbc21a386d7a4ee3f7e4"), looks := false }, kinds := [], alts := [], laidByText := true, laidKinds := [.data, .data, .data, .data, .listed, .data, .pinned, .pinned, .pinned, .pinned, .pinned, .pinned], laidTests := true, laidLooks := .later }
def FnDetailsKnownCardSaid : Prop := Claim7.holds Tryz.pinned (.plain (OpenSpec.ofChange fnDetailsKnownSpec)) fnDetailsKnownCard

/-- THE TIED CARD OF 'laws.FnDetailsUser'. -/
def fnDetailsUserCard : Claim7 := { stood := { row := fnDetailsUserRow, standIns := [], harness := (true, "5e39fa906ca232bd2317dfa4276aebd74ef128d7f000cbc21a386d7a4ee3f7e4"), looks := false }, kinds := [], alts := [], laidByText := true, laidKinds := [.data, .data, .data, .data, .listed, .data, .pinned, .pinned, .pinned, .pinned, .pinned, .pinned], laidTests := true, laidLooks := .later }
def FnDetailsUserCardSaid : Prop := Claim7.holds Tryz.pinned (.plain (OpenSpec.ofChange fnDetailsUserSpec)) fnDetailsUserCard

/-- THE TIED CARD OF 'laws.FnForms'. -/
def fnFormsCard : Claim7 := { stood := { row := fnFormsRow, standIns := [], harness := (true, "5e39fa906ca232bd2317dfa4276aebd74ef128d7f000cbc21a386d7a4ee3f7e4"), looks := false }, kinds := [], alts := [], laidByText := true, laidKinds := [.data, .data, .data, .data, .listed, .data, .pinned, .pinned, .pinned, .pinned, .pinned, .pinned], laidTests := true, laidLooks := .later }
def FnFormsCardSaid : Prop := Claim7.holds Tryz.pinned (.plain (OpenSpec.ofChange fnFormsSpec)) fnFormsCard

/-- THE TIED CARD OF 'laws.FnUnknownPOS'. -/
def fnUnknownPOSCard : Claim7 := { stood := { row := fnUnknownPOSRow, standIns := [], harness := (true, "5e39fa906ca232bd2317dfa4276aebd74ef128d7f000cbc21a386d7a4ee3f7e4"), looks := false }, kinds := [], alts := [], laidByText := true, laidKinds := [.data, .data, .data, .data, .listed, .data, .pinned, .pinned, .pinned, .pinned, .pinned, .pinned], laidTests := true, laidLooks := .later }
def FnUnknownPOSCardSaid : Prop := Claim7.holds Tryz.pinned (.plain (OpenSpec.ofChange fnUnknownPOSSpec)) fnUnknownPOSCard

/-- THE TIED CARD OF 'laws.FnFeaturesAt'. -/
def fnFeaturesAtCard : Claim7 := { stood := { row := fnFeaturesAtRow, standIns := [], harness := (true, "5e39fa906ca232bd2317dfa4276aebd74ef128d7f000cbc21a386d7a4ee3f7e4"), looks := false }, kinds := [], alts := [], laidByText := true, laidKinds := [.data, .data, .data, .data, .listed, .data, .pinned, .pinned, .pinned, .pinned, .pinned, .pinned], laidTests := true, laidLooks := .later }
def FnFeaturesAtCardSaid : Prop := Claim7.holds Tryz.pinned (.plain (OpenSpec.ofChange fnFeaturesAtSpec)) fnFeaturesAtCard

/-- THE TIED CARD OF 'laws.FnWrong'. -/
def fnWrongCard : Claim7 := { stood := { row := fnWrongRow, standIns := [], harness := (true, "5e39fa906ca232bd2317dfa4276aebd74ef128d7f000cbc21a386d7a4ee3f7e4"), looks := false }, kinds := [], alts := [], laidByText := true, laidKinds := [.data, .data, .data, .data, .listed, .data, .pinned, .pinned, .pinned, .pinned, .pinned, .pinned], laidTests := true, laidLooks := .later }
def FnWrongCardSaid : Prop := Claim7.holds Tryz.pinned (.plain (OpenSpec.ofChange fnWrongSpec)) fnWrongCard

/-- THE SECOND FORM's CARD OF 'laws.FnDetailsKnown'. -/
def fnDetailsKnownUptoCard : Claim7 := { stood := { row := fnDetailsKnownUptoRow, standIns := [], harness := (true, "5e39fa906ca232bd2317dfa4276aebd74ef128d7f000cbc21a386d7a4ee3f7e4"), looks := false }, kinds := [], alts := [], laidByText := true, laidKinds := [.data, .data, .data, .data, .listed, .data, .pinned, .pinned, .pinned, .pinned, .pinned, .pinned], laidTests := true, laidLooks := .later }
def FnDetailsKnownUptoCardSaid : Prop := Claim7.holds Tryz.pinned (.plain (OpenSpec.upto fnDetailsKnownSpec)) fnDetailsKnownUptoCard

/-- THE SECOND FORM's CARD OF 'laws.FnDetailsUser'. -/
def fnDetailsUserUptoCard : Claim7 := { stood := { row := fnDetailsUserUptoRow, standIns := [], harness := (true, "5e39fa906ca232bd2317dfa4276aebd74ef128d7f000cbc21a386d7a4ee3f7e4"), looks := false }, kinds := [], alts := [], laidByText := true, laidKinds := [.data, .data, .data, .data, .listed, .data, .pinned, .pinned, .pinned, .pinned, .pinned, .pinned], laidTests := true, laidLooks := .later }
def FnDetailsUserUptoCardSaid : Prop := Claim7.holds Tryz.pinned (.plain (OpenSpec.upto fnDetailsUserSpec)) fnDetailsUserUptoCard

/-- THE SECOND FORM's CARD OF 'laws.FnForms'. -/
def fnFormsUptoCard : Claim7 := { stood := { row := fnFormsUptoRow, standIns := [], harness := (true, "5e39fa906ca232bd2317dfa4276aebd74ef128d7f000cbc21a386d7a4ee3f7e4"), looks := false }, kinds := [], alts := [], laidByText := true, laidKinds := [.data, .data, .data, .data, .listed, .data, .pinned, .pinned, .pinned, .pinned, .pinned, .pinned], laidTests := true, laidLooks := .later }
def FnFormsUptoCardSaid : Prop := Claim7.holds Tryz.pinned (.plain (OpenSpec.upto fnFormsSpec)) fnFormsUptoCard

/-- THE SECOND FORM's CARD OF 'laws.FnUnknownPOS'. -/
def fnUnknownPOSUptoCard : Claim7 := { stood := { row := fnUnknownPOSUptoRow, standIns := [], harness := (true, "5e39fa906ca232bd2317dfa4276aebd74ef128d7f000cbc21a386d7a4ee3f7e4"), looks := false }, kinds := [], alts := [], laidByText := true, laidKinds := [.data, .data, .data, .data, .listed, .data, .pinned, .pinned, .pinned, .pinned, .pinned, .pinned], laidTests := true, laidLooks := .later }
def FnUnknownPOSUptoCardSaid : Prop := Claim7.holds Tryz.pinned (.plain (OpenSpec.upto fnUnknownPOSSpec)) fnUnknownPOSUptoCard

/-- THE SECOND FORM's CARD OF 'laws.FnFeaturesAt'. -/
def fnFeaturesAtUptoCard : Claim7 := { stood := { row := fnFeaturesAtUptoRow, standIns := [], harness := (true, "5e39fa906ca232bd2317dfa4276aebd74ef128d7f000cbc21a386d7a4ee3f7e4"), looks := false }, kinds := [], alts := [], laidByText := true, laidKinds := [.data, .data, .data, .data, .listed, .data, .pinned, .pinned, .pinned, .pinned, .pinned, .pinned], laidTests := true, laidLooks := .later }
def FnFeaturesAtUptoCardSaid : Prop := Claim7.holds Tryz.pinned (.plain (OpenSpec.upto fnFeaturesAtSpec)) fnFeaturesAtUptoCard

/-- THE SECOND FORM's CARD OF 'laws.FnWrong'. -/
def fnWrongUptoCard : Claim7 := { stood := { row := fnWrongUptoRow, standIns := [], harness := (true, "5e39fa906ca232bd2317dfa4276aebd74ef128d7f000cbc21a386d7a4ee3f7e4"), looks := false }, kinds := [], alts := [], laidByText := true, laidKinds := [.data, .data, .data, .data, .listed, .data, .pinned, .pinned, .pinned, .pinned, .pinned, .pinned], laidTests := true, laidLooks := .later }
def FnWrongUptoCardSaid : Prop := Claim7.holds Tryz.pinned (.plain (OpenSpec.upto fnWrongSpec)) fnWrongUptoCard
end Rows
end Go.Proofs.YtoliamijgmifkaaGreatDoor
