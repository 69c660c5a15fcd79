/-
  DERIVED. GIVEN WITH THE SEED: THE CARDS: each row of YtlljphipglgjiaaGreatDoorRows.lean that lists a variable, with what it lists TIED to the program's text (the seventh form; the later family's looks); each row that meets fmt, with fmt's text TOLD by the authors' own Lean function (tested against real Go, not proved from fmt's source: count such statements apart). THE CARD IS WHAT COUNTS. Prove the row's statement (the work); the ties are given (YtlljphipglgjiaaGreatDoorTie.lean); close each card by the builder's one call (the guide's Derived/Test/ToyasCard.lean, 'card_holds'). Laid BY PROGRAM, IN A SANDBOX (cutbox-door.mjs). By AI agents, Wed Nov 11 2026. No macro, syntax, notation, axiom, sorry.
-/
import Derived.Test.YtlljphipglgjiaaGreatDoorRows
import GoSem.ClaimSeven
namespace Go.Proofs.YtlljphipglgjiaaGreatDoor
namespace Rows

/-- THE TIED CARD OF 'laws.FnXNames'. -/
def fnXNamesCard : Claim7 := { stood := { row := fnXNamesRow, standIns := [], harness := (true, "61314e9e18f21cb973648301a151d495b3858ad5753e630538c918ac6b76c652"), looks := true }, kinds := [], alts := [], laidByText := true, laidKinds := [.data, .data, .data, .data, .data, .sentinel, .sentinel, .sentinel, .sentinel, .pinned, .pinned, .pinned], laidTests := true, laidLooks := .later }
def FnXNamesCardSaid : Prop := Claim7.holds Tryz.pinned (.plain (OpenSpec.ofChange fnXNamesSpec)) fnXNamesCard

/-- THE TIED CARD OF 'laws.FnXValues'. -/
def fnXValuesCard : Claim7 := { stood := { row := fnXValuesRow, standIns := [], harness := (true, "61314e9e18f21cb973648301a151d495b3858ad5753e630538c918ac6b76c652"), looks := true }, kinds := [], alts := [], laidByText := true, laidKinds := [.data, .data, .data, .data, .data, .sentinel, .sentinel, .sentinel, .sentinel, .pinned, .pinned, .pinned], laidTests := true, laidLooks := .later }
def FnXValuesCardSaid : Prop := Claim7.holds Tryz.pinned (.plain (OpenSpec.ofChange fnXValuesSpec)) fnXValuesCard

/-- THE TIED CARD OF 'laws.FnXFlattens'. -/
def fnXFlattensCard : Claim7 := { stood := { row := fnXFlattensRow, standIns := [], harness := (true, "61314e9e18f21cb973648301a151d495b3858ad5753e630538c918ac6b76c652"), looks := true }, kinds := [], alts := [], laidByText := true, laidKinds := [.data, .data, .data, .data, .data, .pinned, .pinned, .pinned], laidTests := true, laidLooks := .later }
def FnXFlattensCardSaid : Prop := Claim7.holds Tryz.pinned (.plain (OpenSpec.ofChange fnXFlattensSpec)) fnXFlattensCard

/-- THE TIED CARD OF 'laws.FnXWraps'. -/
def fnXWrapsCard : Claim7 := { stood := { row := fnXWrapsRow, standIns := [], harness := (true, "61314e9e18f21cb973648301a151d495b3858ad5753e630538c918ac6b76c652"), looks := true }, kinds := [], alts := [], laidByText := true, laidKinds := [.data, .data, .data, .data, .data, .pinned, .pinned, .pinned], laidTests := true, laidLooks := .later }
def FnXWrapsCardSaid : Prop := Claim7.holds Tryz.pinned (.plain (OpenSpec.ofChange fnXWrapsSpec)) fnXWrapsCard

/-- THE TIED CARD OF 'laws.FnXWrites'. -/
def fnXWritesCard : Claim7 := { stood := { row := fnXWritesRow, standIns := [], harness := (true, "61314e9e18f21cb973648301a151d495b3858ad5753e630538c918ac6b76c652"), looks := true }, kinds := [], alts := [], laidByText := true, laidKinds := [.data, .data, .data, .data, .data, .pinned, .pinned, .pinned], laidTests := true, laidLooks := .later }
def FnXWritesCardSaid : Prop := Claim7.holds Tryz.pinned (.plain (OpenSpec.ofChange fnXWritesSpec)) fnXWritesCard

/-- THE TIED CARD OF 'laws.FnXTexts'. -/
def fnXTextsCard : Claim7 := { stood := { row := fnXTextsRow, standIns := [], harness := (true, "61314e9e18f21cb973648301a151d495b3858ad5753e630538c918ac6b76c652"), looks := true }, kinds := [], alts := [], laidByText := true, laidKinds := [.data, .data, .data, .data, .data, .sentinel, .sentinel, .pinned, .pinned, .pinned], laidTests := true, laidLooks := .later }
def FnXTextsCardSaid : Prop := Claim7.holds Tryz.pinned (.plain (OpenSpec.ofChange fnXTextsSpec)) fnXTextsCard

/-- THE TIED CARD OF 'laws.FnXReads'. -/
def fnXReadsCard : Claim7 := { stood := { row := fnXReadsRow, standIns := [], harness := (true, "61314e9e18f21cb973648301a151d495b3858ad5753e630538c918ac6b76c652"), looks := true }, kinds := [], alts := [], laidByText := true, laidKinds := [.data, .data, .data, .data, .data, .sentinel, .sentinel, .pinned, .pinned, .pinned], laidTests := true, laidLooks := .later }
def FnXReadsCardSaid : Prop := Claim7.holds Tryz.pinned (.plain (OpenSpec.ofChange fnXReadsSpec)) fnXReadsCard

/-- THE TIED CARD OF 'laws.FnXErrors'. -/
def fnXErrorsCard : Claim7 := { stood := { row := fnXErrorsRow, standIns := [], harness := (true, "61314e9e18f21cb973648301a151d495b3858ad5753e630538c918ac6b76c652"), looks := true }, kinds := [], alts := [], laidByText := true, laidKinds := [.data, .data, .data, .data, .data, .sentinel, .sentinel, .sentinel, .sentinel, .pinned, .pinned, .pinned], laidTests := true, laidLooks := .later }
def FnXErrorsCardSaid : Prop := Claim7.holds Tryz.pinned (.plain (OpenSpec.ofChange fnXErrorsSpec)) fnXErrorsCard

/-- THE SECOND FORM's CARD OF 'laws.FnXNames'. -/
def fnXNamesUptoCard : Claim7 := { stood := { row := fnXNamesUptoRow, standIns := [], harness := (true, "61314e9e18f21cb973648301a151d495b3858ad5753e630538c918ac6b76c652"), looks := true }, kinds := [], alts := [], laidByText := true, laidKinds := [.data, .data, .data, .data, .data, .sentinel, .sentinel, .sentinel, .sentinel, .pinned, .pinned, .pinned], laidTests := true, laidLooks := .later }
def FnXNamesUptoCardSaid : Prop := Claim7.holds Tryz.pinned (.plain (OpenSpec.upto fnXNamesSpec)) fnXNamesUptoCard

/-- THE SECOND FORM's CARD OF 'laws.FnXValues'. -/
def fnXValuesUptoCard : Claim7 := { stood := { row := fnXValuesUptoRow, standIns := [], harness := (true, "61314e9e18f21cb973648301a151d495b3858ad5753e630538c918ac6b76c652"), looks := true }, kinds := [], alts := [], laidByText := true, laidKinds := [.data, .data, .data, .data, .data, .sentinel, .sentinel, .sentinel, .sentinel, .pinned, .pinned, .pinned], laidTests := true, laidLooks := .later }
def FnXValuesUptoCardSaid : Prop := Claim7.holds Tryz.pinned (.plain (OpenSpec.upto fnXValuesSpec)) fnXValuesUptoCard

/-- THE SECOND FORM's CARD OF 'laws.FnXFlattens'. -/
def fnXFlattensUptoCard : Claim7 := { stood := { row := fnXFlattensUptoRow, standIns := [], harness := (true, "61314e9e18f21cb973648301a151d495b3858ad5753e630538c918ac6b76c652"), looks := true }, kinds := [], alts := [], laidByText := true, laidKinds := [.data, .data, .data, .data, .data, .pinned, .pinned, .pinned], laidTests := true, laidLooks := .later }
def FnXFlattensUptoCardSaid : Prop := Claim7.holds Tryz.pinned (.plain (OpenSpec.upto fnXFlattensSpec)) fnXFlattensUptoCard

/-- THE SECOND FORM's CARD OF 'laws.FnXWraps'. -/
def fnXWrapsUptoCard : Claim7 := { stood := { row := fnXWrapsUptoRow, standIns := [], harness := (true, "61314e9e18f21cb973648301a151d495b3858ad5753e630538c918ac6b76c652"), looks := true }, kinds := [], alts := [], laidByText := true, laidKinds := [.data, .data, .data, .data, .data, .pinned, .pinned, .pinned], laidTests := true, laidLooks := .later }
def FnXWrapsUptoCardSaid : Prop := Claim7.holds Tryz.pinned (.plain (OpenSpec.upto fnXWrapsSpec)) fnXWrapsUptoCard

/-- THE SECOND FORM's CARD OF 'laws.FnXWrites'. -/
def fnXWritesUptoCard : Claim7 := { stood := { row := fnXWritesUptoRow, standIns := [], harness := (true, "61314e9e18f21cb973648301a151d495b3858ad5753e630538c918ac6b76c652"), looks := true }, kinds := [], alts := [], laidByText := true, laidKinds := [.data, .data, .data, .data, .data, .pinned, .pinned, .pinned], laidTests := true, laidLooks := .later }
def FnXWritesUptoCardSaid : Prop := Claim7.holds Tryz.pinned (.plain (OpenSpec.upto fnXWritesSpec)) fnXWritesUptoCard

/-- THE SECOND FORM's CARD OF 'laws.FnXTexts'. -/
def fnXTextsUptoCard : Claim7 := { stood := { row := fnXTextsUptoRow, standIns := [], harness := (true, "61314e9e18f21cb973648301a151d495b3858ad5753e630538c918ac6b76c652"), looks := true }, kinds := [], alts := [], laidByText := true, laidKinds := [.data, .data, .data, .data, .data, .sentinel, .sentinel, .pinned, .pinned, .pinned], laidTests := true, laidLooks := .later }
def FnXTextsUptoCardSaid : Prop := Claim7.holds Tryz.pinned (.plain (OpenSpec.upto fnXTextsSpec)) fnXTextsUptoCard

/-- THE SECOND FORM's CARD OF 'laws.FnXReads'. -/
def fnXReadsUptoCard : Claim7 := { stood := { row := fnXReadsUptoRow, standIns := [], harness := (true, "61314e9e18f21cb973648301a151d495b3858ad5753e630538c918ac6b76c652"), looks := true }, kinds := [], alts := [], laidByText := true, laidKinds := [.data, .data, .data, .data, .data, .sentinel, .sentinel, .pinned, .pinned, .pinned], laidTests := true, laidLooks := .later }
def FnXReadsUptoCardSaid : Prop := Claim7.holds Tryz.pinned (.plain (OpenSpec.upto fnXReadsSpec)) fnXReadsUptoCard

/-- THE SECOND FORM's CARD OF 'laws.FnXErrors'. -/
def fnXErrorsUptoCard : Claim7 := { stood := { row := fnXErrorsUptoRow, standIns := [], harness := (true, "61314e9e18f21cb973648301a151d495b3858ad5753e630538c918ac6b76c652"), looks := true }, kinds := [], alts := [], laidByText := true, laidKinds := [.data, .data, .data, .data, .data, .sentinel, .sentinel, .sentinel, .sentinel, .pinned, .pinned, .pinned], laidTests := true, laidLooks := .later }
def FnXErrorsUptoCardSaid : Prop := Claim7.holds Tryz.pinned (.plain (OpenSpec.upto fnXErrorsSpec)) fnXErrorsUptoCard
end Rows
end Go.Proofs.YtlljphipglgjiaaGreatDoor
