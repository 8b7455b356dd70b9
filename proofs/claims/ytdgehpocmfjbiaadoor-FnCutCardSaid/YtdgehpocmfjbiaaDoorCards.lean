/-
  DERIVED. GIVEN WITH THE SEED: THE CARDS: each row of YtdgehpocmfjbiaaDoorRows.lean that lists a variable, with what it lists TIED to the program's text (the seventh form; the later family's looks); each row that meets fmt, with fmt's text TOLD by the authors' own Lean function (tested against real Go, not proved from fmt's source: count such statements apart). THE CARD IS WHAT COUNTS. Prove the row's statement (the work); the ties are given (YtdgehpocmfjbiaaDoorTie.lean); close each card by the builder's one call (the guide's Derived/Test/ToyasCard.lean, 'card_holds'). Laid BY PROGRAM, IN A SANDBOX (cutbox-door.mjs). By AI agents, Wed Nov 11 2026. No macro, syntax, notation, axiom, sorry.
-/
import Derived.Test.YtdgehpocmfjbiaaDoorRows
import GoSem.ClaimSeven
namespace Go.Proofs.YtdgehpocmfjbiaaDoor
namespace Rows

/-- THE TIED CARD OF 'laws.FnDynamicSymbols'. -/
def fnDynamicSymbolsCard : Claim7 := { stood := { row := fnDynamicSymbolsRow, standIns := [], harness := (true, "ed888367449acd6afd80057b2906ce1b79ec16b7beef13a0a9ac5f630eedede4"), looks := true }, kinds := [], alts := [], laidByText := true, laidKinds := [.sentinel, .sentinel, .sentinel, .sentinel, .sentinel, .sentinel], laidTests := true, laidLooks := .later }
def FnDynamicSymbolsCardSaid : Prop := Claim7.holds Tryd.pinned (.plain (OpenSpec.ofChange fnDynamicSymbolsSpec)) fnDynamicSymbolsCard

/-- THE TIED CARD OF 'laws.FnImported'. -/
def fnImportedCard : Claim7 := { stood := { row := fnImportedRow, standIns := [], harness := (true, "ed888367449acd6afd80057b2906ce1b79ec16b7beef13a0a9ac5f630eedede4"), looks := true }, kinds := [], alts := [], laidByText := true, laidKinds := [.sentinel, .sentinel, .sentinel, .sentinel, .sentinel, .sentinel], laidTests := true, laidLooks := .later }
def FnImportedCardSaid : Prop := Claim7.holds Tryd.pinned (.plain (OpenSpec.ofChange fnImportedSpec)) fnImportedCard

/-- THE TIED CARD OF 'laws.FnNoSymbols'. -/
def fnNoSymbolsCard : Claim7 := { stood := { row := fnNoSymbolsRow, standIns := [], harness := (true, "ed888367449acd6afd80057b2906ce1b79ec16b7beef13a0a9ac5f630eedede4"), looks := true }, kinds := [], alts := [], laidByText := true, laidKinds := [.sentinel, .sentinel, .sentinel, .sentinel, .sentinel, .sentinel], laidTests := true, laidLooks := .later }
def FnNoSymbolsCardSaid : Prop := Claim7.holds Tryd.pinned (.plain (OpenSpec.ofChange fnNoSymbolsSpec)) fnNoSymbolsCard

/-- THE TIED CARD OF 'laws.FnCut'. -/
def fnCutCard : Claim7 := { stood := { row := fnCutRow, standIns := [], harness := (true, "ed888367449acd6afd80057b2906ce1b79ec16b7beef13a0a9ac5f630eedede4"), looks := true }, kinds := [], alts := [], laidByText := true, laidKinds := [.sentinel, .sentinel, .sentinel, .sentinel, .sentinel], laidTests := true, laidLooks := .later }
def FnCutCardSaid : Prop := Claim7.holds Tryd.pinned (.plain (OpenSpec.ofChange fnCutSpec)) fnCutCard

/-- THE TIED CARD OF 'laws.FnHead'. -/
def fnHeadCard : Claim7 := { stood := { row := fnHeadRow, standIns := [], harness := (true, "ed888367449acd6afd80057b2906ce1b79ec16b7beef13a0a9ac5f630eedede4"), looks := true }, kinds := [], alts := [], laidByText := true, laidKinds := [.sentinel, .sentinel, .sentinel, .sentinel, .sentinel], laidTests := true, laidLooks := .later }
def FnHeadCardSaid : Prop := Claim7.holds Tryd.pinned (.plain (OpenSpec.ofChange fnHeadSpec)) fnHeadCard

/-- THE TIED CARD OF 'laws.FnMagic'. -/
def fnMagicCard : Claim7 := { stood := { row := fnMagicRow, standIns := [], harness := (true, "ed888367449acd6afd80057b2906ce1b79ec16b7beef13a0a9ac5f630eedede4"), looks := true }, kinds := [], alts := [], laidByText := true, laidKinds := [.sentinel, .sentinel, .sentinel, .sentinel, .sentinel], laidTests := true, laidLooks := .later }
def FnMagicCardSaid : Prop := Claim7.holds Tryd.pinned (.plain (OpenSpec.ofChange fnMagicSpec)) fnMagicCard

/-- THE TIED CARD OF 'laws.FnSectionBytes'. -/
def fnSectionBytesCard : Claim7 := { stood := { row := fnSectionBytesRow, standIns := [], harness := (true, "ed888367449acd6afd80057b2906ce1b79ec16b7beef13a0a9ac5f630eedede4"), looks := true }, kinds := [], alts := [], laidByText := true, laidKinds := [.sentinel, .sentinel, .sentinel, .sentinel, .sentinel], laidTests := true, laidLooks := .later }
def FnSectionBytesCardSaid : Prop := Claim7.holds Tryd.pinned (.plain (OpenSpec.ofChange fnSectionBytesSpec)) fnSectionBytesCard

/-- THE TIED CARD OF 'laws.FnProgBytes'. -/
def fnProgBytesCard : Claim7 := { stood := { row := fnProgBytesRow, standIns := [], harness := (true, "ed888367449acd6afd80057b2906ce1b79ec16b7beef13a0a9ac5f630eedede4"), looks := true }, kinds := [], alts := [], laidByText := true, laidKinds := [.sentinel, .sentinel, .sentinel, .sentinel, .sentinel], laidTests := true, laidLooks := .later }
def FnProgBytesCardSaid : Prop := Claim7.holds Tryd.pinned (.plain (OpenSpec.ofChange fnProgBytesSpec)) fnProgBytesCard

/-- THE TIED CARD OF 'laws.FnClasses'. -/
def fnClassesCard : Claim7 := { stood := { row := fnClassesRow, standIns := [], harness := (true, "ed888367449acd6afd80057b2906ce1b79ec16b7beef13a0a9ac5f630eedede4"), looks := true }, kinds := [], alts := [], laidByText := true, laidKinds := [.sentinel, .sentinel, .sentinel, .sentinel, .sentinel], laidTests := true, laidLooks := .later }
def FnClassesCardSaid : Prop := Claim7.holds Tryd.pinned (.plain (OpenSpec.ofChange fnClassesSpec)) fnClassesCard

/-- THE TIED CARD OF 'laws.FnProgs'. -/
def fnProgsCard : Claim7 := { stood := { row := fnProgsRow, standIns := [], harness := (true, "ed888367449acd6afd80057b2906ce1b79ec16b7beef13a0a9ac5f630eedede4"), looks := true }, kinds := [], alts := [], laidByText := true, laidKinds := [.sentinel, .sentinel, .sentinel, .sentinel, .sentinel], laidTests := true, laidLooks := .later }
def FnProgsCardSaid : Prop := Claim7.holds Tryd.pinned (.plain (OpenSpec.ofChange fnProgsSpec)) fnProgsCard

/-- THE TIED CARD OF 'laws.FnSections'. -/
def fnSectionsCard : Claim7 := { stood := { row := fnSectionsRow, standIns := [], harness := (true, "ed888367449acd6afd80057b2906ce1b79ec16b7beef13a0a9ac5f630eedede4"), looks := true }, kinds := [], alts := [], laidByText := true, laidKinds := [.sentinel, .sentinel, .sentinel, .sentinel, .sentinel], laidTests := true, laidLooks := .later }
def FnSectionsCardSaid : Prop := Claim7.holds Tryd.pinned (.plain (OpenSpec.ofChange fnSectionsSpec)) fnSectionsCard

/-- THE TIED CARD OF 'laws.FnByName'. -/
def fnByNameCard : Claim7 := { stood := { row := fnByNameRow, standIns := [], harness := (true, "ed888367449acd6afd80057b2906ce1b79ec16b7beef13a0a9ac5f630eedede4"), looks := true }, kinds := [], alts := [], laidByText := true, laidKinds := [.sentinel, .sentinel, .sentinel, .sentinel, .sentinel], laidTests := true, laidLooks := .later }
def FnByNameCardSaid : Prop := Claim7.holds Tryd.pinned (.plain (OpenSpec.ofChange fnByNameSpec)) fnByNameCard

/-- THE TIED CARD OF 'laws.FnByType'. -/
def fnByTypeCard : Claim7 := { stood := { row := fnByTypeRow, standIns := [], harness := (true, "ed888367449acd6afd80057b2906ce1b79ec16b7beef13a0a9ac5f630eedede4"), looks := true }, kinds := [], alts := [], laidByText := true, laidKinds := [.sentinel, .sentinel, .sentinel, .sentinel, .sentinel], laidTests := true, laidLooks := .later }
def FnByTypeCardSaid : Prop := Claim7.holds Tryd.pinned (.plain (OpenSpec.ofChange fnByTypeSpec)) fnByTypeCard

/-- THE TIED CARD OF 'laws.FnDynValues'. -/
def fnDynValuesCard : Claim7 := { stood := { row := fnDynValuesRow, standIns := [], harness := (true, "ed888367449acd6afd80057b2906ce1b79ec16b7beef13a0a9ac5f630eedede4"), looks := true }, kinds := [], alts := [], laidByText := true, laidKinds := [.sentinel, .sentinel, .sentinel, .sentinel, .sentinel, .sentinel], laidTests := true, laidLooks := .later }
def FnDynValuesCardSaid : Prop := Claim7.holds Tryd.pinned (.plain (OpenSpec.ofChange fnDynValuesSpec)) fnDynValuesCard

/-- THE TIED CARD OF 'laws.FnDynStrings'. -/
def fnDynStringsCard : Claim7 := { stood := { row := fnDynStringsRow, standIns := [], harness := (true, "ed888367449acd6afd80057b2906ce1b79ec16b7beef13a0a9ac5f630eedede4"), looks := true }, kinds := [], alts := [], laidByText := true, laidKinds := [.sentinel, .sentinel, .sentinel, .sentinel, .sentinel, .sentinel], laidTests := true, laidLooks := .later }
def FnDynStringsCardSaid : Prop := Claim7.holds Tryd.pinned (.plain (OpenSpec.ofChange fnDynStringsSpec)) fnDynStringsCard

/-- THE TIED CARD OF 'laws.FnLibraries'. -/
def fnLibrariesCard : Claim7 := { stood := { row := fnLibrariesRow, standIns := [], harness := (true, "ed888367449acd6afd80057b2906ce1b79ec16b7beef13a0a9ac5f630eedede4"), looks := true }, kinds := [], alts := [], laidByText := true, laidKinds := [.sentinel, .sentinel, .sentinel, .sentinel, .sentinel, .sentinel], laidTests := true, laidLooks := .later }
def FnLibrariesCardSaid : Prop := Claim7.holds Tryd.pinned (.plain (OpenSpec.ofChange fnLibrariesSpec)) fnLibrariesCard

/-- THE TIED CARD OF 'laws.FnSymbols'. -/
def fnSymbolsCard : Claim7 := { stood := { row := fnSymbolsRow, standIns := [], harness := (true, "ed888367449acd6afd80057b2906ce1b79ec16b7beef13a0a9ac5f630eedede4"), looks := true }, kinds := [], alts := [], laidByText := true, laidKinds := [.sentinel, .sentinel, .sentinel, .sentinel, .sentinel, .sentinel], laidTests := true, laidLooks := .later }
def FnSymbolsCardSaid : Prop := Claim7.holds Tryd.pinned (.plain (OpenSpec.ofChange fnSymbolsSpec)) fnSymbolsCard

/-- THE SECOND FORM's CARD OF 'laws.FnDynamicSymbols'. -/
def fnDynamicSymbolsUptoCard : Claim7 := { stood := { row := fnDynamicSymbolsUptoRow, standIns := [], harness := (true, "ed888367449acd6afd80057b2906ce1b79ec16b7beef13a0a9ac5f630eedede4"), looks := true }, kinds := [], alts := [], laidByText := true, laidKinds := [.sentinel, .sentinel, .sentinel, .sentinel, .sentinel, .sentinel], laidTests := true, laidLooks := .later }
def FnDynamicSymbolsUptoCardSaid : Prop := Claim7.holds Tryd.pinned (.plain (OpenSpec.upto fnDynamicSymbolsSpec)) fnDynamicSymbolsUptoCard

/-- THE SECOND FORM's CARD OF 'laws.FnImported'. -/
def fnImportedUptoCard : Claim7 := { stood := { row := fnImportedUptoRow, standIns := [], harness := (true, "ed888367449acd6afd80057b2906ce1b79ec16b7beef13a0a9ac5f630eedede4"), looks := true }, kinds := [], alts := [], laidByText := true, laidKinds := [.sentinel, .sentinel, .sentinel, .sentinel, .sentinel, .sentinel], laidTests := true, laidLooks := .later }
def FnImportedUptoCardSaid : Prop := Claim7.holds Tryd.pinned (.plain (OpenSpec.upto fnImportedSpec)) fnImportedUptoCard

/-- THE SECOND FORM's CARD OF 'laws.FnNoSymbols'. -/
def fnNoSymbolsUptoCard : Claim7 := { stood := { row := fnNoSymbolsUptoRow, standIns := [], harness := (true, "ed888367449acd6afd80057b2906ce1b79ec16b7beef13a0a9ac5f630eedede4"), looks := true }, kinds := [], alts := [], laidByText := true, laidKinds := [.sentinel, .sentinel, .sentinel, .sentinel, .sentinel, .sentinel], laidTests := true, laidLooks := .later }
def FnNoSymbolsUptoCardSaid : Prop := Claim7.holds Tryd.pinned (.plain (OpenSpec.upto fnNoSymbolsSpec)) fnNoSymbolsUptoCard

/-- THE SECOND FORM's CARD OF 'laws.FnCut'. -/
def fnCutUptoCard : Claim7 := { stood := { row := fnCutUptoRow, standIns := [], harness := (true, "ed888367449acd6afd80057b2906ce1b79ec16b7beef13a0a9ac5f630eedede4"), looks := true }, kinds := [], alts := [], laidByText := true, laidKinds := [.sentinel, .sentinel, .sentinel, .sentinel, .sentinel], laidTests := true, laidLooks := .later }
def FnCutUptoCardSaid : Prop := Claim7.holds Tryd.pinned (.plain (OpenSpec.upto fnCutSpec)) fnCutUptoCard

/-- THE SECOND FORM's CARD OF 'laws.FnHead'. -/
def fnHeadUptoCard : Claim7 := { stood := { row := fnHeadUptoRow, standIns := [], harness := (true, "ed888367449acd6afd80057b2906ce1b79ec16b7beef13a0a9ac5f630eedede4"), looks := true }, kinds := [], alts := [], laidByText := true, laidKinds := [.sentinel, .sentinel, .sentinel, .sentinel, .sentinel], laidTests := true, laidLooks := .later }
def FnHeadUptoCardSaid : Prop := Claim7.holds Tryd.pinned (.plain (OpenSpec.upto fnHeadSpec)) fnHeadUptoCard

/-- THE SECOND FORM's CARD OF 'laws.FnMagic'. -/
def fnMagicUptoCard : Claim7 := { stood := { row := fnMagicUptoRow, standIns := [], harness := (true, "ed888367449acd6afd80057b2906ce1b79ec16b7beef13a0a9ac5f630eedede4"), looks := true }, kinds := [], alts := [], laidByText := true, laidKinds := [.sentinel, .sentinel, .sentinel, .sentinel, .sentinel], laidTests := true, laidLooks := .later }
def FnMagicUptoCardSaid : Prop := Claim7.holds Tryd.pinned (.plain (OpenSpec.upto fnMagicSpec)) fnMagicUptoCard

/-- THE SECOND FORM's CARD OF 'laws.FnSectionBytes'. -/
def fnSectionBytesUptoCard : Claim7 := { stood := { row := fnSectionBytesUptoRow, standIns := [], harness := (true, "ed888367449acd6afd80057b2906ce1b79ec16b7beef13a0a9ac5f630eedede4"), looks := true }, kinds := [], alts := [], laidByText := true, laidKinds := [.sentinel, .sentinel, .sentinel, .sentinel, .sentinel], laidTests := true, laidLooks := .later }
def FnSectionBytesUptoCardSaid : Prop := Claim7.holds Tryd.pinned (.plain (OpenSpec.upto fnSectionBytesSpec)) fnSectionBytesUptoCard

/-- THE SECOND FORM's CARD OF 'laws.FnProgBytes'. -/
def fnProgBytesUptoCard : Claim7 := { stood := { row := fnProgBytesUptoRow, standIns := [], harness := (true, "ed888367449acd6afd80057b2906ce1b79ec16b7beef13a0a9ac5f630eedede4"), looks := true }, kinds := [], alts := [], laidByText := true, laidKinds := [.sentinel, .sentinel, .sentinel, .sentinel, .sentinel], laidTests := true, laidLooks := .later }
def FnProgBytesUptoCardSaid : Prop := Claim7.holds Tryd.pinned (.plain (OpenSpec.upto fnProgBytesSpec)) fnProgBytesUptoCard

/-- THE SECOND FORM's CARD OF 'laws.FnClasses'. -/
def fnClassesUptoCard : Claim7 := { stood := { row := fnClassesUptoRow, standIns := [], harness := (true, "ed888367449acd6afd80057b2906ce1b79ec16b7beef13a0a9ac5f630eedede4"), looks := true }, kinds := [], alts := [], laidByText := true, laidKinds := [.sentinel, .sentinel, .sentinel, .sentinel, .sentinel], laidTests := true, laidLooks := .later }
def FnClassesUptoCardSaid : Prop := Claim7.holds Tryd.pinned (.plain (OpenSpec.upto fnClassesSpec)) fnClassesUptoCard

/-- THE SECOND FORM's CARD OF 'laws.FnProgs'. -/
def fnProgsUptoCard : Claim7 := { stood := { row := fnProgsUptoRow, standIns := [], harness := (true, "ed888367449acd6afd80057b2906ce1b79ec16b7beef13a0a9ac5f630eedede4"), looks := true }, kinds := [], alts := [], laidByText := true, laidKinds := [.sentinel, .sentinel, .sentinel, .sentinel, .sentinel], laidTests := true, laidLooks := .later }
def FnProgsUptoCardSaid : Prop := Claim7.holds Tryd.pinned (.plain (OpenSpec.upto fnProgsSpec)) fnProgsUptoCard

/-- THE SECOND FORM's CARD OF 'laws.FnSections'. -/
def fnSectionsUptoCard : Claim7 := { stood := { row := fnSectionsUptoRow, standIns := [], harness := (true, "ed888367449acd6afd80057b2906ce1b79ec16b7beef13a0a9ac5f630eedede4"), looks := true }, kinds := [], alts := [], laidByText := true, laidKinds := [.sentinel, .sentinel, .sentinel, .sentinel, .sentinel], laidTests := true, laidLooks := .later }
def FnSectionsUptoCardSaid : Prop := Claim7.holds Tryd.pinned (.plain (OpenSpec.upto fnSectionsSpec)) fnSectionsUptoCard

/-- THE SECOND FORM's CARD OF 'laws.FnByName'. -/
def fnByNameUptoCard : Claim7 := { stood := { row := fnByNameUptoRow, standIns := [], harness := (true, "ed888367449acd6afd80057b2906ce1b79ec16b7beef13a0a9ac5f630eedede4"), looks := true }, kinds := [], alts := [], laidByText := true, laidKinds := [.sentinel, .sentinel, .sentinel, .sentinel, .sentinel], laidTests := true, laidLooks := .later }
def FnByNameUptoCardSaid : Prop := Claim7.holds Tryd.pinned (.plain (OpenSpec.upto fnByNameSpec)) fnByNameUptoCard

/-- THE SECOND FORM's CARD OF 'laws.FnByType'. -/
def fnByTypeUptoCard : Claim7 := { stood := { row := fnByTypeUptoRow, standIns := [], harness := (true, "ed888367449acd6afd80057b2906ce1b79ec16b7beef13a0a9ac5f630eedede4"), looks := true }, kinds := [], alts := [], laidByText := true, laidKinds := [.sentinel, .sentinel, .sentinel, .sentinel, .sentinel], laidTests := true, laidLooks := .later }
def FnByTypeUptoCardSaid : Prop := Claim7.holds Tryd.pinned (.plain (OpenSpec.upto fnByTypeSpec)) fnByTypeUptoCard

/-- THE SECOND FORM's CARD OF 'laws.FnDynValues'. -/
def fnDynValuesUptoCard : Claim7 := { stood := { row := fnDynValuesUptoRow, standIns := [], harness := (true, "ed888367449acd6afd80057b2906ce1b79ec16b7beef13a0a9ac5f630eedede4"), looks := true }, kinds := [], alts := [], laidByText := true, laidKinds := [.sentinel, .sentinel, .sentinel, .sentinel, .sentinel, .sentinel], laidTests := true, laidLooks := .later }
def FnDynValuesUptoCardSaid : Prop := Claim7.holds Tryd.pinned (.plain (OpenSpec.upto fnDynValuesSpec)) fnDynValuesUptoCard

/-- THE SECOND FORM's CARD OF 'laws.FnDynStrings'. -/
def fnDynStringsUptoCard : Claim7 := { stood := { row := fnDynStringsUptoRow, standIns := [], harness := (true, "ed888367449acd6afd80057b2906ce1b79ec16b7beef13a0a9ac5f630eedede4"), looks := true }, kinds := [], alts := [], laidByText := true, laidKinds := [.sentinel, .sentinel, .sentinel, .sentinel, .sentinel, .sentinel], laidTests := true, laidLooks := .later }
def FnDynStringsUptoCardSaid : Prop := Claim7.holds Tryd.pinned (.plain (OpenSpec.upto fnDynStringsSpec)) fnDynStringsUptoCard

/-- THE SECOND FORM's CARD OF 'laws.FnLibraries'. -/
def fnLibrariesUptoCard : Claim7 := { stood := { row := fnLibrariesUptoRow, standIns := [], harness := (true, "ed888367449acd6afd80057b2906ce1b79ec16b7beef13a0a9ac5f630eedede4"), looks := true }, kinds := [], alts := [], laidByText := true, laidKinds := [.sentinel, .sentinel, .sentinel, .sentinel, .sentinel, .sentinel], laidTests := true, laidLooks := .later }
def FnLibrariesUptoCardSaid : Prop := Claim7.holds Tryd.pinned (.plain (OpenSpec.upto fnLibrariesSpec)) fnLibrariesUptoCard

/-- THE SECOND FORM's CARD OF 'laws.FnSymbols'. -/
def fnSymbolsUptoCard : Claim7 := { stood := { row := fnSymbolsUptoRow, standIns := [], harness := (true, "ed888367449acd6afd80057b2906ce1b79ec16b7beef13a0a9ac5f630eedede4"), looks := true }, kinds := [], alts := [], laidByText := true, laidKinds := [.sentinel, .sentinel, .sentinel, .sentinel, .sentinel, .sentinel], laidTests := true, laidLooks := .later }
def FnSymbolsUptoCardSaid : Prop := Claim7.holds Tryd.pinned (.plain (OpenSpec.upto fnSymbolsSpec)) fnSymbolsUptoCard
end Rows
end Go.Proofs.YtdgehpocmfjbiaaDoor
