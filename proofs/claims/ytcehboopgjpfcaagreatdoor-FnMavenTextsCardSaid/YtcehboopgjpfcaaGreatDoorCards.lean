/-
  DERIVED. GIVEN WITH THE SEED: THE CARDS: each row of YtcehboopgjpfcaaGreatDoorRows.lean that lists a variable, with what it lists TIED to the program's text (the seventh form; the later family's looks); each row that meets fmt, with fmt's text TOLD by the authors' own Lean function (tested against real Go, not proved from fmt's source: count such statements apart). THE CARD IS WHAT COUNTS. Prove the row's statement (the work); the ties are given (YtcehboopgjpfcaaGreatDoorTie.lean); close each card by the builder's one call (the guide's Derived/Test/ToyasCard.lean, 'card_holds'). Laid BY PROGRAM, IN A SANDBOX (cutbox-door.mjs). By AI agents, Wed Nov 11 2026. No macro, syntax, notation, axiom, sorry.
-/
import Derived.Test.YtcehboopgjpfcaaGreatDoorRows
import GoSem.ClaimSeven
namespace Go.Proofs.YtcehboopgjpfcaaGreatDoor
namespace Rows

/-- THE TIED CARD OF 'laws.FnMavenGlued'. -/
def fnMavenGluedCard : Claim7 := { stood := { row := fnMavenGluedRow, standIns := [], harness := (true, "77db013054401e83eac9469112a533d38a195273b3da6e98e7fcef9eceb5cca1"), looks := true }, kinds := [], alts := [], laidByText := true, laidKinds := [.data, .data, .data, .sentinel, .sentinel, .sentinel, .data, .data, .data, .data, .data, .sentinel, .pinned, .pinned], laidTests := true, laidLooks := .later }
def FnMavenGluedCardSaid : Prop := Claim7.holds Tryz.pinned (.plain (OpenSpec.ofChange fnMavenGluedSpec)) fnMavenGluedCard

/-- THE TIED CARD OF 'laws.FnMavenInner'. -/
def fnMavenInnerCard : Claim7 := { stood := { row := fnMavenInnerRow, standIns := [], harness := (true, "77db013054401e83eac9469112a533d38a195273b3da6e98e7fcef9eceb5cca1"), looks := true }, kinds := [], alts := [], laidByText := true, laidKinds := [.data, .data, .data, .sentinel, .sentinel, .sentinel, .data, .data, .data, .data, .data, .sentinel, .pinned, .pinned], laidTests := true, laidLooks := .later }
def FnMavenInnerCardSaid : Prop := Claim7.holds Tryz.pinned (.plain (OpenSpec.ofChange fnMavenInnerSpec)) fnMavenInnerCard

/-- THE TIED CARD OF 'laws.FnMavenNumberParts'. -/
def fnMavenNumberPartsCard : Claim7 := { stood := { row := fnMavenNumberPartsRow, standIns := [], harness := (true, "77db013054401e83eac9469112a533d38a195273b3da6e98e7fcef9eceb5cca1"), looks := true }, kinds := [], alts := [], laidByText := true, laidKinds := [.data, .data, .data, .sentinel, .sentinel, .sentinel, .data, .data, .data, .data, .data, .sentinel, .pinned, .pinned], laidTests := true, laidLooks := .later }
def FnMavenNumberPartsCardSaid : Prop := Claim7.holds Tryz.pinned (.plain (OpenSpec.ofChange fnMavenNumberPartsSpec)) fnMavenNumberPartsCard

/-- THE TIED CARD OF 'laws.FnMavenParse'. -/
def fnMavenParseCard : Claim7 := { stood := { row := fnMavenParseRow, standIns := [], harness := (true, "77db013054401e83eac9469112a533d38a195273b3da6e98e7fcef9eceb5cca1"), looks := true }, kinds := [], alts := [], laidByText := true, laidKinds := [.data, .data, .data, .sentinel, .sentinel, .sentinel, .data, .data, .data, .data, .data, .sentinel, .pinned, .pinned], laidTests := true, laidLooks := .later }
def FnMavenParseCardSaid : Prop := Claim7.holds Tryz.pinned (.plain (OpenSpec.ofChange fnMavenParseSpec)) fnMavenParseCard

/-- THE TIED CARD OF 'laws.FnMavenAliases'. -/
def fnMavenAliasesCard : Claim7 := { stood := { row := fnMavenAliasesRow, standIns := [], harness := (true, "77db013054401e83eac9469112a533d38a195273b3da6e98e7fcef9eceb5cca1"), looks := true }, kinds := [], alts := [], laidByText := true, laidKinds := [.data, .data, .data, .sentinel, .sentinel, .sentinel, .data, .data, .data, .data, .data, .sentinel, .data, .pinned, .pinned], laidTests := true, laidLooks := .later }
def FnMavenAliasesCardSaid : Prop := Claim7.holds Tryz.pinned (.plain (OpenSpec.ofChange fnMavenAliasesSpec)) fnMavenAliasesCard

/-- THE TIED CARD OF 'laws.FnMavenNumbers'. -/
def fnMavenNumbersCard : Claim7 := { stood := { row := fnMavenNumbersRow, standIns := [], harness := (true, "77db013054401e83eac9469112a533d38a195273b3da6e98e7fcef9eceb5cca1"), looks := true }, kinds := [], alts := [], laidByText := true, laidKinds := [.data, .data, .data, .sentinel, .sentinel, .sentinel, .data, .data, .data, .data, .data, .sentinel, .data, .pinned, .pinned], laidTests := true, laidLooks := .later }
def FnMavenNumbersCardSaid : Prop := Claim7.holds Tryz.pinned (.plain (OpenSpec.ofChange fnMavenNumbersSpec)) fnMavenNumbersCard

/-- THE TIED CARD OF 'laws.FnMavenPack'. -/
def fnMavenPackCard : Claim7 := { stood := { row := fnMavenPackRow, standIns := [], harness := (true, "77db013054401e83eac9469112a533d38a195273b3da6e98e7fcef9eceb5cca1"), looks := true }, kinds := [], alts := [], laidByText := true, laidKinds := [.data, .data, .data, .sentinel, .sentinel, .sentinel, .data, .data, .data, .data, .data, .sentinel, .data, .pinned, .pinned], laidTests := true, laidLooks := .later }
def FnMavenPackCardSaid : Prop := Claim7.holds Tryz.pinned (.plain (OpenSpec.ofChange fnMavenPackSpec)) fnMavenPackCard

/-- THE TIED CARD OF 'laws.FnMavenStages'. -/
def fnMavenStagesCard : Claim7 := { stood := { row := fnMavenStagesRow, standIns := [], harness := (true, "77db013054401e83eac9469112a533d38a195273b3da6e98e7fcef9eceb5cca1"), looks := true }, kinds := [], alts := [], laidByText := true, laidKinds := [.data, .data, .data, .sentinel, .sentinel, .sentinel, .data, .data, .data, .data, .data, .sentinel, .data, .pinned, .pinned], laidTests := true, laidLooks := .later }
def FnMavenStagesCardSaid : Prop := Claim7.holds Tryz.pinned (.plain (OpenSpec.ofChange fnMavenStagesSpec)) fnMavenStagesCard

/-- THE TIED CARD OF 'laws.FnMavenBack'. -/
def fnMavenBackCard : Claim7 := { stood := { row := fnMavenBackRow, standIns := [], harness := (true, "77db013054401e83eac9469112a533d38a195273b3da6e98e7fcef9eceb5cca1"), looks := true }, kinds := [], alts := [], laidByText := true, laidKinds := [.data, .data, .data, .sentinel, .sentinel, .sentinel, .data, .data, .data, .data, .data, .sentinel, .data, .pinned, .pinned], laidTests := true, laidLooks := .later }
def FnMavenBackCardSaid : Prop := Claim7.holds Tryz.pinned (.plain (OpenSpec.ofChange fnMavenBackSpec)) fnMavenBackCard

/-- THE TIED CARD OF 'laws.FnMavenCase'. -/
def fnMavenCaseCard : Claim7 := { stood := { row := fnMavenCaseRow, standIns := [], harness := (true, "77db013054401e83eac9469112a533d38a195273b3da6e98e7fcef9eceb5cca1"), looks := true }, kinds := [], alts := [], laidByText := true, laidKinds := [.data, .data, .data, .sentinel, .sentinel, .sentinel, .data, .data, .data, .data, .data, .sentinel, .data, .pinned, .pinned], laidTests := true, laidLooks := .later }
def FnMavenCaseCardSaid : Prop := Claim7.holds Tryz.pinned (.plain (OpenSpec.ofChange fnMavenCaseSpec)) fnMavenCaseCard

/-- THE TIED CARD OF 'laws.FnMavenTails'. -/
def fnMavenTailsCard : Claim7 := { stood := { row := fnMavenTailsRow, standIns := [], harness := (true, "77db013054401e83eac9469112a533d38a195273b3da6e98e7fcef9eceb5cca1"), looks := true }, kinds := [], alts := [], laidByText := true, laidKinds := [.data, .data, .data, .sentinel, .sentinel, .sentinel, .data, .data, .data, .data, .data, .sentinel, .data, .pinned, .pinned], laidTests := true, laidLooks := .later }
def FnMavenTailsCardSaid : Prop := Claim7.holds Tryz.pinned (.plain (OpenSpec.ofChange fnMavenTailsSpec)) fnMavenTailsCard

/-- THE TIED CARD OF 'laws.FnMavenZeros'. -/
def fnMavenZerosCard : Claim7 := { stood := { row := fnMavenZerosRow, standIns := [], harness := (true, "77db013054401e83eac9469112a533d38a195273b3da6e98e7fcef9eceb5cca1"), looks := true }, kinds := [], alts := [], laidByText := true, laidKinds := [.data, .data, .data, .sentinel, .sentinel, .sentinel, .data, .data, .data, .data, .data, .sentinel, .data, .pinned, .pinned], laidTests := true, laidLooks := .later }
def FnMavenZerosCardSaid : Prop := Claim7.holds Tryz.pinned (.plain (OpenSpec.ofChange fnMavenZerosSpec)) fnMavenZerosCard

/-- THE TIED CARD OF 'laws.FnMavenTexts'. -/
def fnMavenTextsCard : Claim7 := { stood := { row := fnMavenTextsRow, standIns := [], harness := (true, "77db013054401e83eac9469112a533d38a195273b3da6e98e7fcef9eceb5cca1"), looks := true }, kinds := [], alts := [], laidByText := true, laidKinds := [.data, .data, .data, .sentinel, .sentinel, .sentinel, .data, .data, .data, .data, .data, .sentinel, .data, .pinned, .pinned], laidTests := true, laidLooks := .later }
def FnMavenTextsCardSaid : Prop := Claim7.holds Tryz.pinned (.plain (OpenSpec.ofChange fnMavenTextsSpec)) fnMavenTextsCard

/-- THE SECOND FORM's CARD OF 'laws.FnMavenGlued'. -/
def fnMavenGluedUptoCard : Claim7 := { stood := { row := fnMavenGluedUptoRow, standIns := [], harness := (true, "77db013054401e83eac9469112a533d38a195273b3da6e98e7fcef9eceb5cca1"), looks := true }, kinds := [], alts := [], laidByText := true, laidKinds := [.data, .data, .data, .sentinel, .sentinel, .sentinel, .data, .data, .data, .data, .data, .sentinel, .pinned, .pinned], laidTests := true, laidLooks := .later }
def FnMavenGluedUptoCardSaid : Prop := Claim7.holds Tryz.pinned (.plain (OpenSpec.upto fnMavenGluedSpec)) fnMavenGluedUptoCard

/-- THE SECOND FORM's CARD OF 'laws.FnMavenInner'. -/
def fnMavenInnerUptoCard : Claim7 := { stood := { row := fnMavenInnerUptoRow, standIns := [], harness := (true, "77db013054401e83eac9469112a533d38a195273b3da6e98e7fcef9eceb5cca1"), looks := true }, kinds := [], alts := [], laidByText := true, laidKinds := [.data, .data, .data, .sentinel, .sentinel, .sentinel, .data, .data, .data, .data, .data, .sentinel, .pinned, .pinned], laidTests := true, laidLooks := .later }
def FnMavenInnerUptoCardSaid : Prop := Claim7.holds Tryz.pinned (.plain (OpenSpec.upto fnMavenInnerSpec)) fnMavenInnerUptoCard

/-- THE SECOND FORM's CARD OF 'laws.FnMavenNumberParts'. -/
def fnMavenNumberPartsUptoCard : Claim7 := { stood := { row := fnMavenNumberPartsUptoRow, standIns := [], harness := (true, "77db013054401e83eac9469112a533d38a195273b3da6e98e7fcef9eceb5cca1"), looks := true }, kinds := [], alts := [], laidByText := true, laidKinds := [.data, .data, .data, .sentinel, .sentinel, .sentinel, .data, .data, .data, .data, .data, .sentinel, .pinned, .pinned], laidTests := true, laidLooks := .later }
def FnMavenNumberPartsUptoCardSaid : Prop := Claim7.holds Tryz.pinned (.plain (OpenSpec.upto fnMavenNumberPartsSpec)) fnMavenNumberPartsUptoCard

/-- THE SECOND FORM's CARD OF 'laws.FnMavenParse'. -/
def fnMavenParseUptoCard : Claim7 := { stood := { row := fnMavenParseUptoRow, standIns := [], harness := (true, "77db013054401e83eac9469112a533d38a195273b3da6e98e7fcef9eceb5cca1"), looks := true }, kinds := [], alts := [], laidByText := true, laidKinds := [.data, .data, .data, .sentinel, .sentinel, .sentinel, .data, .data, .data, .data, .data, .sentinel, .pinned, .pinned], laidTests := true, laidLooks := .later }
def FnMavenParseUptoCardSaid : Prop := Claim7.holds Tryz.pinned (.plain (OpenSpec.upto fnMavenParseSpec)) fnMavenParseUptoCard

/-- THE SECOND FORM's CARD OF 'laws.FnMavenAliases'. -/
def fnMavenAliasesUptoCard : Claim7 := { stood := { row := fnMavenAliasesUptoRow, standIns := [], harness := (true, "77db013054401e83eac9469112a533d38a195273b3da6e98e7fcef9eceb5cca1"), looks := true }, kinds := [], alts := [], laidByText := true, laidKinds := [.data, .data, .data, .sentinel, .sentinel, .sentinel, .data, .data, .data, .data, .data, .sentinel, .data, .pinned, .pinned], laidTests := true, laidLooks := .later }
def FnMavenAliasesUptoCardSaid : Prop := Claim7.holds Tryz.pinned (.plain (OpenSpec.upto fnMavenAliasesSpec)) fnMavenAliasesUptoCard

/-- THE SECOND FORM's CARD OF 'laws.FnMavenNumbers'. -/
def fnMavenNumbersUptoCard : Claim7 := { stood := { row := fnMavenNumbersUptoRow, standIns := [], harness := (true, "77db013054401e83eac9469112a533d38a195273b3da6e98e7fcef9eceb5cca1"), looks := true }, kinds := [], alts := [], laidByText := true, laidKinds := [.data, .data, .data, .sentinel, .sentinel, .sentinel, .data, .data, .data, .data, .data, .sentinel, .data, .pinned, .pinned], laidTests := true, laidLooks := .later }
def FnMavenNumbersUptoCardSaid : Prop := Claim7.holds Tryz.pinned (.plain (OpenSpec.upto fnMavenNumbersSpec)) fnMavenNumbersUptoCard

/-- THE SECOND FORM's CARD OF 'laws.FnMavenPack'. -/
def fnMavenPackUptoCard : Claim7 := { stood := { row := fnMavenPackUptoRow, standIns := [], harness := (true, "77db013054401e83eac9469112a533d38a195273b3da6e98e7fcef9eceb5cca1"), looks := true }, kinds := [], alts := [], laidByText := true, laidKinds := [.data, .data, .data, .sentinel, .sentinel, .sentinel, .data, .data, .data, .data, .data, .sentinel, .data, .pinned, .pinned], laidTests := true, laidLooks := .later }
def FnMavenPackUptoCardSaid : Prop := Claim7.holds Tryz.pinned (.plain (OpenSpec.upto fnMavenPackSpec)) fnMavenPackUptoCard

/-- THE SECOND FORM's CARD OF 'laws.FnMavenStages'. -/
def fnMavenStagesUptoCard : Claim7 := { stood := { row := fnMavenStagesUptoRow, standIns := [], harness := (true, "77db013054401e83eac9469112a533d38a195273b3da6e98e7fcef9eceb5cca1"), looks := true }, kinds := [], alts := [], laidByText := true, laidKinds := [.data, .data, .data, .sentinel, .sentinel, .sentinel, .data, .data, .data, .data, .data, .sentinel, .data, .pinned, .pinned], laidTests := true, laidLooks := .later }
def FnMavenStagesUptoCardSaid : Prop := Claim7.holds Tryz.pinned (.plain (OpenSpec.upto fnMavenStagesSpec)) fnMavenStagesUptoCard

/-- THE SECOND FORM's CARD OF 'laws.FnMavenBack'. -/
def fnMavenBackUptoCard : Claim7 := { stood := { row := fnMavenBackUptoRow, standIns := [], harness := (true, "77db013054401e83eac9469112a533d38a195273b3da6e98e7fcef9eceb5cca1"), looks := true }, kinds := [], alts := [], laidByText := true, laidKinds := [.data, .data, .data, .sentinel, .sentinel, .sentinel, .data, .data, .data, .data, .data, .sentinel, .data, .pinned, .pinned], laidTests := true, laidLooks := .later }
def FnMavenBackUptoCardSaid : Prop := Claim7.holds Tryz.pinned (.plain (OpenSpec.upto fnMavenBackSpec)) fnMavenBackUptoCard

/-- THE SECOND FORM's CARD OF 'laws.FnMavenCase'. -/
def fnMavenCaseUptoCard : Claim7 := { stood := { row := fnMavenCaseUptoRow, standIns := [], harness := (true, "77db013054401e83eac9469112a533d38a195273b3da6e98e7fcef9eceb5cca1"), looks := true }, kinds := [], alts := [], laidByText := true, laidKinds := [.data, .data, .data, .sentinel, .sentinel, .sentinel, .data, .data, .data, .data, .data, .sentinel, .data, .pinned, .pinned], laidTests := true, laidLooks := .later }
def FnMavenCaseUptoCardSaid : Prop := Claim7.holds Tryz.pinned (.plain (OpenSpec.upto fnMavenCaseSpec)) fnMavenCaseUptoCard

/-- THE SECOND FORM's CARD OF 'laws.FnMavenTails'. -/
def fnMavenTailsUptoCard : Claim7 := { stood := { row := fnMavenTailsUptoRow, standIns := [], harness := (true, "77db013054401e83eac9469112a533d38a195273b3da6e98e7fcef9eceb5cca1"), looks := true }, kinds := [], alts := [], laidByText := true, laidKinds := [.data, .data, .data, .sentinel, .sentinel, .sentinel, .data, .data, .data, .data, .data, .sentinel, .data, .pinned, .pinned], laidTests := true, laidLooks := .later }
def FnMavenTailsUptoCardSaid : Prop := Claim7.holds Tryz.pinned (.plain (OpenSpec.upto fnMavenTailsSpec)) fnMavenTailsUptoCard

/-- THE SECOND FORM's CARD OF 'laws.FnMavenZeros'. -/
def fnMavenZerosUptoCard : Claim7 := { stood := { row := fnMavenZerosUptoRow, standIns := [], harness := (true, "77db013054401e83eac9469112a533d38a195273b3da6e98e7fcef9eceb5cca1"), looks := true }, kinds := [], alts := [], laidByText := true, laidKinds := [.data, .data, .data, .sentinel, .sentinel, .sentinel, .data, .data, .data, .data, .data, .sentinel, .data, .pinned, .pinned], laidTests := true, laidLooks := .later }
def FnMavenZerosUptoCardSaid : Prop := Claim7.holds Tryz.pinned (.plain (OpenSpec.upto fnMavenZerosSpec)) fnMavenZerosUptoCard

/-- THE SECOND FORM's CARD OF 'laws.FnMavenTexts'. -/
def fnMavenTextsUptoCard : Claim7 := { stood := { row := fnMavenTextsUptoRow, standIns := [], harness := (true, "77db013054401e83eac9469112a533d38a195273b3da6e98e7fcef9eceb5cca1"), looks := true }, kinds := [], alts := [], laidByText := true, laidKinds := [.data, .data, .data, .sentinel, .sentinel, .sentinel, .data, .data, .data, .data, .data, .sentinel, .data, .pinned, .pinned], laidTests := true, laidLooks := .later }
def FnMavenTextsUptoCardSaid : Prop := Claim7.holds Tryz.pinned (.plain (OpenSpec.upto fnMavenTextsSpec)) fnMavenTextsUptoCard
end Rows
end Go.Proofs.YtcehboopgjpfcaaGreatDoor
