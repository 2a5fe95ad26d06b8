/-
  DERIVED. GIVEN WITH THE SEED: THE CARDS: each row of YtgfcnjfmmjcodaaGreatDoorRows.lean that lists a variable, with what it lists TIED to the program's text (the seventh form; the later family's looks); each row that meets fmt, with fmt's text TOLD by the authors' own Lean function (tested against real Go, not proved from fmt's source: count such statements apart). THE CARD IS WHAT COUNTS. Prove the row's statement (the work); the ties are given (YtgfcnjfmmjcodaaGreatDoorTie.lean); close each card by the builder's one call (the guide's Derived/Test/ToyasCard.lean, 'card_holds'). Laid BY PROGRAM, IN A SANDBOX (cutbox-door.mjs). By AI agents, Wed Nov 11 2026. No macro, syntax, notation, axiom, sorry.
-/
import Derived.Test.YtgfcnjfmmjcodaaGreatDoorRows
import GoSem.ClaimSeven
namespace Go.Proofs.YtgfcnjfmmjcodaaGreatDoor
namespace Rows

/-- THE TIED CARD OF 'laws.FnChangedByteIsTold'. -/
def fnChangedByteIsToldCard : Claim7 := { stood := { row := fnChangedByteIsToldRow, standIns := [], harness := (true, "0a0c440cede22fa96e2efa1dfc427ce8b372a90e285fe9a5413f180d89f25b83"), looks := true }, kinds := [], alts := [], laidByText := true, laidKinds := [.data, .data, .data, .data, .sentinel, .sentinel, .sentinel, .sentinel, .sentinel, .sentinel, .sentinel, .sentinel, .sentinel, .sentinel, .sentinel, .sentinel, .pinned], laidTests := true, laidLooks := .later }
def FnChangedByteIsToldCardSaid : Prop := Claim7.holds Tryz.pinned (.plain (OpenSpec.ofChange fnChangedByteIsToldSpec)) fnChangedByteIsToldCard

/-- THE TIED CARD OF 'laws.FnSparseSteps'. -/
def fnSparseStepsCard : Claim7 := { stood := { row := fnSparseStepsRow, standIns := [], harness := (true, "0a0c440cede22fa96e2efa1dfc427ce8b372a90e285fe9a5413f180d89f25b83"), looks := true }, kinds := [], alts := [], laidByText := true, laidKinds := [.data, .data, .data, .data, .sentinel, .sentinel, .sentinel, .sentinel, .sentinel, .sentinel, .sentinel, .sentinel, .sentinel, .sentinel, .sentinel, .sentinel, .pinned], laidTests := true, laidLooks := .later }
def FnSparseStepsCardSaid : Prop := Claim7.holds Tryz.pinned (.plain (OpenSpec.ofChange fnSparseStepsSpec)) fnSparseStepsCard

/-- THE TIED CARD OF 'laws.FnSteps'. -/
def fnStepsCard : Claim7 := { stood := { row := fnStepsRow, standIns := [], harness := (true, "0a0c440cede22fa96e2efa1dfc427ce8b372a90e285fe9a5413f180d89f25b83"), looks := true }, kinds := [], alts := [], laidByText := true, laidKinds := [.data, .data, .data, .data, .sentinel, .sentinel, .sentinel, .sentinel, .sentinel, .sentinel, .sentinel, .sentinel, .sentinel, .sentinel, .sentinel, .sentinel, .pinned], laidTests := true, laidLooks := .later }
def FnStepsCardSaid : Prop := Claim7.holds Tryz.pinned (.plain (OpenSpec.ofChange fnStepsSpec)) fnStepsCard

/-- THE TIED CARD OF 'laws.FnBehindTheEnd'. -/
def fnBehindTheEndCard : Claim7 := { stood := { row := fnBehindTheEndRow, standIns := [], harness := (true, "0a0c440cede22fa96e2efa1dfc427ce8b372a90e285fe9a5413f180d89f25b83"), looks := true }, kinds := [], alts := [], laidByText := true, laidKinds := [.data, .data, .data, .data, .sentinel, .sentinel, .sentinel, .sentinel, .sentinel, .sentinel, .sentinel, .sentinel, .sentinel, .sentinel, .sentinel, .sentinel, .pinned], laidTests := true, laidLooks := .later }
def FnBehindTheEndCardSaid : Prop := Claim7.holds Tryz.pinned (.plain (OpenSpec.ofChange fnBehindTheEndSpec)) fnBehindTheEndCard

/-- THE TIED CARD OF 'laws.FnCutIsTold'. -/
def fnCutIsToldCard : Claim7 := { stood := { row := fnCutIsToldRow, standIns := [], harness := (true, "0a0c440cede22fa96e2efa1dfc427ce8b372a90e285fe9a5413f180d89f25b83"), looks := true }, kinds := [], alts := [], laidByText := true, laidKinds := [.data, .data, .data, .data, .sentinel, .sentinel, .sentinel, .sentinel, .sentinel, .sentinel, .sentinel, .sentinel, .sentinel, .sentinel, .sentinel, .sentinel, .pinned], laidTests := true, laidLooks := .later }
def FnCutIsToldCardSaid : Prop := Claim7.holds Tryz.pinned (.plain (OpenSpec.ofChange fnCutIsToldSpec)) fnCutIsToldCard

/-- THE TIED CARD OF 'laws.FnEncodedIsRead'. -/
def fnEncodedIsReadCard : Claim7 := { stood := { row := fnEncodedIsReadRow, standIns := [], harness := (true, "0a0c440cede22fa96e2efa1dfc427ce8b372a90e285fe9a5413f180d89f25b83"), looks := true }, kinds := [], alts := [], laidByText := true, laidKinds := [.data, .data, .data, .data, .sentinel, .sentinel, .sentinel, .sentinel, .sentinel, .sentinel, .sentinel, .sentinel, .sentinel, .sentinel, .sentinel, .sentinel, .pinned], laidTests := true, laidLooks := .later }
def FnEncodedIsReadCardSaid : Prop := Claim7.holds Tryz.pinned (.plain (OpenSpec.ofChange fnEncodedIsReadSpec)) fnEncodedIsReadCard

/-- THE TIED CARD OF 'laws.FnSparseIsRead'. -/
def fnSparseIsReadCard : Claim7 := { stood := { row := fnSparseIsReadRow, standIns := [], harness := (true, "0a0c440cede22fa96e2efa1dfc427ce8b372a90e285fe9a5413f180d89f25b83"), looks := true }, kinds := [], alts := [], laidByText := true, laidKinds := [.data, .data, .data, .data, .sentinel, .sentinel, .sentinel, .sentinel, .sentinel, .sentinel, .sentinel, .sentinel, .sentinel, .sentinel, .sentinel, .sentinel, .pinned], laidTests := true, laidLooks := .later }
def FnSparseIsReadCardSaid : Prop := Claim7.holds Tryz.pinned (.plain (OpenSpec.ofChange fnSparseIsReadSpec)) fnSparseIsReadCard

/-- THE TIED CARD OF 'laws.FnSparseRoadsAgree'. -/
def fnSparseRoadsAgreeCard : Claim7 := { stood := { row := fnSparseRoadsAgreeRow, standIns := [], harness := (true, "0a0c440cede22fa96e2efa1dfc427ce8b372a90e285fe9a5413f180d89f25b83"), looks := true }, kinds := [], alts := [], laidByText := true, laidKinds := [.data, .data, .data, .data, .sentinel, .sentinel, .sentinel, .sentinel, .sentinel, .sentinel, .sentinel, .sentinel, .sentinel, .sentinel, .sentinel, .sentinel, .pinned], laidTests := true, laidLooks := .later }
def FnSparseRoadsAgreeCardSaid : Prop := Claim7.holds Tryz.pinned (.plain (OpenSpec.ofChange fnSparseRoadsAgreeSpec)) fnSparseRoadsAgreeCard

/-- THE TIED CARD OF 'laws.FnSlowAgrees'. -/
def fnSlowAgreesCard : Claim7 := { stood := { row := fnSlowAgreesRow, standIns := [], harness := (true, "0a0c440cede22fa96e2efa1dfc427ce8b372a90e285fe9a5413f180d89f25b83"), looks := true }, kinds := [], alts := [], laidByText := true, laidKinds := [.data, .data, .data, .data, .sentinel, .sentinel, .sentinel, .sentinel, .sentinel, .sentinel, .sentinel, .sentinel, .sentinel, .sentinel, .sentinel, .sentinel, .pinned], laidTests := true, laidLooks := .later }
def FnSlowAgreesCardSaid : Prop := Claim7.holds Tryz.pinned (.plain (OpenSpec.ofChange fnSlowAgreesSpec)) fnSlowAgreesCard

/-- THE TIED CARD OF 'laws.FnHead'. -/
def fnHeadCard : Claim7 := { stood := { row := fnHeadRow, standIns := [], harness := (true, "0a0c440cede22fa96e2efa1dfc427ce8b372a90e285fe9a5413f180d89f25b83"), looks := true }, kinds := [], alts := [], laidByText := true, laidKinds := [.data, .data, .data, .sentinel, .sentinel, .sentinel, .sentinel, .sentinel, .sentinel, .sentinel, .mapped], laidTests := true, laidLooks := .later }
def FnHeadCardSaid : Prop := Claim7.holds Tryz.pinned (.plain (OpenSpec.ofChange fnHeadSpec)) fnHeadCard

/-- THE TIED CARD OF 'laws.FnWrittenIsStandard'. -/
def fnWrittenIsStandardCard : Claim7 := { stood := { row := fnWrittenIsStandardRow, standIns := [], harness := (true, "0a0c440cede22fa96e2efa1dfc427ce8b372a90e285fe9a5413f180d89f25b83"), looks := true }, kinds := [], alts := [], laidByText := true, laidKinds := [.data, .data, .data, .sentinel, .sentinel, .sentinel, .sentinel, .sentinel, .sentinel, .sentinel, .mapped], laidTests := true, laidLooks := .later }
def FnWrittenIsStandardCardSaid : Prop := Claim7.holds Tryz.pinned (.plain (OpenSpec.ofChange fnWrittenIsStandardSpec)) fnWrittenIsStandardCard

/-- THE SECOND FORM's CARD OF 'laws.FnChangedByteIsTold'. -/
def fnChangedByteIsToldUptoCard : Claim7 := { stood := { row := fnChangedByteIsToldUptoRow, standIns := [], harness := (true, "0a0c440cede22fa96e2efa1dfc427ce8b372a90e285fe9a5413f180d89f25b83"), looks := true }, kinds := [], alts := [], laidByText := true, laidKinds := [.data, .data, .data, .data, .sentinel, .sentinel, .sentinel, .sentinel, .sentinel, .sentinel, .sentinel, .sentinel, .sentinel, .sentinel, .sentinel, .sentinel, .pinned], laidTests := true, laidLooks := .later }
def FnChangedByteIsToldUptoCardSaid : Prop := Claim7.holds Tryz.pinned (.plain (OpenSpec.upto fnChangedByteIsToldSpec)) fnChangedByteIsToldUptoCard

/-- THE SECOND FORM's CARD OF 'laws.FnSparseSteps'. -/
def fnSparseStepsUptoCard : Claim7 := { stood := { row := fnSparseStepsUptoRow, standIns := [], harness := (true, "0a0c440cede22fa96e2efa1dfc427ce8b372a90e285fe9a5413f180d89f25b83"), looks := true }, kinds := [], alts := [], laidByText := true, laidKinds := [.data, .data, .data, .data, .sentinel, .sentinel, .sentinel, .sentinel, .sentinel, .sentinel, .sentinel, .sentinel, .sentinel, .sentinel, .sentinel, .sentinel, .pinned], laidTests := true, laidLooks := .later }
def FnSparseStepsUptoCardSaid : Prop := Claim7.holds Tryz.pinned (.plain (OpenSpec.upto fnSparseStepsSpec)) fnSparseStepsUptoCard

/-- THE SECOND FORM's CARD OF 'laws.FnSteps'. -/
def fnStepsUptoCard : Claim7 := { stood := { row := fnStepsUptoRow, standIns := [], harness := (true, "0a0c440cede22fa96e2efa1dfc427ce8b372a90e285fe9a5413f180d89f25b83"), looks := true }, kinds := [], alts := [], laidByText := true, laidKinds := [.data, .data, .data, .data, .sentinel, .sentinel, .sentinel, .sentinel, .sentinel, .sentinel, .sentinel, .sentinel, .sentinel, .sentinel, .sentinel, .sentinel, .pinned], laidTests := true, laidLooks := .later }
def FnStepsUptoCardSaid : Prop := Claim7.holds Tryz.pinned (.plain (OpenSpec.upto fnStepsSpec)) fnStepsUptoCard

/-- THE SECOND FORM's CARD OF 'laws.FnBehindTheEnd'. -/
def fnBehindTheEndUptoCard : Claim7 := { stood := { row := fnBehindTheEndUptoRow, standIns := [], harness := (true, "0a0c440cede22fa96e2efa1dfc427ce8b372a90e285fe9a5413f180d89f25b83"), looks := true }, kinds := [], alts := [], laidByText := true, laidKinds := [.data, .data, .data, .data, .sentinel, .sentinel, .sentinel, .sentinel, .sentinel, .sentinel, .sentinel, .sentinel, .sentinel, .sentinel, .sentinel, .sentinel, .pinned], laidTests := true, laidLooks := .later }
def FnBehindTheEndUptoCardSaid : Prop := Claim7.holds Tryz.pinned (.plain (OpenSpec.upto fnBehindTheEndSpec)) fnBehindTheEndUptoCard

/-- THE SECOND FORM's CARD OF 'laws.FnCutIsTold'. -/
def fnCutIsToldUptoCard : Claim7 := { stood := { row := fnCutIsToldUptoRow, standIns := [], harness := (true, "0a0c440cede22fa96e2efa1dfc427ce8b372a90e285fe9a5413f180d89f25b83"), looks := true }, kinds := [], alts := [], laidByText := true, laidKinds := [.data, .data, .data, .data, .sentinel, .sentinel, .sentinel, .sentinel, .sentinel, .sentinel, .sentinel, .sentinel, .sentinel, .sentinel, .sentinel, .sentinel, .pinned], laidTests := true, laidLooks := .later }
def FnCutIsToldUptoCardSaid : Prop := Claim7.holds Tryz.pinned (.plain (OpenSpec.upto fnCutIsToldSpec)) fnCutIsToldUptoCard

/-- THE SECOND FORM's CARD OF 'laws.FnEncodedIsRead'. -/
def fnEncodedIsReadUptoCard : Claim7 := { stood := { row := fnEncodedIsReadUptoRow, standIns := [], harness := (true, "0a0c440cede22fa96e2efa1dfc427ce8b372a90e285fe9a5413f180d89f25b83"), looks := true }, kinds := [], alts := [], laidByText := true, laidKinds := [.data, .data, .data, .data, .sentinel, .sentinel, .sentinel, .sentinel, .sentinel, .sentinel, .sentinel, .sentinel, .sentinel, .sentinel, .sentinel, .sentinel, .pinned], laidTests := true, laidLooks := .later }
def FnEncodedIsReadUptoCardSaid : Prop := Claim7.holds Tryz.pinned (.plain (OpenSpec.upto fnEncodedIsReadSpec)) fnEncodedIsReadUptoCard

/-- THE SECOND FORM's CARD OF 'laws.FnSparseIsRead'. -/
def fnSparseIsReadUptoCard : Claim7 := { stood := { row := fnSparseIsReadUptoRow, standIns := [], harness := (true, "0a0c440cede22fa96e2efa1dfc427ce8b372a90e285fe9a5413f180d89f25b83"), looks := true }, kinds := [], alts := [], laidByText := true, laidKinds := [.data, .data, .data, .data, .sentinel, .sentinel, .sentinel, .sentinel, .sentinel, .sentinel, .sentinel, .sentinel, .sentinel, .sentinel, .sentinel, .sentinel, .pinned], laidTests := true, laidLooks := .later }
def FnSparseIsReadUptoCardSaid : Prop := Claim7.holds Tryz.pinned (.plain (OpenSpec.upto fnSparseIsReadSpec)) fnSparseIsReadUptoCard

/-- THE SECOND FORM's CARD OF 'laws.FnSparseRoadsAgree'. -/
def fnSparseRoadsAgreeUptoCard : Claim7 := { stood := { row := fnSparseRoadsAgreeUptoRow, standIns := [], harness := (true, "0a0c440cede22fa96e2efa1dfc427ce8b372a90e285fe9a5413f180d89f25b83"), looks := true }, kinds := [], alts := [], laidByText := true, laidKinds := [.data, .data, .data, .data, .sentinel, .sentinel, .sentinel, .sentinel, .sentinel, .sentinel, .sentinel, .sentinel, .sentinel, .sentinel, .sentinel, .sentinel, .pinned], laidTests := true, laidLooks := .later }
def FnSparseRoadsAgreeUptoCardSaid : Prop := Claim7.holds Tryz.pinned (.plain (OpenSpec.upto fnSparseRoadsAgreeSpec)) fnSparseRoadsAgreeUptoCard

/-- THE SECOND FORM's CARD OF 'laws.FnSlowAgrees'. -/
def fnSlowAgreesUptoCard : Claim7 := { stood := { row := fnSlowAgreesUptoRow, standIns := [], harness := (true, "0a0c440cede22fa96e2efa1dfc427ce8b372a90e285fe9a5413f180d89f25b83"), looks := true }, kinds := [], alts := [], laidByText := true, laidKinds := [.data, .data, .data, .data, .sentinel, .sentinel, .sentinel, .sentinel, .sentinel, .sentinel, .sentinel, .sentinel, .sentinel, .sentinel, .sentinel, .sentinel, .pinned], laidTests := true, laidLooks := .later }
def FnSlowAgreesUptoCardSaid : Prop := Claim7.holds Tryz.pinned (.plain (OpenSpec.upto fnSlowAgreesSpec)) fnSlowAgreesUptoCard

/-- THE SECOND FORM's CARD OF 'laws.FnHead'. -/
def fnHeadUptoCard : Claim7 := { stood := { row := fnHeadUptoRow, standIns := [], harness := (true, "0a0c440cede22fa96e2efa1dfc427ce8b372a90e285fe9a5413f180d89f25b83"), looks := true }, kinds := [], alts := [], laidByText := true, laidKinds := [.data, .data, .data, .sentinel, .sentinel, .sentinel, .sentinel, .sentinel, .sentinel, .sentinel, .mapped], laidTests := true, laidLooks := .later }
def FnHeadUptoCardSaid : Prop := Claim7.holds Tryz.pinned (.plain (OpenSpec.upto fnHeadSpec)) fnHeadUptoCard

/-- THE SECOND FORM's CARD OF 'laws.FnWrittenIsStandard'. -/
def fnWrittenIsStandardUptoCard : Claim7 := { stood := { row := fnWrittenIsStandardUptoRow, standIns := [], harness := (true, "0a0c440cede22fa96e2efa1dfc427ce8b372a90e285fe9a5413f180d89f25b83"), looks := true }, kinds := [], alts := [], laidByText := true, laidKinds := [.data, .data, .data, .sentinel, .sentinel, .sentinel, .sentinel, .sentinel, .sentinel, .sentinel, .mapped], laidTests := true, laidLooks := .later }
def FnWrittenIsStandardUptoCardSaid : Prop := Claim7.holds Tryz.pinned (.plain (OpenSpec.upto fnWrittenIsStandardSpec)) fnWrittenIsStandardUptoCard
end Rows
end Go.Proofs.YtgfcnjfmmjcodaaGreatDoor
