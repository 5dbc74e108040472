/-
  DERIVED. GIVEN WITH THE SEED: THE CARDS: each row of YtogmacnlpclgkaaGreatDoorRows.lean that lists a variable, with what it lists TIED to the program's text (the seventh form; the later family's looks); each row that meets fmt, with fmt's text TOLD by the authors' own Lean function (tested against real Go, not proved from fmt's source: count such statements apart). THE CARD IS WHAT COUNTS. Prove the row's statement (the work); the ties are given (YtogmacnlpclgkaaGreatDoorTie.lean); close each card by the builder's one call (the guide's Derived/Test/ToyasCard.lean, 'card_holds'). Laid BY PROGRAM, IN A SANDBOX (cutbox-door.mjs). By AI agents, Wed Nov 11 2026. No macro, syntax, notation, axiom, sorry.
-/
import Derived.Test.YtogmacnlpclgkaaGreatDoorRows
import GoSem.ClaimSeven
namespace Go.Proofs.YtogmacnlpclgkaaGreatDoor
namespace Rows

/-- THE TIED CARD OF 'laws.FnBlock'. -/
def fnBlockCard : Claim7 := { stood := { row := fnBlockRow, standIns := [], harness := (true, "a4e2d0f8ca07f40ee442c0488ba0ea123c14fabc3d6a6377cb6edbf0ffac5576"), looks := true }, kinds := [], alts := [], laidByText := true, laidKinds := [.sentinel, .sentinel, .sentinel, .data, .data, .data], laidTests := true, laidLooks := .later }
def FnBlockCardSaid : Prop := Claim7.holds Tryz.pinned (.plain (OpenSpec.ofChange fnBlockSpec)) fnBlockCard

/-- THE TIED CARD OF 'laws.FnCutBetweenFrames'. -/
def fnCutBetweenFramesCard : Claim7 := { stood := { row := fnCutBetweenFramesRow, standIns := [], harness := (true, "a4e2d0f8ca07f40ee442c0488ba0ea123c14fabc3d6a6377cb6edbf0ffac5576"), looks := true }, kinds := [], alts := [], laidByText := true, laidKinds := [.sentinel, .sentinel, .sentinel, .data, .data, .data], laidTests := true, laidLooks := .later }
def FnCutBetweenFramesCardSaid : Prop := Claim7.holds Tryz.pinned (.plain (OpenSpec.ofChange fnCutBetweenFramesSpec)) fnCutBetweenFramesCard

/-- THE TIED CARD OF 'laws.FnCutIsTold'. -/
def fnCutIsToldCard : Claim7 := { stood := { row := fnCutIsToldRow, standIns := [], harness := (true, "a4e2d0f8ca07f40ee442c0488ba0ea123c14fabc3d6a6377cb6edbf0ffac5576"), looks := true }, kinds := [], alts := [], laidByText := true, laidKinds := [.sentinel, .sentinel, .sentinel, .data, .data, .data], laidTests := true, laidLooks := .later }
def FnCutIsToldCardSaid : Prop := Claim7.holds Tryz.pinned (.plain (OpenSpec.ofChange fnCutIsToldSpec)) fnCutIsToldCard

/-- THE TIED CARD OF 'laws.FnFramesAddUp'. -/
def fnFramesAddUpCard : Claim7 := { stood := { row := fnFramesAddUpRow, standIns := [], harness := (true, "a4e2d0f8ca07f40ee442c0488ba0ea123c14fabc3d6a6377cb6edbf0ffac5576"), looks := true }, kinds := [], alts := [], laidByText := true, laidKinds := [.sentinel, .sentinel, .sentinel, .data, .data, .data], laidTests := true, laidLooks := .later }
def FnFramesAddUpCardSaid : Prop := Claim7.holds Tryz.pinned (.plain (OpenSpec.ofChange fnFramesAddUpSpec)) fnFramesAddUpCard

/-- THE TIED CARD OF 'laws.FnHeadersAgree'. -/
def fnHeadersAgreeCard : Claim7 := { stood := { row := fnHeadersAgreeRow, standIns := [], harness := (true, "a4e2d0f8ca07f40ee442c0488ba0ea123c14fabc3d6a6377cb6edbf0ffac5576"), looks := true }, kinds := [], alts := [], laidByText := true, laidKinds := [.sentinel, .sentinel, .sentinel, .data, .data, .data], laidTests := true, laidLooks := .later }
def FnHeadersAgreeCardSaid : Prop := Claim7.holds Tryz.pinned (.plain (OpenSpec.ofChange fnHeadersAgreeSpec)) fnHeadersAgreeCard

/-- THE TIED CARD OF 'laws.FnRead'. -/
def fnReadCard : Claim7 := { stood := { row := fnReadRow, standIns := [], harness := (true, "a4e2d0f8ca07f40ee442c0488ba0ea123c14fabc3d6a6377cb6edbf0ffac5576"), looks := true }, kinds := [], alts := [], laidByText := true, laidKinds := [.sentinel, .sentinel, .sentinel, .data, .data, .data], laidTests := true, laidLooks := .later }
def FnReadCardSaid : Prop := Claim7.holds Tryz.pinned (.plain (OpenSpec.ofChange fnReadSpec)) fnReadCard

/-- THE TIED CARD OF 'laws.FnSkippedAddsNothing'. -/
def fnSkippedAddsNothingCard : Claim7 := { stood := { row := fnSkippedAddsNothingRow, standIns := [], harness := (true, "a4e2d0f8ca07f40ee442c0488ba0ea123c14fabc3d6a6377cb6edbf0ffac5576"), looks := true }, kinds := [], alts := [], laidByText := true, laidKinds := [.sentinel, .sentinel, .sentinel, .data, .data, .data], laidTests := true, laidLooks := .later }
def FnSkippedAddsNothingCardSaid : Prop := Claim7.holds Tryz.pinned (.plain (OpenSpec.ofChange fnSkippedAddsNothingSpec)) fnSkippedAddsNothingCard

/-- THE TIED CARD OF 'laws.FnBytesAgree'. -/
def fnBytesAgreeCard : Claim7 := { stood := { row := fnBytesAgreeRow, standIns := [], harness := (true, "a4e2d0f8ca07f40ee442c0488ba0ea123c14fabc3d6a6377cb6edbf0ffac5576"), looks := true }, kinds := [], alts := [], laidByText := true, laidKinds := [.sentinel, .sentinel, .sentinel, .data, .data, .data], laidTests := true, laidLooks := .later }
def FnBytesAgreeCardSaid : Prop := Claim7.holds Tryz.pinned (.plain (OpenSpec.ofChange fnBytesAgreeSpec)) fnBytesAgreeCard

/-- THE TIED CARD OF 'laws.FnPiecesAgree'. -/
def fnPiecesAgreeCard : Claim7 := { stood := { row := fnPiecesAgreeRow, standIns := [], harness := (true, "a4e2d0f8ca07f40ee442c0488ba0ea123c14fabc3d6a6377cb6edbf0ffac5576"), looks := true }, kinds := [], alts := [], laidByText := true, laidKinds := [.sentinel, .sentinel, .sentinel, .data, .data, .data], laidTests := true, laidLooks := .later }
def FnPiecesAgreeCardSaid : Prop := Claim7.holds Tryz.pinned (.plain (OpenSpec.ofChange fnPiecesAgreeSpec)) fnPiecesAgreeCard

/-- THE TIED CARD OF 'laws.FnWrongIsToldInPieces'. -/
def fnWrongIsToldInPiecesCard : Claim7 := { stood := { row := fnWrongIsToldInPiecesRow, standIns := [], harness := (true, "a4e2d0f8ca07f40ee442c0488ba0ea123c14fabc3d6a6377cb6edbf0ffac5576"), looks := true }, kinds := [], alts := [], laidByText := true, laidKinds := [.sentinel, .sentinel, .sentinel, .data, .data, .data], laidTests := true, laidLooks := .later }
def FnWrongIsToldInPiecesCardSaid : Prop := Claim7.holds Tryz.pinned (.plain (OpenSpec.ofChange fnWrongIsToldInPiecesSpec)) fnWrongIsToldInPiecesCard

/-- THE TIED CARD OF 'laws.FnSlowAgrees'. -/
def fnSlowAgreesCard : Claim7 := { stood := { row := fnSlowAgreesRow, standIns := [], harness := (true, "a4e2d0f8ca07f40ee442c0488ba0ea123c14fabc3d6a6377cb6edbf0ffac5576"), looks := true }, kinds := [], alts := [], laidByText := true, laidKinds := [.sentinel, .sentinel, .sentinel, .data, .data, .data], laidTests := true, laidLooks := .later }
def FnSlowAgreesCardSaid : Prop := Claim7.holds Tryz.pinned (.plain (OpenSpec.ofChange fnSlowAgreesSpec)) fnSlowAgreesCard

/-- THE TIED CARD OF 'laws.FnResetForgets'. -/
def fnResetForgetsCard : Claim7 := { stood := { row := fnResetForgetsRow, standIns := [], harness := (true, "a4e2d0f8ca07f40ee442c0488ba0ea123c14fabc3d6a6377cb6edbf0ffac5576"), looks := true }, kinds := [], alts := [], laidByText := true, laidKinds := [.sentinel, .sentinel, .sentinel, .data, .data, .data], laidTests := true, laidLooks := .later }
def FnResetForgetsCardSaid : Prop := Claim7.holds Tryz.pinned (.plain (OpenSpec.ofChange fnResetForgetsSpec)) fnResetForgetsCard

/-- THE SECOND FORM's CARD OF 'laws.FnBlock'. -/
def fnBlockUptoCard : Claim7 := { stood := { row := fnBlockUptoRow, standIns := [], harness := (true, "a4e2d0f8ca07f40ee442c0488ba0ea123c14fabc3d6a6377cb6edbf0ffac5576"), looks := true }, kinds := [], alts := [], laidByText := true, laidKinds := [.sentinel, .sentinel, .sentinel, .data, .data, .data], laidTests := true, laidLooks := .later }
def FnBlockUptoCardSaid : Prop := Claim7.holds Tryz.pinned (.plain (OpenSpec.upto fnBlockSpec)) fnBlockUptoCard

/-- THE SECOND FORM's CARD OF 'laws.FnCutBetweenFrames'. -/
def fnCutBetweenFramesUptoCard : Claim7 := { stood := { row := fnCutBetweenFramesUptoRow, standIns := [], harness := (true, "a4e2d0f8ca07f40ee442c0488ba0ea123c14fabc3d6a6377cb6edbf0ffac5576"), looks := true }, kinds := [], alts := [], laidByText := true, laidKinds := [.sentinel, .sentinel, .sentinel, .data, .data, .data], laidTests := true, laidLooks := .later }
def FnCutBetweenFramesUptoCardSaid : Prop := Claim7.holds Tryz.pinned (.plain (OpenSpec.upto fnCutBetweenFramesSpec)) fnCutBetweenFramesUptoCard

/-- THE SECOND FORM's CARD OF 'laws.FnCutIsTold'. -/
def fnCutIsToldUptoCard : Claim7 := { stood := { row := fnCutIsToldUptoRow, standIns := [], harness := (true, "a4e2d0f8ca07f40ee442c0488ba0ea123c14fabc3d6a6377cb6edbf0ffac5576"), looks := true }, kinds := [], alts := [], laidByText := true, laidKinds := [.sentinel, .sentinel, .sentinel, .data, .data, .data], laidTests := true, laidLooks := .later }
def FnCutIsToldUptoCardSaid : Prop := Claim7.holds Tryz.pinned (.plain (OpenSpec.upto fnCutIsToldSpec)) fnCutIsToldUptoCard

/-- THE SECOND FORM's CARD OF 'laws.FnFramesAddUp'. -/
def fnFramesAddUpUptoCard : Claim7 := { stood := { row := fnFramesAddUpUptoRow, standIns := [], harness := (true, "a4e2d0f8ca07f40ee442c0488ba0ea123c14fabc3d6a6377cb6edbf0ffac5576"), looks := true }, kinds := [], alts := [], laidByText := true, laidKinds := [.sentinel, .sentinel, .sentinel, .data, .data, .data], laidTests := true, laidLooks := .later }
def FnFramesAddUpUptoCardSaid : Prop := Claim7.holds Tryz.pinned (.plain (OpenSpec.upto fnFramesAddUpSpec)) fnFramesAddUpUptoCard

/-- THE SECOND FORM's CARD OF 'laws.FnHeadersAgree'. -/
def fnHeadersAgreeUptoCard : Claim7 := { stood := { row := fnHeadersAgreeUptoRow, standIns := [], harness := (true, "a4e2d0f8ca07f40ee442c0488ba0ea123c14fabc3d6a6377cb6edbf0ffac5576"), looks := true }, kinds := [], alts := [], laidByText := true, laidKinds := [.sentinel, .sentinel, .sentinel, .data, .data, .data], laidTests := true, laidLooks := .later }
def FnHeadersAgreeUptoCardSaid : Prop := Claim7.holds Tryz.pinned (.plain (OpenSpec.upto fnHeadersAgreeSpec)) fnHeadersAgreeUptoCard

/-- THE SECOND FORM's CARD OF 'laws.FnRead'. -/
def fnReadUptoCard : Claim7 := { stood := { row := fnReadUptoRow, standIns := [], harness := (true, "a4e2d0f8ca07f40ee442c0488ba0ea123c14fabc3d6a6377cb6edbf0ffac5576"), looks := true }, kinds := [], alts := [], laidByText := true, laidKinds := [.sentinel, .sentinel, .sentinel, .data, .data, .data], laidTests := true, laidLooks := .later }
def FnReadUptoCardSaid : Prop := Claim7.holds Tryz.pinned (.plain (OpenSpec.upto fnReadSpec)) fnReadUptoCard

/-- THE SECOND FORM's CARD OF 'laws.FnSkippedAddsNothing'. -/
def fnSkippedAddsNothingUptoCard : Claim7 := { stood := { row := fnSkippedAddsNothingUptoRow, standIns := [], harness := (true, "a4e2d0f8ca07f40ee442c0488ba0ea123c14fabc3d6a6377cb6edbf0ffac5576"), looks := true }, kinds := [], alts := [], laidByText := true, laidKinds := [.sentinel, .sentinel, .sentinel, .data, .data, .data], laidTests := true, laidLooks := .later }
def FnSkippedAddsNothingUptoCardSaid : Prop := Claim7.holds Tryz.pinned (.plain (OpenSpec.upto fnSkippedAddsNothingSpec)) fnSkippedAddsNothingUptoCard

/-- THE SECOND FORM's CARD OF 'laws.FnBytesAgree'. -/
def fnBytesAgreeUptoCard : Claim7 := { stood := { row := fnBytesAgreeUptoRow, standIns := [], harness := (true, "a4e2d0f8ca07f40ee442c0488ba0ea123c14fabc3d6a6377cb6edbf0ffac5576"), looks := true }, kinds := [], alts := [], laidByText := true, laidKinds := [.sentinel, .sentinel, .sentinel, .data, .data, .data], laidTests := true, laidLooks := .later }
def FnBytesAgreeUptoCardSaid : Prop := Claim7.holds Tryz.pinned (.plain (OpenSpec.upto fnBytesAgreeSpec)) fnBytesAgreeUptoCard

/-- THE SECOND FORM's CARD OF 'laws.FnPiecesAgree'. -/
def fnPiecesAgreeUptoCard : Claim7 := { stood := { row := fnPiecesAgreeUptoRow, standIns := [], harness := (true, "a4e2d0f8ca07f40ee442c0488ba0ea123c14fabc3d6a6377cb6edbf0ffac5576"), looks := true }, kinds := [], alts := [], laidByText := true, laidKinds := [.sentinel, .sentinel, .sentinel, .data, .data, .data], laidTests := true, laidLooks := .later }
def FnPiecesAgreeUptoCardSaid : Prop := Claim7.holds Tryz.pinned (.plain (OpenSpec.upto fnPiecesAgreeSpec)) fnPiecesAgreeUptoCard

/-- THE SECOND FORM's CARD OF 'laws.FnWrongIsToldInPieces'. -/
def fnWrongIsToldInPiecesUptoCard : Claim7 := { stood := { row := fnWrongIsToldInPiecesUptoRow, standIns := [], harness := (true, "a4e2d0f8ca07f40ee442c0488ba0ea123c14fabc3d6a6377cb6edbf0ffac5576"), looks := true }, kinds := [], alts := [], laidByText := true, laidKinds := [.sentinel, .sentinel, .sentinel, .data, .data, .data], laidTests := true, laidLooks := .later }
def FnWrongIsToldInPiecesUptoCardSaid : Prop := Claim7.holds Tryz.pinned (.plain (OpenSpec.upto fnWrongIsToldInPiecesSpec)) fnWrongIsToldInPiecesUptoCard

/-- THE SECOND FORM's CARD OF 'laws.FnSlowAgrees'. -/
def fnSlowAgreesUptoCard : Claim7 := { stood := { row := fnSlowAgreesUptoRow, standIns := [], harness := (true, "a4e2d0f8ca07f40ee442c0488ba0ea123c14fabc3d6a6377cb6edbf0ffac5576"), looks := true }, kinds := [], alts := [], laidByText := true, laidKinds := [.sentinel, .sentinel, .sentinel, .data, .data, .data], laidTests := true, laidLooks := .later }
def FnSlowAgreesUptoCardSaid : Prop := Claim7.holds Tryz.pinned (.plain (OpenSpec.upto fnSlowAgreesSpec)) fnSlowAgreesUptoCard

/-- THE SECOND FORM's CARD OF 'laws.FnResetForgets'. -/
def fnResetForgetsUptoCard : Claim7 := { stood := { row := fnResetForgetsUptoRow, standIns := [], harness := (true, "a4e2d0f8ca07f40ee442c0488ba0ea123c14fabc3d6a6377cb6edbf0ffac5576"), looks := true }, kinds := [], alts := [], laidByText := true, laidKinds := [.sentinel, .sentinel, .sentinel, .data, .data, .data], laidTests := true, laidLooks := .later }
def FnResetForgetsUptoCardSaid : Prop := Claim7.holds Tryz.pinned (.plain (OpenSpec.upto fnResetForgetsSpec)) fnResetForgetsUptoCard
end Rows
end Go.Proofs.YtogmacnlpclgkaaGreatDoor
