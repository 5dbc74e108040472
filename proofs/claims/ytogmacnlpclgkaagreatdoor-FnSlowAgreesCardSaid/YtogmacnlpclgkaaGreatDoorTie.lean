/-
  DERIVED. GIVEN WITH THE SEED: THE PROGRAM's TIES (one call each: nine closed facts by the kernel) AND EACH ROW's TIE, after the 31st guide's Derived/Test/Toyas{Tie, Card}.lean. No idea stands in it: it is a product of the set-up. Laid BY PROGRAM, IN A SANDBOX (cutbox-door.mjs). By AI agents, Wed Nov 11 2026. No macro, syntax, notation, axiom, sorry.
-/
import Derived.Test.YtogmacnlpclgkaaGreatDoorRows
import Derived.LaidByTextLater
import Derived.SevenTiedAt
import Derived.LaidSub
import Derived.LaidOnce
namespace Go.Proofs.YtogmacnlpclgkaaGreatDoor
open Go
set_option maxRecDepth 100000
theorem seatTie1 : Tryz.prog.laidByTextLater [("io.ErrShortBuffer", Rows.laid_io_ErrShortBuffer), ("io.EOF", Rows.laid_io_EOF), ("io.ErrUnexpectedEOF", Rows.laid_io_ErrUnexpectedEOF), ("framesunpacked/pub/zstd.literalLengthBase", Rows.laid_framesunpacked_pub_zstd_literalLengthBase), ("framesunpacked/pub/zstd.matchLengthBase", Rows.laid_framesunpacked_pub_zstd_matchLengthBase), ("framesunpacked/pub/zstd.fuzzing", Rows.laid_framesunpacked_pub_zstd_fuzzing)] [.sentinel, .sentinel, .sentinel, .data, .data, .data] true :=
  Program.laidByTextLater_by_one 80 8 22 (by kernel_rfl) (by kernel_rfl) (by kernel_rfl) (by kernel_rfl) (by kernel_rfl) (by kernel_rfl) (fun _ _ => by kernel_rfl)
theorem noOwnUnsafe : Tryz.pinned.checked.prog.headLifts.contains "ownunsafe" = false := by kernel_rfl
theorem tie : Tryz.prog.laidByTextLater [("io.ErrShortBuffer", Rows.laid_io_ErrShortBuffer), ("io.EOF", Rows.laid_io_EOF), ("io.ErrUnexpectedEOF", Rows.laid_io_ErrUnexpectedEOF), ("framesunpacked/pub/zstd.literalLengthBase", Rows.laid_framesunpacked_pub_zstd_literalLengthBase), ("framesunpacked/pub/zstd.matchLengthBase", Rows.laid_framesunpacked_pub_zstd_matchLengthBase), ("framesunpacked/pub/zstd.fuzzing", Rows.laid_framesunpacked_pub_zstd_fuzzing)] [.sentinel, .sentinel, .sentinel, .data, .data, .data] true :=
  Program.laidByTextLater.sub seatTie1 ["io.ErrShortBuffer", "io.EOF", "io.ErrUnexpectedEOF", "framesunpacked/pub/zstd.literalLengthBase", "framesunpacked/pub/zstd.matchLengthBase", "framesunpacked/pub/zstd.fuzzing"] (by kernel_rfl) (by kernel_rfl)
theorem fnBlock_row_tie : Rows.fnBlockRow.laidByTextAt .later Tryz.pinned [.sentinel, .sentinel, .sentinel, .data, .data, .data] true :=
  OpenClaim.laidByTextAt_later rfl rfl tie noOwnUnsafe
theorem fnCutBetweenFrames_row_tie : Rows.fnCutBetweenFramesRow.laidByTextAt .later Tryz.pinned [.sentinel, .sentinel, .sentinel, .data, .data, .data] true :=
  OpenClaim.laidByTextAt_later rfl rfl tie noOwnUnsafe
theorem fnCutIsTold_row_tie : Rows.fnCutIsToldRow.laidByTextAt .later Tryz.pinned [.sentinel, .sentinel, .sentinel, .data, .data, .data] true :=
  OpenClaim.laidByTextAt_later rfl rfl tie noOwnUnsafe
theorem fnFramesAddUp_row_tie : Rows.fnFramesAddUpRow.laidByTextAt .later Tryz.pinned [.sentinel, .sentinel, .sentinel, .data, .data, .data] true :=
  OpenClaim.laidByTextAt_later rfl rfl tie noOwnUnsafe
theorem fnHeadersAgree_row_tie : Rows.fnHeadersAgreeRow.laidByTextAt .later Tryz.pinned [.sentinel, .sentinel, .sentinel, .data, .data, .data] true :=
  OpenClaim.laidByTextAt_later rfl rfl tie noOwnUnsafe
theorem fnRead_row_tie : Rows.fnReadRow.laidByTextAt .later Tryz.pinned [.sentinel, .sentinel, .sentinel, .data, .data, .data] true :=
  OpenClaim.laidByTextAt_later rfl rfl tie noOwnUnsafe
theorem fnSkippedAddsNothing_row_tie : Rows.fnSkippedAddsNothingRow.laidByTextAt .later Tryz.pinned [.sentinel, .sentinel, .sentinel, .data, .data, .data] true :=
  OpenClaim.laidByTextAt_later rfl rfl tie noOwnUnsafe
theorem fnBytesAgree_row_tie : Rows.fnBytesAgreeRow.laidByTextAt .later Tryz.pinned [.sentinel, .sentinel, .sentinel, .data, .data, .data] true :=
  OpenClaim.laidByTextAt_later rfl rfl tie noOwnUnsafe
theorem fnPiecesAgree_row_tie : Rows.fnPiecesAgreeRow.laidByTextAt .later Tryz.pinned [.sentinel, .sentinel, .sentinel, .data, .data, .data] true :=
  OpenClaim.laidByTextAt_later rfl rfl tie noOwnUnsafe
theorem fnWrongIsToldInPieces_row_tie : Rows.fnWrongIsToldInPiecesRow.laidByTextAt .later Tryz.pinned [.sentinel, .sentinel, .sentinel, .data, .data, .data] true :=
  OpenClaim.laidByTextAt_later rfl rfl tie noOwnUnsafe
theorem fnSlowAgrees_row_tie : Rows.fnSlowAgreesRow.laidByTextAt .later Tryz.pinned [.sentinel, .sentinel, .sentinel, .data, .data, .data] true :=
  OpenClaim.laidByTextAt_later rfl rfl tie noOwnUnsafe
theorem fnResetForgets_row_tie : Rows.fnResetForgetsRow.laidByTextAt .later Tryz.pinned [.sentinel, .sentinel, .sentinel, .data, .data, .data] true :=
  OpenClaim.laidByTextAt_later rfl rfl tie noOwnUnsafe
theorem fnBlockUpto_row_tie : Rows.fnBlockUptoRow.laidByTextAt .later Tryz.pinned [.sentinel, .sentinel, .sentinel, .data, .data, .data] true :=
  OpenClaim.laidByTextAt_later rfl rfl tie noOwnUnsafe
theorem fnCutBetweenFramesUpto_row_tie : Rows.fnCutBetweenFramesUptoRow.laidByTextAt .later Tryz.pinned [.sentinel, .sentinel, .sentinel, .data, .data, .data] true :=
  OpenClaim.laidByTextAt_later rfl rfl tie noOwnUnsafe
theorem fnCutIsToldUpto_row_tie : Rows.fnCutIsToldUptoRow.laidByTextAt .later Tryz.pinned [.sentinel, .sentinel, .sentinel, .data, .data, .data] true :=
  OpenClaim.laidByTextAt_later rfl rfl tie noOwnUnsafe
theorem fnFramesAddUpUpto_row_tie : Rows.fnFramesAddUpUptoRow.laidByTextAt .later Tryz.pinned [.sentinel, .sentinel, .sentinel, .data, .data, .data] true :=
  OpenClaim.laidByTextAt_later rfl rfl tie noOwnUnsafe
theorem fnHeadersAgreeUpto_row_tie : Rows.fnHeadersAgreeUptoRow.laidByTextAt .later Tryz.pinned [.sentinel, .sentinel, .sentinel, .data, .data, .data] true :=
  OpenClaim.laidByTextAt_later rfl rfl tie noOwnUnsafe
theorem fnReadUpto_row_tie : Rows.fnReadUptoRow.laidByTextAt .later Tryz.pinned [.sentinel, .sentinel, .sentinel, .data, .data, .data] true :=
  OpenClaim.laidByTextAt_later rfl rfl tie noOwnUnsafe
theorem fnSkippedAddsNothingUpto_row_tie : Rows.fnSkippedAddsNothingUptoRow.laidByTextAt .later Tryz.pinned [.sentinel, .sentinel, .sentinel, .data, .data, .data] true :=
  OpenClaim.laidByTextAt_later rfl rfl tie noOwnUnsafe
theorem fnBytesAgreeUpto_row_tie : Rows.fnBytesAgreeUptoRow.laidByTextAt .later Tryz.pinned [.sentinel, .sentinel, .sentinel, .data, .data, .data] true :=
  OpenClaim.laidByTextAt_later rfl rfl tie noOwnUnsafe
theorem fnPiecesAgreeUpto_row_tie : Rows.fnPiecesAgreeUptoRow.laidByTextAt .later Tryz.pinned [.sentinel, .sentinel, .sentinel, .data, .data, .data] true :=
  OpenClaim.laidByTextAt_later rfl rfl tie noOwnUnsafe
theorem fnWrongIsToldInPiecesUpto_row_tie : Rows.fnWrongIsToldInPiecesUptoRow.laidByTextAt .later Tryz.pinned [.sentinel, .sentinel, .sentinel, .data, .data, .data] true :=
  OpenClaim.laidByTextAt_later rfl rfl tie noOwnUnsafe
theorem fnSlowAgreesUpto_row_tie : Rows.fnSlowAgreesUptoRow.laidByTextAt .later Tryz.pinned [.sentinel, .sentinel, .sentinel, .data, .data, .data] true :=
  OpenClaim.laidByTextAt_later rfl rfl tie noOwnUnsafe
theorem fnResetForgetsUpto_row_tie : Rows.fnResetForgetsUptoRow.laidByTextAt .later Tryz.pinned [.sentinel, .sentinel, .sentinel, .data, .data, .data] true :=
  OpenClaim.laidByTextAt_later rfl rfl tie noOwnUnsafe
end Go.Proofs.YtogmacnlpclgkaaGreatDoor
