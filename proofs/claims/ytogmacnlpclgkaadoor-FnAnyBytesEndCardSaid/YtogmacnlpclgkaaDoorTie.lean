/-
  DERIVED. GIVEN WITH THE SEED: THE PROGRAM's TIES (one call each: nine closed facts by the kernel) AND EACH ROW's TIE, after the 31st guide's Derived/Test/Toyas{Tie, Card}.lean. No idea stands in it: it is a product of the set-up. Laid BY PROGRAM, IN A SANDBOX (cutbox-door.mjs). By AI agents, Wed Nov 11 2026. No macro, syntax, notation, axiom, sorry.
-/
import Derived.Test.YtogmacnlpclgkaaDoorRows
import Derived.LaidByTextLater
import Derived.SevenTiedAt
import Derived.LaidSub
import Derived.LaidOnce
namespace Go.Proofs.YtogmacnlpclgkaaDoor
open Go
set_option maxRecDepth 100000
theorem seatTie1 : Tryd.prog.laidByTextLater [("io.ErrShortBuffer", Rows.laid_io_ErrShortBuffer), ("io.EOF", Rows.laid_io_EOF), ("io.ErrUnexpectedEOF", Rows.laid_io_ErrUnexpectedEOF), ("framesunpacked/pub/zstd.literalLengthBase", Rows.laid_framesunpacked_pub_zstd_literalLengthBase), ("framesunpacked/pub/zstd.matchLengthBase", Rows.laid_framesunpacked_pub_zstd_matchLengthBase), ("framesunpacked/pub/zstd.fuzzing", Rows.laid_framesunpacked_pub_zstd_fuzzing)] [.sentinel, .sentinel, .sentinel, .data, .data, .data] true :=
  Program.laidByTextLater_by_one 80 8 22 (by kernel_rfl) (by kernel_rfl) (by kernel_rfl) (by kernel_rfl) (by kernel_rfl) (by kernel_rfl) (fun _ _ => by kernel_rfl)
theorem noOwnUnsafe : Tryd.pinned.checked.prog.headLifts.contains "ownunsafe" = false := by kernel_rfl
theorem tie : Tryd.prog.laidByTextLater [("io.ErrShortBuffer", Rows.laid_io_ErrShortBuffer), ("io.EOF", Rows.laid_io_EOF), ("io.ErrUnexpectedEOF", Rows.laid_io_ErrUnexpectedEOF), ("framesunpacked/pub/zstd.fuzzing", Rows.laid_framesunpacked_pub_zstd_fuzzing)] [.sentinel, .sentinel, .sentinel, .data] true :=
  Program.laidByTextLater.sub seatTie1 ["io.ErrShortBuffer", "io.EOF", "io.ErrUnexpectedEOF", "framesunpacked/pub/zstd.fuzzing"] (by kernel_rfl) (by kernel_rfl)
theorem fnHeader_row_tie : Rows.fnHeaderRow.laidByTextAt .later Tryd.pinned [.sentinel, .sentinel, .sentinel, .data] true :=
  OpenClaim.laidByTextAt_later rfl rfl tie noOwnUnsafe
theorem tie2 : Tryd.prog.laidByTextLater [("io.ErrShortBuffer", Rows.laid_io_ErrShortBuffer), ("io.EOF", Rows.laid_io_EOF), ("io.ErrUnexpectedEOF", Rows.laid_io_ErrUnexpectedEOF), ("framesunpacked/pub/zstd.literalLengthBase", Rows.laid_framesunpacked_pub_zstd_literalLengthBase), ("framesunpacked/pub/zstd.matchLengthBase", Rows.laid_framesunpacked_pub_zstd_matchLengthBase), ("framesunpacked/pub/zstd.fuzzing", Rows.laid_framesunpacked_pub_zstd_fuzzing)] [.sentinel, .sentinel, .sentinel, .data, .data, .data] true :=
  Program.laidByTextLater.sub seatTie1 ["io.ErrShortBuffer", "io.EOF", "io.ErrUnexpectedEOF", "framesunpacked/pub/zstd.literalLengthBase", "framesunpacked/pub/zstd.matchLengthBase", "framesunpacked/pub/zstd.fuzzing"] (by kernel_rfl) (by kernel_rfl)
theorem fnSizeIsAsked_row_tie : Rows.fnSizeIsAskedRow.laidByTextAt .later Tryd.pinned [.sentinel, .sentinel, .sentinel, .data, .data, .data] true :=
  OpenClaim.laidByTextAt_later rfl rfl tie2 noOwnUnsafe
theorem fnSumIsAsked_row_tie : Rows.fnSumIsAskedRow.laidByTextAt .later Tryd.pinned [.sentinel, .sentinel, .sentinel, .data, .data, .data] true :=
  OpenClaim.laidByTextAt_later rfl rfl tie2 noOwnUnsafe
theorem fnAnyBytesEnd_row_tie : Rows.fnAnyBytesEndRow.laidByTextAt .later Tryd.pinned [.sentinel, .sentinel, .sentinel, .data, .data, .data] true :=
  OpenClaim.laidByTextAt_later rfl rfl tie2 noOwnUnsafe
theorem fnHeaderUpto_row_tie : Rows.fnHeaderUptoRow.laidByTextAt .later Tryd.pinned [.sentinel, .sentinel, .sentinel, .data] true :=
  OpenClaim.laidByTextAt_later rfl rfl tie noOwnUnsafe
theorem fnSizeIsAskedUpto_row_tie : Rows.fnSizeIsAskedUptoRow.laidByTextAt .later Tryd.pinned [.sentinel, .sentinel, .sentinel, .data, .data, .data] true :=
  OpenClaim.laidByTextAt_later rfl rfl tie2 noOwnUnsafe
theorem fnSumIsAskedUpto_row_tie : Rows.fnSumIsAskedUptoRow.laidByTextAt .later Tryd.pinned [.sentinel, .sentinel, .sentinel, .data, .data, .data] true :=
  OpenClaim.laidByTextAt_later rfl rfl tie2 noOwnUnsafe
theorem fnAnyBytesEndUpto_row_tie : Rows.fnAnyBytesEndUptoRow.laidByTextAt .later Tryd.pinned [.sentinel, .sentinel, .sentinel, .data, .data, .data] true :=
  OpenClaim.laidByTextAt_later rfl rfl tie2 noOwnUnsafe
end Go.Proofs.YtogmacnlpclgkaaDoor
