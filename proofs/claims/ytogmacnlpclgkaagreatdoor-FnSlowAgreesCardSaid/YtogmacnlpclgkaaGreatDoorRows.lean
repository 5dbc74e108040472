/-
  NARROWER THAN 'FOR EVERY INPUT', by the rows' own cells (each row's printed sentence says how): FnBlock: laid · FnCutBetweenFrames: laid · FnCutIsTold: laid · FnFramesAddUp: laid · FnHeadersAgree: laid · FnRead: laid · FnSkippedAddsNothing: laid · FnBytesAgree: laid · FnPiecesAgree: laid · FnWrongIsToldInPieces: laid · FnSlowAgrees: laid · FnResetForgets: laid.
  DERIVED. THE GIVEN ROWS OF THIS SEAT. 12 by the template 'for every input the law returns true; each argument reads behind the call as it read before'; 0 by the template 'total and deterministic' (their statements: YtogmacnlpclgkaaGreatDoorTotals.lean).
  GIVEN WITH THE SEED: the statements are not yours to turn. If you find one false, say at which input.
  Laid BY PROGRAM, IN A SANDBOX (cutbox-rows.mjs): the forced cells as the released guide's own fill.sh prints them over the translation 7213a32ae96f5dc5… (all of the seat's roots in one cut). By AI agents, Wed Nov 11 2026. No macro, syntax, notation, axiom, sorry.
-/
import Derived.Test.YtogmacnlpclgkaaGreatDoorChecked
import GoSem.Claim
import GoSem.ClaimJoined
import GoSem.ClaimMapViews
import Derived.JoinedTies
import Derived.KernelRfl
namespace Go.Proofs.YtogmacnlpclgkaaGreatDoor
/- THE CELL 'sum', in the pinned program and in every row, IS THE sha256 OF THE DUMP (.gsa) THAT YtogmacnlpclgkaaGreatDoorProg.lean LOADS. Nothing in Lean hashes anything: it is a label: what it is worth is what the hold of that sum in a sandbox is worth. -/
noncomputable def Tryz.pinned : Pinned := { name := "ytogmacnlpclgkaagreatdoor", sum := "7213a32ae96f5dc52addbf5fc70cdf5a29499771d28d27a8d5643f3560421248", checked := Tryz.checked }
namespace Rows
def none {H : Type} : Left H := { results := [], args := [] }

/- WHAT THE LISTED PACKAGE-LEVEL VARIABLES READ AS WHEN THE CALL BEGINS. Each datum BY PROGRAM (the guide's laid-datum.mjs) off the statement by which the dump's own 'gosem.cut.vars' lays the variable. In a bare row this is a premise. The card (YtogmacnlpclgkaaGreatDoorCards.lean) ties it to the program's text. -/
def laid_io_ErrShortBuffer {H : Type} : DataW H := .iface "*errors.errorString" (.ptr (.agg [.lit (.string [115, 104, 111, 114, 116, 32, 98, 117, 102, 102, 101, 114])]))
def laid_io_EOF {H : Type} : DataW H := .iface "*errors.errorString" (.ptr (.agg [.lit (.string [69, 79, 70])]))
def laid_io_ErrUnexpectedEOF {H : Type} : DataW H := .iface "*errors.errorString" (.ptr (.agg [.lit (.string [117, 110, 101, 120, 112, 101, 99, 116, 101, 100, 32, 69, 79, 70])]))
def laid_framesunpacked_pub_zstd_literalLengthBase {H : Type} : DataW H := .slice [.lit (.int .u32 16777232), .lit (.int .u32 16777234), .lit (.int .u32 16777236), .lit (.int .u32 16777238), .lit (.int .u32 33554456), .lit (.int .u32 33554460), .lit (.int .u32 50331680), .lit (.int .u32 50331688), .lit (.int .u32 67108912), .lit (.int .u32 100663360), .lit (.int .u32 117440640), .lit (.int .u32 134217984), .lit (.int .u32 150995456), .lit (.int .u32 167773184), .lit (.int .u32 184551424), .lit (.int .u32 201330688), .lit (.int .u32 218112000), .lit (.int .u32 234897408), .lit (.int .u32 251691008), .lit (.int .u32 268500992)] []
def laid_framesunpacked_pub_zstd_matchLengthBase {H : Type} : DataW H := .slice [.lit (.int .u32 16777251), .lit (.int .u32 16777253), .lit (.int .u32 16777255), .lit (.int .u32 16777257), .lit (.int .u32 33554475), .lit (.int .u32 33554479), .lit (.int .u32 50331699), .lit (.int .u32 50331707), .lit (.int .u32 67108931), .lit (.int .u32 67108947), .lit (.int .u32 83886179), .lit (.int .u32 117440643), .lit (.int .u32 134217987), .lit (.int .u32 150995459), .lit (.int .u32 167773187), .lit (.int .u32 184551427), .lit (.int .u32 201330691), .lit (.int .u32 218112003), .lit (.int .u32 234897411), .lit (.int .u32 251691011), .lit (.int .u32 268500995)] []
def laid_framesunpacked_pub_zstd_fuzzing {H : Type} : DataW H := .lit (.bool false)

/-- 'laws.FnBlock': WHATEVER THE INPUT: true; the input reads as it did. -/
def fnBlockSpec : ChangeSpec := { name := "fnBlock", fn := fun _ => fun
  | [d1, d2] => { results := [.lit (.bool true)], args := [d1, d2] }
  | _ => none }
def fnBlockRow : OpenClaim := { program := "ytogmacnlpclgkaagreatdoor", sum := "7213a32ae96f5dc52addbf5fc70cdf5a29499771d28d27a8d5643f3560421248", func := "framesunpacked/laws.FnBlock", spec := "fnBlock", unfollowed := true, recurses := true, named := ["io.EOF", "io.ErrUnexpectedEOF", "framesunpacked/pub/zstd.fuzzing", "io.ErrShortBuffer", "framesunpacked/pub/zstd.literalLengthBase", "framesunpacked/pub/zstd.matchLengthBase"], apart := false, laid := [("io.ErrShortBuffer", laid_io_ErrShortBuffer), ("io.EOF", laid_io_EOF), ("io.ErrUnexpectedEOF", laid_io_ErrUnexpectedEOF), ("framesunpacked/pub/zstd.literalLengthBase", laid_framesunpacked_pub_zstd_literalLengthBase), ("framesunpacked/pub/zstd.matchLengthBase", laid_framesunpacked_pub_zstd_matchLengthBase), ("framesunpacked/pub/zstd.fuzzing", laid_framesunpacked_pub_zstd_fuzzing)] }
def FnBlockSaid : Prop := fnBlockRow.holds Tryz.pinned (OpenSpec.ofChange fnBlockSpec)

/-- ITS FALSE NEIGHBOUR: 'it returns false'. Refute it at one input. -/
def fnBlockWrong : ChangeSpec := { name := "fnBlock", fn := fun _ => fun
  | [d1, d2] => { results := [.lit (.bool false)], args := [d1, d2] }
  | _ => none }
def FnBlockWrongFalsely : Prop := fnBlockRow.holds Tryz.pinned (OpenSpec.ofChange fnBlockWrong)

/-- 'laws.FnCutBetweenFrames': WHATEVER THE INPUT: true; the input reads as it did. -/
def fnCutBetweenFramesSpec : ChangeSpec := { name := "fnCutBetweenFrames", fn := fun _ => fun
  | [d1, d2] => { results := [.lit (.bool true)], args := [d1, d2] }
  | _ => none }
def fnCutBetweenFramesRow : OpenClaim := { program := "ytogmacnlpclgkaagreatdoor", sum := "7213a32ae96f5dc52addbf5fc70cdf5a29499771d28d27a8d5643f3560421248", func := "framesunpacked/laws.FnCutBetweenFrames", spec := "fnCutBetweenFrames", unfollowed := true, recurses := true, named := ["io.EOF", "io.ErrUnexpectedEOF", "framesunpacked/pub/zstd.fuzzing", "io.ErrShortBuffer", "framesunpacked/pub/zstd.literalLengthBase", "framesunpacked/pub/zstd.matchLengthBase"], apart := false, laid := [("io.ErrShortBuffer", laid_io_ErrShortBuffer), ("io.EOF", laid_io_EOF), ("io.ErrUnexpectedEOF", laid_io_ErrUnexpectedEOF), ("framesunpacked/pub/zstd.literalLengthBase", laid_framesunpacked_pub_zstd_literalLengthBase), ("framesunpacked/pub/zstd.matchLengthBase", laid_framesunpacked_pub_zstd_matchLengthBase), ("framesunpacked/pub/zstd.fuzzing", laid_framesunpacked_pub_zstd_fuzzing)] }
def FnCutBetweenFramesSaid : Prop := fnCutBetweenFramesRow.holds Tryz.pinned (OpenSpec.ofChange fnCutBetweenFramesSpec)

/-- ITS FALSE NEIGHBOUR: 'it returns false'. Refute it at one input. -/
def fnCutBetweenFramesWrong : ChangeSpec := { name := "fnCutBetweenFrames", fn := fun _ => fun
  | [d1, d2] => { results := [.lit (.bool false)], args := [d1, d2] }
  | _ => none }
def FnCutBetweenFramesWrongFalsely : Prop := fnCutBetweenFramesRow.holds Tryz.pinned (OpenSpec.ofChange fnCutBetweenFramesWrong)

/-- 'laws.FnCutIsTold': WHATEVER THE INPUT: true; the input reads as it did. -/
def fnCutIsToldSpec : ChangeSpec := { name := "fnCutIsTold", fn := fun _ => fun
  | [d1, d2] => { results := [.lit (.bool true)], args := [d1, d2] }
  | _ => none }
def fnCutIsToldRow : OpenClaim := { program := "ytogmacnlpclgkaagreatdoor", sum := "7213a32ae96f5dc52addbf5fc70cdf5a29499771d28d27a8d5643f3560421248", func := "framesunpacked/laws.FnCutIsTold", spec := "fnCutIsTold", unfollowed := true, recurses := true, named := ["io.EOF", "io.ErrUnexpectedEOF", "framesunpacked/pub/zstd.fuzzing", "io.ErrShortBuffer", "framesunpacked/pub/zstd.literalLengthBase", "framesunpacked/pub/zstd.matchLengthBase"], apart := false, laid := [("io.ErrShortBuffer", laid_io_ErrShortBuffer), ("io.EOF", laid_io_EOF), ("io.ErrUnexpectedEOF", laid_io_ErrUnexpectedEOF), ("framesunpacked/pub/zstd.literalLengthBase", laid_framesunpacked_pub_zstd_literalLengthBase), ("framesunpacked/pub/zstd.matchLengthBase", laid_framesunpacked_pub_zstd_matchLengthBase), ("framesunpacked/pub/zstd.fuzzing", laid_framesunpacked_pub_zstd_fuzzing)] }
def FnCutIsToldSaid : Prop := fnCutIsToldRow.holds Tryz.pinned (OpenSpec.ofChange fnCutIsToldSpec)

/-- ITS FALSE NEIGHBOUR: 'it returns false'. Refute it at one input. -/
def fnCutIsToldWrong : ChangeSpec := { name := "fnCutIsTold", fn := fun _ => fun
  | [d1, d2] => { results := [.lit (.bool false)], args := [d1, d2] }
  | _ => none }
def FnCutIsToldWrongFalsely : Prop := fnCutIsToldRow.holds Tryz.pinned (OpenSpec.ofChange fnCutIsToldWrong)

/-- 'laws.FnFramesAddUp': WHATEVER THE INPUT: true; the input reads as it did. -/
def fnFramesAddUpSpec : ChangeSpec := { name := "fnFramesAddUp", fn := fun _ => fun
  | [d1, d2] => { results := [.lit (.bool true)], args := [d1, d2] }
  | _ => none }
def fnFramesAddUpRow : OpenClaim := { program := "ytogmacnlpclgkaagreatdoor", sum := "7213a32ae96f5dc52addbf5fc70cdf5a29499771d28d27a8d5643f3560421248", func := "framesunpacked/laws.FnFramesAddUp", spec := "fnFramesAddUp", unfollowed := true, recurses := true, named := ["io.EOF", "io.ErrUnexpectedEOF", "framesunpacked/pub/zstd.fuzzing", "io.ErrShortBuffer", "framesunpacked/pub/zstd.literalLengthBase", "framesunpacked/pub/zstd.matchLengthBase"], apart := false, laid := [("io.ErrShortBuffer", laid_io_ErrShortBuffer), ("io.EOF", laid_io_EOF), ("io.ErrUnexpectedEOF", laid_io_ErrUnexpectedEOF), ("framesunpacked/pub/zstd.literalLengthBase", laid_framesunpacked_pub_zstd_literalLengthBase), ("framesunpacked/pub/zstd.matchLengthBase", laid_framesunpacked_pub_zstd_matchLengthBase), ("framesunpacked/pub/zstd.fuzzing", laid_framesunpacked_pub_zstd_fuzzing)] }
def FnFramesAddUpSaid : Prop := fnFramesAddUpRow.holds Tryz.pinned (OpenSpec.ofChange fnFramesAddUpSpec)

/-- ITS FALSE NEIGHBOUR: 'it returns false'. Refute it at one input. -/
def fnFramesAddUpWrong : ChangeSpec := { name := "fnFramesAddUp", fn := fun _ => fun
  | [d1, d2] => { results := [.lit (.bool false)], args := [d1, d2] }
  | _ => none }
def FnFramesAddUpWrongFalsely : Prop := fnFramesAddUpRow.holds Tryz.pinned (OpenSpec.ofChange fnFramesAddUpWrong)

/-- 'laws.FnHeadersAgree': WHATEVER THE INPUT: true; the input reads as it did. -/
def fnHeadersAgreeSpec : ChangeSpec := { name := "fnHeadersAgree", fn := fun _ => fun
  | [d1, d2] => { results := [.lit (.bool true)], args := [d1, d2] }
  | _ => none }
def fnHeadersAgreeRow : OpenClaim := { program := "ytogmacnlpclgkaagreatdoor", sum := "7213a32ae96f5dc52addbf5fc70cdf5a29499771d28d27a8d5643f3560421248", func := "framesunpacked/laws.FnHeadersAgree", spec := "fnHeadersAgree", unfollowed := true, recurses := true, named := ["io.EOF", "io.ErrUnexpectedEOF", "framesunpacked/pub/zstd.fuzzing", "io.ErrShortBuffer", "framesunpacked/pub/zstd.literalLengthBase", "framesunpacked/pub/zstd.matchLengthBase"], apart := false, laid := [("io.ErrShortBuffer", laid_io_ErrShortBuffer), ("io.EOF", laid_io_EOF), ("io.ErrUnexpectedEOF", laid_io_ErrUnexpectedEOF), ("framesunpacked/pub/zstd.literalLengthBase", laid_framesunpacked_pub_zstd_literalLengthBase), ("framesunpacked/pub/zstd.matchLengthBase", laid_framesunpacked_pub_zstd_matchLengthBase), ("framesunpacked/pub/zstd.fuzzing", laid_framesunpacked_pub_zstd_fuzzing)] }
def FnHeadersAgreeSaid : Prop := fnHeadersAgreeRow.holds Tryz.pinned (OpenSpec.ofChange fnHeadersAgreeSpec)

/-- ITS FALSE NEIGHBOUR: 'it returns false'. Refute it at one input. -/
def fnHeadersAgreeWrong : ChangeSpec := { name := "fnHeadersAgree", fn := fun _ => fun
  | [d1, d2] => { results := [.lit (.bool false)], args := [d1, d2] }
  | _ => none }
def FnHeadersAgreeWrongFalsely : Prop := fnHeadersAgreeRow.holds Tryz.pinned (OpenSpec.ofChange fnHeadersAgreeWrong)

/-- 'laws.FnRead': WHATEVER THE INPUT: true; the input reads as it did. -/
def fnReadSpec : ChangeSpec := { name := "fnRead", fn := fun _ => fun
  | [d] => { results := [.lit (.bool true)], args := [d] }
  | _ => none }
def fnReadRow : OpenClaim := { program := "ytogmacnlpclgkaagreatdoor", sum := "7213a32ae96f5dc52addbf5fc70cdf5a29499771d28d27a8d5643f3560421248", func := "framesunpacked/laws.FnRead", spec := "fnRead", unfollowed := true, recurses := true, named := ["io.EOF", "io.ErrUnexpectedEOF", "framesunpacked/pub/zstd.fuzzing", "io.ErrShortBuffer", "framesunpacked/pub/zstd.literalLengthBase", "framesunpacked/pub/zstd.matchLengthBase"], apart := false, laid := [("io.ErrShortBuffer", laid_io_ErrShortBuffer), ("io.EOF", laid_io_EOF), ("io.ErrUnexpectedEOF", laid_io_ErrUnexpectedEOF), ("framesunpacked/pub/zstd.literalLengthBase", laid_framesunpacked_pub_zstd_literalLengthBase), ("framesunpacked/pub/zstd.matchLengthBase", laid_framesunpacked_pub_zstd_matchLengthBase), ("framesunpacked/pub/zstd.fuzzing", laid_framesunpacked_pub_zstd_fuzzing)] }
def FnReadSaid : Prop := fnReadRow.holds Tryz.pinned (OpenSpec.ofChange fnReadSpec)

/-- ITS FALSE NEIGHBOUR: 'it returns false'. Refute it at one input. -/
def fnReadWrong : ChangeSpec := { name := "fnRead", fn := fun _ => fun
  | [d] => { results := [.lit (.bool false)], args := [d] }
  | _ => none }
def FnReadWrongFalsely : Prop := fnReadRow.holds Tryz.pinned (OpenSpec.ofChange fnReadWrong)

/-- 'laws.FnSkippedAddsNothing': WHATEVER THE INPUT: true; the input reads as it did. -/
def fnSkippedAddsNothingSpec : ChangeSpec := { name := "fnSkippedAddsNothing", fn := fun _ => fun
  | [d1, d2, d3] => { results := [.lit (.bool true)], args := [d1, d2, d3] }
  | _ => none }
def fnSkippedAddsNothingRow : OpenClaim := { program := "ytogmacnlpclgkaagreatdoor", sum := "7213a32ae96f5dc52addbf5fc70cdf5a29499771d28d27a8d5643f3560421248", func := "framesunpacked/laws.FnSkippedAddsNothing", spec := "fnSkippedAddsNothing", unfollowed := true, recurses := true, named := ["io.EOF", "io.ErrUnexpectedEOF", "framesunpacked/pub/zstd.fuzzing", "io.ErrShortBuffer", "framesunpacked/pub/zstd.literalLengthBase", "framesunpacked/pub/zstd.matchLengthBase"], apart := false, laid := [("io.ErrShortBuffer", laid_io_ErrShortBuffer), ("io.EOF", laid_io_EOF), ("io.ErrUnexpectedEOF", laid_io_ErrUnexpectedEOF), ("framesunpacked/pub/zstd.literalLengthBase", laid_framesunpacked_pub_zstd_literalLengthBase), ("framesunpacked/pub/zstd.matchLengthBase", laid_framesunpacked_pub_zstd_matchLengthBase), ("framesunpacked/pub/zstd.fuzzing", laid_framesunpacked_pub_zstd_fuzzing)] }
def FnSkippedAddsNothingSaid : Prop := fnSkippedAddsNothingRow.holds Tryz.pinned (OpenSpec.ofChange fnSkippedAddsNothingSpec)

/-- ITS FALSE NEIGHBOUR: 'it returns false'. Refute it at one input. -/
def fnSkippedAddsNothingWrong : ChangeSpec := { name := "fnSkippedAddsNothing", fn := fun _ => fun
  | [d1, d2, d3] => { results := [.lit (.bool false)], args := [d1, d2, d3] }
  | _ => none }
def FnSkippedAddsNothingWrongFalsely : Prop := fnSkippedAddsNothingRow.holds Tryz.pinned (OpenSpec.ofChange fnSkippedAddsNothingWrong)

/-- 'laws.FnBytesAgree': WHATEVER THE INPUT: true; the input reads as it did. -/
def fnBytesAgreeSpec : ChangeSpec := { name := "fnBytesAgree", fn := fun _ => fun
  | [d1, d2] => { results := [.lit (.bool true)], args := [d1, d2] }
  | _ => none }
def fnBytesAgreeRow : OpenClaim := { program := "ytogmacnlpclgkaagreatdoor", sum := "7213a32ae96f5dc52addbf5fc70cdf5a29499771d28d27a8d5643f3560421248", func := "framesunpacked/laws.FnBytesAgree", spec := "fnBytesAgree", unfollowed := true, recurses := true, named := ["io.EOF", "io.ErrUnexpectedEOF", "framesunpacked/pub/zstd.fuzzing", "io.ErrShortBuffer", "framesunpacked/pub/zstd.literalLengthBase", "framesunpacked/pub/zstd.matchLengthBase"], apart := false, laid := [("io.ErrShortBuffer", laid_io_ErrShortBuffer), ("io.EOF", laid_io_EOF), ("io.ErrUnexpectedEOF", laid_io_ErrUnexpectedEOF), ("framesunpacked/pub/zstd.literalLengthBase", laid_framesunpacked_pub_zstd_literalLengthBase), ("framesunpacked/pub/zstd.matchLengthBase", laid_framesunpacked_pub_zstd_matchLengthBase), ("framesunpacked/pub/zstd.fuzzing", laid_framesunpacked_pub_zstd_fuzzing)] }
def FnBytesAgreeSaid : Prop := fnBytesAgreeRow.holds Tryz.pinned (OpenSpec.ofChange fnBytesAgreeSpec)

/-- ITS FALSE NEIGHBOUR: 'it returns false'. Refute it at one input. -/
def fnBytesAgreeWrong : ChangeSpec := { name := "fnBytesAgree", fn := fun _ => fun
  | [d1, d2] => { results := [.lit (.bool false)], args := [d1, d2] }
  | _ => none }
def FnBytesAgreeWrongFalsely : Prop := fnBytesAgreeRow.holds Tryz.pinned (OpenSpec.ofChange fnBytesAgreeWrong)

/-- 'laws.FnPiecesAgree': WHATEVER THE INPUT: true; the input reads as it did. -/
def fnPiecesAgreeSpec : ChangeSpec := { name := "fnPiecesAgree", fn := fun _ => fun
  | [d1, d2] => { results := [.lit (.bool true)], args := [d1, d2] }
  | _ => none }
def fnPiecesAgreeRow : OpenClaim := { program := "ytogmacnlpclgkaagreatdoor", sum := "7213a32ae96f5dc52addbf5fc70cdf5a29499771d28d27a8d5643f3560421248", func := "framesunpacked/laws.FnPiecesAgree", spec := "fnPiecesAgree", unfollowed := true, recurses := true, named := ["io.EOF", "io.ErrUnexpectedEOF", "framesunpacked/pub/zstd.fuzzing", "io.ErrShortBuffer", "framesunpacked/pub/zstd.literalLengthBase", "framesunpacked/pub/zstd.matchLengthBase"], apart := false, laid := [("io.ErrShortBuffer", laid_io_ErrShortBuffer), ("io.EOF", laid_io_EOF), ("io.ErrUnexpectedEOF", laid_io_ErrUnexpectedEOF), ("framesunpacked/pub/zstd.literalLengthBase", laid_framesunpacked_pub_zstd_literalLengthBase), ("framesunpacked/pub/zstd.matchLengthBase", laid_framesunpacked_pub_zstd_matchLengthBase), ("framesunpacked/pub/zstd.fuzzing", laid_framesunpacked_pub_zstd_fuzzing)] }
def FnPiecesAgreeSaid : Prop := fnPiecesAgreeRow.holds Tryz.pinned (OpenSpec.ofChange fnPiecesAgreeSpec)

/-- ITS FALSE NEIGHBOUR: 'it returns false'. Refute it at one input. -/
def fnPiecesAgreeWrong : ChangeSpec := { name := "fnPiecesAgree", fn := fun _ => fun
  | [d1, d2] => { results := [.lit (.bool false)], args := [d1, d2] }
  | _ => none }
def FnPiecesAgreeWrongFalsely : Prop := fnPiecesAgreeRow.holds Tryz.pinned (OpenSpec.ofChange fnPiecesAgreeWrong)

/-- 'laws.FnWrongIsToldInPieces': WHATEVER THE INPUT: true; the input reads as it did. -/
def fnWrongIsToldInPiecesSpec : ChangeSpec := { name := "fnWrongIsToldInPieces", fn := fun _ => fun
  | [d1, d2] => { results := [.lit (.bool true)], args := [d1, d2] }
  | _ => none }
def fnWrongIsToldInPiecesRow : OpenClaim := { program := "ytogmacnlpclgkaagreatdoor", sum := "7213a32ae96f5dc52addbf5fc70cdf5a29499771d28d27a8d5643f3560421248", func := "framesunpacked/laws.FnWrongIsToldInPieces", spec := "fnWrongIsToldInPieces", unfollowed := true, recurses := true, named := ["io.EOF", "io.ErrUnexpectedEOF", "framesunpacked/pub/zstd.fuzzing", "io.ErrShortBuffer", "framesunpacked/pub/zstd.literalLengthBase", "framesunpacked/pub/zstd.matchLengthBase"], apart := false, laid := [("io.ErrShortBuffer", laid_io_ErrShortBuffer), ("io.EOF", laid_io_EOF), ("io.ErrUnexpectedEOF", laid_io_ErrUnexpectedEOF), ("framesunpacked/pub/zstd.literalLengthBase", laid_framesunpacked_pub_zstd_literalLengthBase), ("framesunpacked/pub/zstd.matchLengthBase", laid_framesunpacked_pub_zstd_matchLengthBase), ("framesunpacked/pub/zstd.fuzzing", laid_framesunpacked_pub_zstd_fuzzing)] }
def FnWrongIsToldInPiecesSaid : Prop := fnWrongIsToldInPiecesRow.holds Tryz.pinned (OpenSpec.ofChange fnWrongIsToldInPiecesSpec)

/-- ITS FALSE NEIGHBOUR: 'it returns false'. Refute it at one input. -/
def fnWrongIsToldInPiecesWrong : ChangeSpec := { name := "fnWrongIsToldInPieces", fn := fun _ => fun
  | [d1, d2] => { results := [.lit (.bool false)], args := [d1, d2] }
  | _ => none }
def FnWrongIsToldInPiecesWrongFalsely : Prop := fnWrongIsToldInPiecesRow.holds Tryz.pinned (OpenSpec.ofChange fnWrongIsToldInPiecesWrong)

/-- 'laws.FnSlowAgrees': WHATEVER THE INPUT: true; the input reads as it did. -/
def fnSlowAgreesSpec : ChangeSpec := { name := "fnSlowAgrees", fn := fun _ => fun
  | [d1, d2] => { results := [.lit (.bool true)], args := [d1, d2] }
  | _ => none }
def fnSlowAgreesRow : OpenClaim := { program := "ytogmacnlpclgkaagreatdoor", sum := "7213a32ae96f5dc52addbf5fc70cdf5a29499771d28d27a8d5643f3560421248", func := "framesunpacked/laws.FnSlowAgrees", spec := "fnSlowAgrees", unfollowed := true, recurses := true, named := ["io.EOF", "io.ErrUnexpectedEOF", "framesunpacked/pub/zstd.fuzzing", "io.ErrShortBuffer", "framesunpacked/pub/zstd.literalLengthBase", "framesunpacked/pub/zstd.matchLengthBase"], apart := false, laid := [("io.ErrShortBuffer", laid_io_ErrShortBuffer), ("io.EOF", laid_io_EOF), ("io.ErrUnexpectedEOF", laid_io_ErrUnexpectedEOF), ("framesunpacked/pub/zstd.literalLengthBase", laid_framesunpacked_pub_zstd_literalLengthBase), ("framesunpacked/pub/zstd.matchLengthBase", laid_framesunpacked_pub_zstd_matchLengthBase), ("framesunpacked/pub/zstd.fuzzing", laid_framesunpacked_pub_zstd_fuzzing)] }
def FnSlowAgreesSaid : Prop := fnSlowAgreesRow.holds Tryz.pinned (OpenSpec.ofChange fnSlowAgreesSpec)

/-- ITS FALSE NEIGHBOUR: 'it returns false'. Refute it at one input. -/
def fnSlowAgreesWrong : ChangeSpec := { name := "fnSlowAgrees", fn := fun _ => fun
  | [d1, d2] => { results := [.lit (.bool false)], args := [d1, d2] }
  | _ => none }
def FnSlowAgreesWrongFalsely : Prop := fnSlowAgreesRow.holds Tryz.pinned (OpenSpec.ofChange fnSlowAgreesWrong)

/-- 'laws.FnResetForgets': WHATEVER THE INPUT: true; the input reads as it did. -/
def fnResetForgetsSpec : ChangeSpec := { name := "fnResetForgets", fn := fun _ => fun
  | [d1, d2, d3] => { results := [.lit (.bool true)], args := [d1, d2, d3] }
  | _ => none }
def fnResetForgetsRow : OpenClaim := { program := "ytogmacnlpclgkaagreatdoor", sum := "7213a32ae96f5dc52addbf5fc70cdf5a29499771d28d27a8d5643f3560421248", func := "framesunpacked/laws.FnResetForgets", spec := "fnResetForgets", unfollowed := true, recurses := true, named := ["io.EOF", "io.ErrUnexpectedEOF", "framesunpacked/pub/zstd.fuzzing", "io.ErrShortBuffer", "framesunpacked/pub/zstd.literalLengthBase", "framesunpacked/pub/zstd.matchLengthBase"], apart := false, laid := [("io.ErrShortBuffer", laid_io_ErrShortBuffer), ("io.EOF", laid_io_EOF), ("io.ErrUnexpectedEOF", laid_io_ErrUnexpectedEOF), ("framesunpacked/pub/zstd.literalLengthBase", laid_framesunpacked_pub_zstd_literalLengthBase), ("framesunpacked/pub/zstd.matchLengthBase", laid_framesunpacked_pub_zstd_matchLengthBase), ("framesunpacked/pub/zstd.fuzzing", laid_framesunpacked_pub_zstd_fuzzing)] }
def FnResetForgetsSaid : Prop := fnResetForgetsRow.holds Tryz.pinned (OpenSpec.ofChange fnResetForgetsSpec)

/-- ITS FALSE NEIGHBOUR: 'it returns false'. Refute it at one input. -/
def fnResetForgetsWrong : ChangeSpec := { name := "fnResetForgets", fn := fun _ => fun
  | [d1, d2, d3] => { results := [.lit (.bool false)], args := [d1, d2, d3] }
  | _ => none }
def FnResetForgetsWrongFalsely : Prop := fnResetForgetsRow.holds Tryz.pinned (OpenSpec.ofChange fnResetForgetsWrong)

/- THE SECOND FORM. 'bulk': how many values and letters a reading holds, each counted each time it is reached (what is shared counts as often as it is met; a slice's spare places count too). A statement '..UptoSaid' is the law's where the arguments, and the package variables that the reading takes, are together of bulk at most 1048576: NARROWER than '..Said'. Prove '..Said' where nothing that the law and all that it calls make is longer than what came in: it says more and counts as full. Else prove '..UptoSaid'. A law counts once. -/
mutual
def uptoBulk {H : Type} : DataW H → Nat
  | .lit (.string bytes) => bytes.length + 1
  | .lit _ => 1
  | .nil => 1
  | .ptr d => uptoBulk d + 1
  | .slice elems spare => uptoBulkAll elems + uptoBulkAll spare + 1
  | .agg parts => uptoBulkAll parts + 1
  | .iface _ d => uptoBulk d + 1
  | .map entries => uptoBulkEntries entries + 1
  | .held _ => 1
def uptoBulkAll {H : Type} : List (DataW H) → Nat
  | [] => 0
  | d :: r => uptoBulk d + uptoBulkAll r
def uptoBulkEntries {H : Type} : List (Lit × DataW H) → Nat
  | [] => 0
  | x :: r => uptoBulkEntry x + uptoBulkEntries r
def uptoBulkEntry {H : Type} : Lit × DataW H → Nat
  | (.string bytes, d) => bytes.length + uptoBulk d + 1
  | (_, d) => uptoBulk d + 1
 end
def uptoSmall : (H : Type) → List (DataW H) → Bool := fun _ ds => decide (uptoBulkAll ds ≤ 1048576)
def OpenSpec.upto (s : _root_.Go.ChangeSpec) : _root_.Go.OpenSpec := { _root_.Go.OpenSpec.ofChange s with cond := some uptoSmall }

/-- 'laws.FnBlock', WHERE WHAT IT READS IS OF BULK AT MOST 1048576: true; the input reads as it did. -/
def fnBlockUptoRow : OpenClaim := { program := "ytogmacnlpclgkaagreatdoor", sum := "7213a32ae96f5dc52addbf5fc70cdf5a29499771d28d27a8d5643f3560421248", func := "framesunpacked/laws.FnBlock", spec := "fnBlock", unfollowed := true, recurses := true, named := ["io.EOF", "io.ErrUnexpectedEOF", "framesunpacked/pub/zstd.fuzzing", "io.ErrShortBuffer", "framesunpacked/pub/zstd.literalLengthBase", "framesunpacked/pub/zstd.matchLengthBase"], apart := false, laid := [("io.ErrShortBuffer", laid_io_ErrShortBuffer), ("io.EOF", laid_io_EOF), ("io.ErrUnexpectedEOF", laid_io_ErrUnexpectedEOF), ("framesunpacked/pub/zstd.literalLengthBase", laid_framesunpacked_pub_zstd_literalLengthBase), ("framesunpacked/pub/zstd.matchLengthBase", laid_framesunpacked_pub_zstd_matchLengthBase), ("framesunpacked/pub/zstd.fuzzing", laid_framesunpacked_pub_zstd_fuzzing)], narrowed := true }
def FnBlockUptoSaid : Prop := fnBlockUptoRow.holds Tryz.pinned (OpenSpec.upto fnBlockSpec)

/-- 'laws.FnCutBetweenFrames', WHERE WHAT IT READS IS OF BULK AT MOST 1048576: true; the input reads as it did. -/
def fnCutBetweenFramesUptoRow : OpenClaim := { program := "ytogmacnlpclgkaagreatdoor", sum := "7213a32ae96f5dc52addbf5fc70cdf5a29499771d28d27a8d5643f3560421248", func := "framesunpacked/laws.FnCutBetweenFrames", spec := "fnCutBetweenFrames", unfollowed := true, recurses := true, named := ["io.EOF", "io.ErrUnexpectedEOF", "framesunpacked/pub/zstd.fuzzing", "io.ErrShortBuffer", "framesunpacked/pub/zstd.literalLengthBase", "framesunpacked/pub/zstd.matchLengthBase"], apart := false, laid := [("io.ErrShortBuffer", laid_io_ErrShortBuffer), ("io.EOF", laid_io_EOF), ("io.ErrUnexpectedEOF", laid_io_ErrUnexpectedEOF), ("framesunpacked/pub/zstd.literalLengthBase", laid_framesunpacked_pub_zstd_literalLengthBase), ("framesunpacked/pub/zstd.matchLengthBase", laid_framesunpacked_pub_zstd_matchLengthBase), ("framesunpacked/pub/zstd.fuzzing", laid_framesunpacked_pub_zstd_fuzzing)], narrowed := true }
def FnCutBetweenFramesUptoSaid : Prop := fnCutBetweenFramesUptoRow.holds Tryz.pinned (OpenSpec.upto fnCutBetweenFramesSpec)

/-- 'laws.FnCutIsTold', WHERE WHAT IT READS IS OF BULK AT MOST 1048576: true; the input reads as it did. -/
def fnCutIsToldUptoRow : OpenClaim := { program := "ytogmacnlpclgkaagreatdoor", sum := "7213a32ae96f5dc52addbf5fc70cdf5a29499771d28d27a8d5643f3560421248", func := "framesunpacked/laws.FnCutIsTold", spec := "fnCutIsTold", unfollowed := true, recurses := true, named := ["io.EOF", "io.ErrUnexpectedEOF", "framesunpacked/pub/zstd.fuzzing", "io.ErrShortBuffer", "framesunpacked/pub/zstd.literalLengthBase", "framesunpacked/pub/zstd.matchLengthBase"], apart := false, laid := [("io.ErrShortBuffer", laid_io_ErrShortBuffer), ("io.EOF", laid_io_EOF), ("io.ErrUnexpectedEOF", laid_io_ErrUnexpectedEOF), ("framesunpacked/pub/zstd.literalLengthBase", laid_framesunpacked_pub_zstd_literalLengthBase), ("framesunpacked/pub/zstd.matchLengthBase", laid_framesunpacked_pub_zstd_matchLengthBase), ("framesunpacked/pub/zstd.fuzzing", laid_framesunpacked_pub_zstd_fuzzing)], narrowed := true }
def FnCutIsToldUptoSaid : Prop := fnCutIsToldUptoRow.holds Tryz.pinned (OpenSpec.upto fnCutIsToldSpec)

/-- 'laws.FnFramesAddUp', WHERE WHAT IT READS IS OF BULK AT MOST 1048576: true; the input reads as it did. -/
def fnFramesAddUpUptoRow : OpenClaim := { program := "ytogmacnlpclgkaagreatdoor", sum := "7213a32ae96f5dc52addbf5fc70cdf5a29499771d28d27a8d5643f3560421248", func := "framesunpacked/laws.FnFramesAddUp", spec := "fnFramesAddUp", unfollowed := true, recurses := true, named := ["io.EOF", "io.ErrUnexpectedEOF", "framesunpacked/pub/zstd.fuzzing", "io.ErrShortBuffer", "framesunpacked/pub/zstd.literalLengthBase", "framesunpacked/pub/zstd.matchLengthBase"], apart := false, laid := [("io.ErrShortBuffer", laid_io_ErrShortBuffer), ("io.EOF", laid_io_EOF), ("io.ErrUnexpectedEOF", laid_io_ErrUnexpectedEOF), ("framesunpacked/pub/zstd.literalLengthBase", laid_framesunpacked_pub_zstd_literalLengthBase), ("framesunpacked/pub/zstd.matchLengthBase", laid_framesunpacked_pub_zstd_matchLengthBase), ("framesunpacked/pub/zstd.fuzzing", laid_framesunpacked_pub_zstd_fuzzing)], narrowed := true }
def FnFramesAddUpUptoSaid : Prop := fnFramesAddUpUptoRow.holds Tryz.pinned (OpenSpec.upto fnFramesAddUpSpec)

/-- 'laws.FnHeadersAgree', WHERE WHAT IT READS IS OF BULK AT MOST 1048576: true; the input reads as it did. -/
def fnHeadersAgreeUptoRow : OpenClaim := { program := "ytogmacnlpclgkaagreatdoor", sum := "7213a32ae96f5dc52addbf5fc70cdf5a29499771d28d27a8d5643f3560421248", func := "framesunpacked/laws.FnHeadersAgree", spec := "fnHeadersAgree", unfollowed := true, recurses := true, named := ["io.EOF", "io.ErrUnexpectedEOF", "framesunpacked/pub/zstd.fuzzing", "io.ErrShortBuffer", "framesunpacked/pub/zstd.literalLengthBase", "framesunpacked/pub/zstd.matchLengthBase"], apart := false, laid := [("io.ErrShortBuffer", laid_io_ErrShortBuffer), ("io.EOF", laid_io_EOF), ("io.ErrUnexpectedEOF", laid_io_ErrUnexpectedEOF), ("framesunpacked/pub/zstd.literalLengthBase", laid_framesunpacked_pub_zstd_literalLengthBase), ("framesunpacked/pub/zstd.matchLengthBase", laid_framesunpacked_pub_zstd_matchLengthBase), ("framesunpacked/pub/zstd.fuzzing", laid_framesunpacked_pub_zstd_fuzzing)], narrowed := true }
def FnHeadersAgreeUptoSaid : Prop := fnHeadersAgreeUptoRow.holds Tryz.pinned (OpenSpec.upto fnHeadersAgreeSpec)

/-- 'laws.FnRead', WHERE WHAT IT READS IS OF BULK AT MOST 1048576: true; the input reads as it did. -/
def fnReadUptoRow : OpenClaim := { program := "ytogmacnlpclgkaagreatdoor", sum := "7213a32ae96f5dc52addbf5fc70cdf5a29499771d28d27a8d5643f3560421248", func := "framesunpacked/laws.FnRead", spec := "fnRead", unfollowed := true, recurses := true, named := ["io.EOF", "io.ErrUnexpectedEOF", "framesunpacked/pub/zstd.fuzzing", "io.ErrShortBuffer", "framesunpacked/pub/zstd.literalLengthBase", "framesunpacked/pub/zstd.matchLengthBase"], apart := false, laid := [("io.ErrShortBuffer", laid_io_ErrShortBuffer), ("io.EOF", laid_io_EOF), ("io.ErrUnexpectedEOF", laid_io_ErrUnexpectedEOF), ("framesunpacked/pub/zstd.literalLengthBase", laid_framesunpacked_pub_zstd_literalLengthBase), ("framesunpacked/pub/zstd.matchLengthBase", laid_framesunpacked_pub_zstd_matchLengthBase), ("framesunpacked/pub/zstd.fuzzing", laid_framesunpacked_pub_zstd_fuzzing)], narrowed := true }
def FnReadUptoSaid : Prop := fnReadUptoRow.holds Tryz.pinned (OpenSpec.upto fnReadSpec)

/-- 'laws.FnSkippedAddsNothing', WHERE WHAT IT READS IS OF BULK AT MOST 1048576: true; the input reads as it did. -/
def fnSkippedAddsNothingUptoRow : OpenClaim := { program := "ytogmacnlpclgkaagreatdoor", sum := "7213a32ae96f5dc52addbf5fc70cdf5a29499771d28d27a8d5643f3560421248", func := "framesunpacked/laws.FnSkippedAddsNothing", spec := "fnSkippedAddsNothing", unfollowed := true, recurses := true, named := ["io.EOF", "io.ErrUnexpectedEOF", "framesunpacked/pub/zstd.fuzzing", "io.ErrShortBuffer", "framesunpacked/pub/zstd.literalLengthBase", "framesunpacked/pub/zstd.matchLengthBase"], apart := false, laid := [("io.ErrShortBuffer", laid_io_ErrShortBuffer), ("io.EOF", laid_io_EOF), ("io.ErrUnexpectedEOF", laid_io_ErrUnexpectedEOF), ("framesunpacked/pub/zstd.literalLengthBase", laid_framesunpacked_pub_zstd_literalLengthBase), ("framesunpacked/pub/zstd.matchLengthBase", laid_framesunpacked_pub_zstd_matchLengthBase), ("framesunpacked/pub/zstd.fuzzing", laid_framesunpacked_pub_zstd_fuzzing)], narrowed := true }
def FnSkippedAddsNothingUptoSaid : Prop := fnSkippedAddsNothingUptoRow.holds Tryz.pinned (OpenSpec.upto fnSkippedAddsNothingSpec)

/-- 'laws.FnBytesAgree', WHERE WHAT IT READS IS OF BULK AT MOST 1048576: true; the input reads as it did. -/
def fnBytesAgreeUptoRow : OpenClaim := { program := "ytogmacnlpclgkaagreatdoor", sum := "7213a32ae96f5dc52addbf5fc70cdf5a29499771d28d27a8d5643f3560421248", func := "framesunpacked/laws.FnBytesAgree", spec := "fnBytesAgree", unfollowed := true, recurses := true, named := ["io.EOF", "io.ErrUnexpectedEOF", "framesunpacked/pub/zstd.fuzzing", "io.ErrShortBuffer", "framesunpacked/pub/zstd.literalLengthBase", "framesunpacked/pub/zstd.matchLengthBase"], apart := false, laid := [("io.ErrShortBuffer", laid_io_ErrShortBuffer), ("io.EOF", laid_io_EOF), ("io.ErrUnexpectedEOF", laid_io_ErrUnexpectedEOF), ("framesunpacked/pub/zstd.literalLengthBase", laid_framesunpacked_pub_zstd_literalLengthBase), ("framesunpacked/pub/zstd.matchLengthBase", laid_framesunpacked_pub_zstd_matchLengthBase), ("framesunpacked/pub/zstd.fuzzing", laid_framesunpacked_pub_zstd_fuzzing)], narrowed := true }
def FnBytesAgreeUptoSaid : Prop := fnBytesAgreeUptoRow.holds Tryz.pinned (OpenSpec.upto fnBytesAgreeSpec)

/-- 'laws.FnPiecesAgree', WHERE WHAT IT READS IS OF BULK AT MOST 1048576: true; the input reads as it did. -/
def fnPiecesAgreeUptoRow : OpenClaim := { program := "ytogmacnlpclgkaagreatdoor", sum := "7213a32ae96f5dc52addbf5fc70cdf5a29499771d28d27a8d5643f3560421248", func := "framesunpacked/laws.FnPiecesAgree", spec := "fnPiecesAgree", unfollowed := true, recurses := true, named := ["io.EOF", "io.ErrUnexpectedEOF", "framesunpacked/pub/zstd.fuzzing", "io.ErrShortBuffer", "framesunpacked/pub/zstd.literalLengthBase", "framesunpacked/pub/zstd.matchLengthBase"], apart := false, laid := [("io.ErrShortBuffer", laid_io_ErrShortBuffer), ("io.EOF", laid_io_EOF), ("io.ErrUnexpectedEOF", laid_io_ErrUnexpectedEOF), ("framesunpacked/pub/zstd.literalLengthBase", laid_framesunpacked_pub_zstd_literalLengthBase), ("framesunpacked/pub/zstd.matchLengthBase", laid_framesunpacked_pub_zstd_matchLengthBase), ("framesunpacked/pub/zstd.fuzzing", laid_framesunpacked_pub_zstd_fuzzing)], narrowed := true }
def FnPiecesAgreeUptoSaid : Prop := fnPiecesAgreeUptoRow.holds Tryz.pinned (OpenSpec.upto fnPiecesAgreeSpec)

/-- 'laws.FnWrongIsToldInPieces', WHERE WHAT IT READS IS OF BULK AT MOST 1048576: true; the input reads as it did. -/
def fnWrongIsToldInPiecesUptoRow : OpenClaim := { program := "ytogmacnlpclgkaagreatdoor", sum := "7213a32ae96f5dc52addbf5fc70cdf5a29499771d28d27a8d5643f3560421248", func := "framesunpacked/laws.FnWrongIsToldInPieces", spec := "fnWrongIsToldInPieces", unfollowed := true, recurses := true, named := ["io.EOF", "io.ErrUnexpectedEOF", "framesunpacked/pub/zstd.fuzzing", "io.ErrShortBuffer", "framesunpacked/pub/zstd.literalLengthBase", "framesunpacked/pub/zstd.matchLengthBase"], apart := false, laid := [("io.ErrShortBuffer", laid_io_ErrShortBuffer), ("io.EOF", laid_io_EOF), ("io.ErrUnexpectedEOF", laid_io_ErrUnexpectedEOF), ("framesunpacked/pub/zstd.literalLengthBase", laid_framesunpacked_pub_zstd_literalLengthBase), ("framesunpacked/pub/zstd.matchLengthBase", laid_framesunpacked_pub_zstd_matchLengthBase), ("framesunpacked/pub/zstd.fuzzing", laid_framesunpacked_pub_zstd_fuzzing)], narrowed := true }
def FnWrongIsToldInPiecesUptoSaid : Prop := fnWrongIsToldInPiecesUptoRow.holds Tryz.pinned (OpenSpec.upto fnWrongIsToldInPiecesSpec)

/-- 'laws.FnSlowAgrees', WHERE WHAT IT READS IS OF BULK AT MOST 1048576: true; the input reads as it did. -/
def fnSlowAgreesUptoRow : OpenClaim := { program := "ytogmacnlpclgkaagreatdoor", sum := "7213a32ae96f5dc52addbf5fc70cdf5a29499771d28d27a8d5643f3560421248", func := "framesunpacked/laws.FnSlowAgrees", spec := "fnSlowAgrees", unfollowed := true, recurses := true, named := ["io.EOF", "io.ErrUnexpectedEOF", "framesunpacked/pub/zstd.fuzzing", "io.ErrShortBuffer", "framesunpacked/pub/zstd.literalLengthBase", "framesunpacked/pub/zstd.matchLengthBase"], apart := false, laid := [("io.ErrShortBuffer", laid_io_ErrShortBuffer), ("io.EOF", laid_io_EOF), ("io.ErrUnexpectedEOF", laid_io_ErrUnexpectedEOF), ("framesunpacked/pub/zstd.literalLengthBase", laid_framesunpacked_pub_zstd_literalLengthBase), ("framesunpacked/pub/zstd.matchLengthBase", laid_framesunpacked_pub_zstd_matchLengthBase), ("framesunpacked/pub/zstd.fuzzing", laid_framesunpacked_pub_zstd_fuzzing)], narrowed := true }
def FnSlowAgreesUptoSaid : Prop := fnSlowAgreesUptoRow.holds Tryz.pinned (OpenSpec.upto fnSlowAgreesSpec)

/-- 'laws.FnResetForgets', WHERE WHAT IT READS IS OF BULK AT MOST 1048576: true; the input reads as it did. -/
def fnResetForgetsUptoRow : OpenClaim := { program := "ytogmacnlpclgkaagreatdoor", sum := "7213a32ae96f5dc52addbf5fc70cdf5a29499771d28d27a8d5643f3560421248", func := "framesunpacked/laws.FnResetForgets", spec := "fnResetForgets", unfollowed := true, recurses := true, named := ["io.EOF", "io.ErrUnexpectedEOF", "framesunpacked/pub/zstd.fuzzing", "io.ErrShortBuffer", "framesunpacked/pub/zstd.literalLengthBase", "framesunpacked/pub/zstd.matchLengthBase"], apart := false, laid := [("io.ErrShortBuffer", laid_io_ErrShortBuffer), ("io.EOF", laid_io_EOF), ("io.ErrUnexpectedEOF", laid_io_ErrUnexpectedEOF), ("framesunpacked/pub/zstd.literalLengthBase", laid_framesunpacked_pub_zstd_literalLengthBase), ("framesunpacked/pub/zstd.matchLengthBase", laid_framesunpacked_pub_zstd_matchLengthBase), ("framesunpacked/pub/zstd.fuzzing", laid_framesunpacked_pub_zstd_fuzzing)], narrowed := true }
def FnResetForgetsUptoSaid : Prop := fnResetForgetsUptoRow.holds Tryz.pinned (OpenSpec.upto fnResetForgetsSpec)

end Rows
end Go.Proofs.YtogmacnlpclgkaaGreatDoor
