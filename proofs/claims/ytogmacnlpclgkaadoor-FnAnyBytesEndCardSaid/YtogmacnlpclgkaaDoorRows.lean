/-
  NARROWER THAN 'FOR EVERY INPUT', by the rows' own cells (each row's printed sentence says how): FnHeader: laid · FnSizeIsAsked: laid · FnSumIsAsked: laid · FnAnyBytesEnd: laid.
  DERIVED. THE GIVEN ROWS OF THIS SEAT. 4 by the template 'for every input the law returns true; each argument reads behind the call as it read before'; 0 by the template 'total and deterministic' (their statements: YtogmacnlpclgkaaDoorTotals.lean).
  GIVEN WITH THE SEED: the statements are not yours to turn. If you find one false, say at which input.
  Laid BY PROGRAM, IN A SANDBOX (cutbox-rows.mjs): the forced cells as the released guide's own fill.sh prints them over the translation f81abf4391f6eaa3… (all of the seat's roots in one cut). By AI agents, Wed Nov 11 2026. No macro, syntax, notation, axiom, sorry.
-/
import Derived.Test.YtogmacnlpclgkaaDoorChecked
import GoSem.Claim
import GoSem.ClaimJoined
import GoSem.ClaimMapViews
import Derived.JoinedTies
import Derived.KernelRfl
namespace Go.Proofs.YtogmacnlpclgkaaDoor
/- THE CELL 'sum', in the pinned program and in every row, IS THE sha256 OF THE DUMP (.gsa) THAT YtogmacnlpclgkaaDoorProg.lean LOADS. Nothing in Lean hashes anything: it is a label: what it is worth is what the hold of that sum in a sandbox is worth. -/
noncomputable def Tryd.pinned : Pinned := { name := "ytogmacnlpclgkaadoor", sum := "f81abf4391f6eaa3147a89c3dd3bdda486c006617b70f8de2009d05f4803d6c7", checked := Tryd.checked }
namespace Rows
def none {H : Type} : Left H := { results := [], args := [] }

/- WHAT THE LISTED PACKAGE-LEVEL VARIABLES READ AS WHEN THE CALL BEGINS. Each datum BY PROGRAM (the guide's laid-datum.mjs) off the statement by which the dump's own 'gosem.cut.vars' lays the variable. In a bare row this is a premise. The card (YtogmacnlpclgkaaDoorCards.lean) ties it to the program's text. -/
def laid_io_ErrShortBuffer {H : Type} : DataW H := .iface "*errors.errorString" (.ptr (.agg [.lit (.string [115, 104, 111, 114, 116, 32, 98, 117, 102, 102, 101, 114])]))
def laid_io_EOF {H : Type} : DataW H := .iface "*errors.errorString" (.ptr (.agg [.lit (.string [69, 79, 70])]))
def laid_io_ErrUnexpectedEOF {H : Type} : DataW H := .iface "*errors.errorString" (.ptr (.agg [.lit (.string [117, 110, 101, 120, 112, 101, 99, 116, 101, 100, 32, 69, 79, 70])]))
def laid_framesunpacked_pub_zstd_fuzzing {H : Type} : DataW H := .lit (.bool false)
def laid_framesunpacked_pub_zstd_literalLengthBase {H : Type} : DataW H := .slice [.lit (.int .u32 16777232), .lit (.int .u32 16777234), .lit (.int .u32 16777236), .lit (.int .u32 16777238), .lit (.int .u32 33554456), .lit (.int .u32 33554460), .lit (.int .u32 50331680), .lit (.int .u32 50331688), .lit (.int .u32 67108912), .lit (.int .u32 100663360), .lit (.int .u32 117440640), .lit (.int .u32 134217984), .lit (.int .u32 150995456), .lit (.int .u32 167773184), .lit (.int .u32 184551424), .lit (.int .u32 201330688), .lit (.int .u32 218112000), .lit (.int .u32 234897408), .lit (.int .u32 251691008), .lit (.int .u32 268500992)] []
def laid_framesunpacked_pub_zstd_matchLengthBase {H : Type} : DataW H := .slice [.lit (.int .u32 16777251), .lit (.int .u32 16777253), .lit (.int .u32 16777255), .lit (.int .u32 16777257), .lit (.int .u32 33554475), .lit (.int .u32 33554479), .lit (.int .u32 50331699), .lit (.int .u32 50331707), .lit (.int .u32 67108931), .lit (.int .u32 67108947), .lit (.int .u32 83886179), .lit (.int .u32 117440643), .lit (.int .u32 134217987), .lit (.int .u32 150995459), .lit (.int .u32 167773187), .lit (.int .u32 184551427), .lit (.int .u32 201330691), .lit (.int .u32 218112003), .lit (.int .u32 234897411), .lit (.int .u32 251691011), .lit (.int .u32 268500995)] []

/-- 'laws.FnHeader': WHATEVER THE INPUT: true; the input reads as it did. -/
def fnHeaderSpec : ChangeSpec := { name := "fnHeader", fn := fun _ => fun
  | [d] => { results := [.lit (.bool true)], args := [d] }
  | _ => none }
def fnHeaderRow : OpenClaim := { program := "ytogmacnlpclgkaadoor", sum := "f81abf4391f6eaa3147a89c3dd3bdda486c006617b70f8de2009d05f4803d6c7", func := "framesunpacked/laws.FnHeader", spec := "fnHeader", unfollowed := true, recurses := true, named := ["io.EOF", "io.ErrUnexpectedEOF", "framesunpacked/pub/zstd.fuzzing", "io.ErrShortBuffer"], apart := false, laid := [("io.ErrShortBuffer", laid_io_ErrShortBuffer), ("io.EOF", laid_io_EOF), ("io.ErrUnexpectedEOF", laid_io_ErrUnexpectedEOF), ("framesunpacked/pub/zstd.fuzzing", laid_framesunpacked_pub_zstd_fuzzing)] }
def FnHeaderSaid : Prop := fnHeaderRow.holds Tryd.pinned (OpenSpec.ofChange fnHeaderSpec)

/-- ITS FALSE NEIGHBOUR: 'it returns false'. Refute it at one input. -/
def fnHeaderWrong : ChangeSpec := { name := "fnHeader", fn := fun _ => fun
  | [d] => { results := [.lit (.bool false)], args := [d] }
  | _ => none }
def FnHeaderWrongFalsely : Prop := fnHeaderRow.holds Tryd.pinned (OpenSpec.ofChange fnHeaderWrong)

/-- 'laws.FnSizeIsAsked': WHATEVER THE INPUT: true; the input reads as it did. -/
def fnSizeIsAskedSpec : ChangeSpec := { name := "fnSizeIsAsked", fn := fun _ => fun
  | [d1, d2] => { results := [.lit (.bool true)], args := [d1, d2] }
  | _ => none }
def fnSizeIsAskedRow : OpenClaim := { program := "ytogmacnlpclgkaadoor", sum := "f81abf4391f6eaa3147a89c3dd3bdda486c006617b70f8de2009d05f4803d6c7", func := "framesunpacked/laws.FnSizeIsAsked", spec := "fnSizeIsAsked", unfollowed := true, recurses := true, named := ["io.EOF", "io.ErrUnexpectedEOF", "framesunpacked/pub/zstd.fuzzing", "io.ErrShortBuffer", "framesunpacked/pub/zstd.literalLengthBase", "framesunpacked/pub/zstd.matchLengthBase"], apart := false, laid := [("io.ErrShortBuffer", laid_io_ErrShortBuffer), ("io.EOF", laid_io_EOF), ("io.ErrUnexpectedEOF", laid_io_ErrUnexpectedEOF), ("framesunpacked/pub/zstd.literalLengthBase", laid_framesunpacked_pub_zstd_literalLengthBase), ("framesunpacked/pub/zstd.matchLengthBase", laid_framesunpacked_pub_zstd_matchLengthBase), ("framesunpacked/pub/zstd.fuzzing", laid_framesunpacked_pub_zstd_fuzzing)] }
def FnSizeIsAskedSaid : Prop := fnSizeIsAskedRow.holds Tryd.pinned (OpenSpec.ofChange fnSizeIsAskedSpec)

/-- ITS FALSE NEIGHBOUR: 'it returns false'. Refute it at one input. -/
def fnSizeIsAskedWrong : ChangeSpec := { name := "fnSizeIsAsked", fn := fun _ => fun
  | [d1, d2] => { results := [.lit (.bool false)], args := [d1, d2] }
  | _ => none }
def FnSizeIsAskedWrongFalsely : Prop := fnSizeIsAskedRow.holds Tryd.pinned (OpenSpec.ofChange fnSizeIsAskedWrong)

/-- 'laws.FnSumIsAsked': WHATEVER THE INPUT: true; the input reads as it did. -/
def fnSumIsAskedSpec : ChangeSpec := { name := "fnSumIsAsked", fn := fun _ => fun
  | [d1, d2] => { results := [.lit (.bool true)], args := [d1, d2] }
  | _ => none }
def fnSumIsAskedRow : OpenClaim := { program := "ytogmacnlpclgkaadoor", sum := "f81abf4391f6eaa3147a89c3dd3bdda486c006617b70f8de2009d05f4803d6c7", func := "framesunpacked/laws.FnSumIsAsked", spec := "fnSumIsAsked", unfollowed := true, recurses := true, named := ["io.EOF", "io.ErrUnexpectedEOF", "framesunpacked/pub/zstd.fuzzing", "io.ErrShortBuffer", "framesunpacked/pub/zstd.literalLengthBase", "framesunpacked/pub/zstd.matchLengthBase"], apart := false, laid := [("io.ErrShortBuffer", laid_io_ErrShortBuffer), ("io.EOF", laid_io_EOF), ("io.ErrUnexpectedEOF", laid_io_ErrUnexpectedEOF), ("framesunpacked/pub/zstd.literalLengthBase", laid_framesunpacked_pub_zstd_literalLengthBase), ("framesunpacked/pub/zstd.matchLengthBase", laid_framesunpacked_pub_zstd_matchLengthBase), ("framesunpacked/pub/zstd.fuzzing", laid_framesunpacked_pub_zstd_fuzzing)] }
def FnSumIsAskedSaid : Prop := fnSumIsAskedRow.holds Tryd.pinned (OpenSpec.ofChange fnSumIsAskedSpec)

/-- ITS FALSE NEIGHBOUR: 'it returns false'. Refute it at one input. -/
def fnSumIsAskedWrong : ChangeSpec := { name := "fnSumIsAsked", fn := fun _ => fun
  | [d1, d2] => { results := [.lit (.bool false)], args := [d1, d2] }
  | _ => none }
def FnSumIsAskedWrongFalsely : Prop := fnSumIsAskedRow.holds Tryd.pinned (OpenSpec.ofChange fnSumIsAskedWrong)

/-- 'laws.FnAnyBytesEnd': WHATEVER THE INPUT: true; the input reads as it did. -/
def fnAnyBytesEndSpec : ChangeSpec := { name := "fnAnyBytesEnd", fn := fun _ => fun
  | [d1, d2] => { results := [.lit (.bool true)], args := [d1, d2] }
  | _ => none }
def fnAnyBytesEndRow : OpenClaim := { program := "ytogmacnlpclgkaadoor", sum := "f81abf4391f6eaa3147a89c3dd3bdda486c006617b70f8de2009d05f4803d6c7", func := "framesunpacked/laws.FnAnyBytesEnd", spec := "fnAnyBytesEnd", unfollowed := true, recurses := true, named := ["io.EOF", "io.ErrUnexpectedEOF", "framesunpacked/pub/zstd.fuzzing", "io.ErrShortBuffer", "framesunpacked/pub/zstd.literalLengthBase", "framesunpacked/pub/zstd.matchLengthBase"], apart := false, laid := [("io.ErrShortBuffer", laid_io_ErrShortBuffer), ("io.EOF", laid_io_EOF), ("io.ErrUnexpectedEOF", laid_io_ErrUnexpectedEOF), ("framesunpacked/pub/zstd.literalLengthBase", laid_framesunpacked_pub_zstd_literalLengthBase), ("framesunpacked/pub/zstd.matchLengthBase", laid_framesunpacked_pub_zstd_matchLengthBase), ("framesunpacked/pub/zstd.fuzzing", laid_framesunpacked_pub_zstd_fuzzing)] }
def FnAnyBytesEndSaid : Prop := fnAnyBytesEndRow.holds Tryd.pinned (OpenSpec.ofChange fnAnyBytesEndSpec)

/-- ITS FALSE NEIGHBOUR: 'it returns false'. Refute it at one input. -/
def fnAnyBytesEndWrong : ChangeSpec := { name := "fnAnyBytesEnd", fn := fun _ => fun
  | [d1, d2] => { results := [.lit (.bool false)], args := [d1, d2] }
  | _ => none }
def FnAnyBytesEndWrongFalsely : Prop := fnAnyBytesEndRow.holds Tryd.pinned (OpenSpec.ofChange fnAnyBytesEndWrong)

/- THE SECOND FORM. 'bulk': how many values and letters a reading holds, each counted each time it is reached (what is shared counts as often as it is met; a slice's spare places count too). A statement '..UptoSaid' is the law's where the arguments, and the package variables that the reading takes, are together of bulk at most 1048576: NARROWER than '..Said'. Prove '..Said' where nothing that the law and all that it calls make is longer than what came in: it says more and counts as full. Else prove '..UptoSaid'. A law counts once. -/
mutual
def uptoBulk {H : Type} : DataW H → Nat
  | .lit (.string bytes) => bytes.length + 1
  | .lit _ => 1
  | .nil => 1
  | .ptr d => uptoBulk d + 1
  | .slice elems spare => uptoBulkAll elems + uptoBulkAll spare + 1
  | .agg parts => uptoBulkAll parts + 1
  | .iface _ d => uptoBulk d + 1
  | .map entries => uptoBulkEntries entries + 1
  | .held _ => 1
def uptoBulkAll {H : Type} : List (DataW H) → Nat
  | [] => 0
  | d :: r => uptoBulk d + uptoBulkAll r
def uptoBulkEntries {H : Type} : List (Lit × DataW H) → Nat
  | [] => 0
  | x :: r => uptoBulkEntry x + uptoBulkEntries r
def uptoBulkEntry {H : Type} : Lit × DataW H → Nat
  | (.string bytes, d) => bytes.length + uptoBulk d + 1
  | (_, d) => uptoBulk d + 1
 end
def uptoSmall : (H : Type) → List (DataW H) → Bool := fun _ ds => decide (uptoBulkAll ds ≤ 1048576)
def OpenSpec.upto (s : _root_.Go.ChangeSpec) : _root_.Go.OpenSpec := { _root_.Go.OpenSpec.ofChange s with cond := some uptoSmall }

/-- 'laws.FnHeader', WHERE WHAT IT READS IS OF BULK AT MOST 1048576: true; the input reads as it did. -/
def fnHeaderUptoRow : OpenClaim := { program := "ytogmacnlpclgkaadoor", sum := "f81abf4391f6eaa3147a89c3dd3bdda486c006617b70f8de2009d05f4803d6c7", func := "framesunpacked/laws.FnHeader", spec := "fnHeader", unfollowed := true, recurses := true, named := ["io.EOF", "io.ErrUnexpectedEOF", "framesunpacked/pub/zstd.fuzzing", "io.ErrShortBuffer"], apart := false, laid := [("io.ErrShortBuffer", laid_io_ErrShortBuffer), ("io.EOF", laid_io_EOF), ("io.ErrUnexpectedEOF", laid_io_ErrUnexpectedEOF), ("framesunpacked/pub/zstd.fuzzing", laid_framesunpacked_pub_zstd_fuzzing)], narrowed := true }
def FnHeaderUptoSaid : Prop := fnHeaderUptoRow.holds Tryd.pinned (OpenSpec.upto fnHeaderSpec)

/-- 'laws.FnSizeIsAsked', WHERE WHAT IT READS IS OF BULK AT MOST 1048576: true; the input reads as it did. -/
def fnSizeIsAskedUptoRow : OpenClaim := { program := "ytogmacnlpclgkaadoor", sum := "f81abf4391f6eaa3147a89c3dd3bdda486c006617b70f8de2009d05f4803d6c7", func := "framesunpacked/laws.FnSizeIsAsked", spec := "fnSizeIsAsked", unfollowed := true, recurses := true, named := ["io.EOF", "io.ErrUnexpectedEOF", "framesunpacked/pub/zstd.fuzzing", "io.ErrShortBuffer", "framesunpacked/pub/zstd.literalLengthBase", "framesunpacked/pub/zstd.matchLengthBase"], apart := false, laid := [("io.ErrShortBuffer", laid_io_ErrShortBuffer), ("io.EOF", laid_io_EOF), ("io.ErrUnexpectedEOF", laid_io_ErrUnexpectedEOF), ("framesunpacked/pub/zstd.literalLengthBase", laid_framesunpacked_pub_zstd_literalLengthBase), ("framesunpacked/pub/zstd.matchLengthBase", laid_framesunpacked_pub_zstd_matchLengthBase), ("framesunpacked/pub/zstd.fuzzing", laid_framesunpacked_pub_zstd_fuzzing)], narrowed := true }
def FnSizeIsAskedUptoSaid : Prop := fnSizeIsAskedUptoRow.holds Tryd.pinned (OpenSpec.upto fnSizeIsAskedSpec)

/-- 'laws.FnSumIsAsked', WHERE WHAT IT READS IS OF BULK AT MOST 1048576: true; the input reads as it did. -/
def fnSumIsAskedUptoRow : OpenClaim := { program := "ytogmacnlpclgkaadoor", sum := "f81abf4391f6eaa3147a89c3dd3bdda486c006617b70f8de2009d05f4803d6c7", func := "framesunpacked/laws.FnSumIsAsked", spec := "fnSumIsAsked", unfollowed := true, recurses := true, named := ["io.EOF", "io.ErrUnexpectedEOF", "framesunpacked/pub/zstd.fuzzing", "io.ErrShortBuffer", "framesunpacked/pub/zstd.literalLengthBase", "framesunpacked/pub/zstd.matchLengthBase"], apart := false, laid := [("io.ErrShortBuffer", laid_io_ErrShortBuffer), ("io.EOF", laid_io_EOF), ("io.ErrUnexpectedEOF", laid_io_ErrUnexpectedEOF), ("framesunpacked/pub/zstd.literalLengthBase", laid_framesunpacked_pub_zstd_literalLengthBase), ("framesunpacked/pub/zstd.matchLengthBase", laid_framesunpacked_pub_zstd_matchLengthBase), ("framesunpacked/pub/zstd.fuzzing", laid_framesunpacked_pub_zstd_fuzzing)], narrowed := true }
def FnSumIsAskedUptoSaid : Prop := fnSumIsAskedUptoRow.holds Tryd.pinned (OpenSpec.upto fnSumIsAskedSpec)

/-- 'laws.FnAnyBytesEnd', WHERE WHAT IT READS IS OF BULK AT MOST 1048576: true; the input reads as it did. -/
def fnAnyBytesEndUptoRow : OpenClaim := { program := "ytogmacnlpclgkaadoor", sum := "f81abf4391f6eaa3147a89c3dd3bdda486c006617b70f8de2009d05f4803d6c7", func := "framesunpacked/laws.FnAnyBytesEnd", spec := "fnAnyBytesEnd", unfollowed := true, recurses := true, named := ["io.EOF", "io.ErrUnexpectedEOF", "framesunpacked/pub/zstd.fuzzing", "io.ErrShortBuffer", "framesunpacked/pub/zstd.literalLengthBase", "framesunpacked/pub/zstd.matchLengthBase"], apart := false, laid := [("io.ErrShortBuffer", laid_io_ErrShortBuffer), ("io.EOF", laid_io_EOF), ("io.ErrUnexpectedEOF", laid_io_ErrUnexpectedEOF), ("framesunpacked/pub/zstd.literalLengthBase", laid_framesunpacked_pub_zstd_literalLengthBase), ("framesunpacked/pub/zstd.matchLengthBase", laid_framesunpacked_pub_zstd_matchLengthBase), ("framesunpacked/pub/zstd.fuzzing", laid_framesunpacked_pub_zstd_fuzzing)], narrowed := true }
def FnAnyBytesEndUptoSaid : Prop := fnAnyBytesEndUptoRow.holds Tryd.pinned (OpenSpec.upto fnAnyBytesEndSpec)

end Rows
end Go.Proofs.YtogmacnlpclgkaaDoor
