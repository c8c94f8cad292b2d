/-
  NARROWER THAN 'FOR EVERY INPUT', by the rows' own cells (each row's printed sentence says how): FnChangedIsReadOrTold: laid · FnEncodedIsRead: laid.
  DERIVED. THE GIVEN ROWS OF THIS SEAT. 2 by the template 'for every input the law returns true; each argument reads behind the call as it read before'; 0 by the template 'total and deterministic' (their statements: YtmgkiicjpmihfaaGreatDoorTotals.lean).
  GIVEN WITH THE SEED: the statements are not yours to turn. If you find one false, say at which input.
  Laid BY PROGRAM, IN A SANDBOX (cutbox-rows.mjs): the forced cells as the released guide's own fill.sh prints them over the translation ab0e6d03ba4969e6… (all of the seat's roots in one cut). By AI agents, Wed Nov 11 2026. No macro, syntax, notation, axiom, sorry.
-/
import Derived.Test.YtmgkiicjpmihfaaGreatDoorChecked
import GoSem.Claim
import GoSem.ClaimJoined
import GoSem.ClaimMapViews
import Derived.JoinedTies
import Derived.KernelRfl
namespace Go.Proofs.YtmgkiicjpmihfaaGreatDoor
/- THE CELL 'sum', in the pinned program and in every row, IS THE sha256 OF THE DUMP (.gsa) THAT YtmgkiicjpmihfaaGreatDoorProg.lean LOADS. Nothing in Lean hashes anything: it is a label: what it is worth is what the hold of that sum in a sandbox is worth. -/
noncomputable def Tryz.pinned : Pinned := { name := "ytmgkiicjpmihfaagreatdoor", sum := "ab0e6d03ba4969e6c30fdb2b378f89876878eded04b43910bda2d2ce27d40e1d", checked := Tryz.checked }
namespace Rows
def none {H : Type} : Left H := { results := [], args := [] }

/- WHAT THE LISTED PACKAGE-LEVEL VARIABLES READ AS WHEN THE CALL BEGINS. Each datum BY PROGRAM (the guide's laid-datum.mjs) off the statement by which the dump's own 'gosem.cut.vars' lays the variable. In a bare row this is a premise. The card (YtmgkiicjpmihfaaGreatDoorCards.lean) ties it to the program's text. -/
def laid_io_ErrShortBuffer {H : Type} : DataW H := .iface "*errors.errorString" (.ptr (.agg [.lit (.string [115, 104, 111, 114, 116, 32, 98, 117, 102, 102, 101, 114])]))
def laid_io_EOF {H : Type} : DataW H := .iface "*errors.errorString" (.ptr (.agg [.lit (.string [69, 79, 70])]))
def laid_io_ErrUnexpectedEOF {H : Type} : DataW H := .iface "*errors.errorString" (.ptr (.agg [.lit (.string [117, 110, 101, 120, 112, 101, 99, 116, 101, 100, 32, 69, 79, 70])]))
def laid_framesunpacked_pub_zstd_literalLengthBase {H : Type} : DataW H := .slice [.lit (.int .u32 16777232), .lit (.int .u32 16777234), .lit (.int .u32 16777236), .lit (.int .u32 16777238), .lit (.int .u32 33554456), .lit (.int .u32 33554460), .lit (.int .u32 50331680), .lit (.int .u32 50331688), .lit (.int .u32 67108912), .lit (.int .u32 100663360), .lit (.int .u32 117440640), .lit (.int .u32 134217984), .lit (.int .u32 150995456), .lit (.int .u32 167773184), .lit (.int .u32 184551424), .lit (.int .u32 201330688), .lit (.int .u32 218112000), .lit (.int .u32 234897408), .lit (.int .u32 251691008), .lit (.int .u32 268500992)] []
def laid_framesunpacked_pub_zstd_matchLengthBase {H : Type} : DataW H := .slice [.lit (.int .u32 16777251), .lit (.int .u32 16777253), .lit (.int .u32 16777255), .lit (.int .u32 16777257), .lit (.int .u32 33554475), .lit (.int .u32 33554479), .lit (.int .u32 50331699), .lit (.int .u32 50331707), .lit (.int .u32 67108931), .lit (.int .u32 67108947), .lit (.int .u32 83886179), .lit (.int .u32 117440643), .lit (.int .u32 134217987), .lit (.int .u32 150995459), .lit (.int .u32 167773187), .lit (.int .u32 184551427), .lit (.int .u32 201330691), .lit (.int .u32 218112003), .lit (.int .u32 234897411), .lit (.int .u32 251691011), .lit (.int .u32 268500995)] []
def laid_framesunpacked_pub_zstd_fuzzing {H : Type} : DataW H := .lit (.bool false)

/-- 'laws.FnChangedIsReadOrTold': WHATEVER THE INPUT: true; the input reads as it did. -/
def fnChangedIsReadOrToldSpec : ChangeSpec := { name := "fnChangedIsReadOrTold", fn := fun _ => fun
  | [d1, d2, d3, d4] => { results := [.lit (.bool true)], args := [d1, d2, d3, d4] }
  | _ => none }
def fnChangedIsReadOrToldRow : OpenClaim := { program := "ytmgkiicjpmihfaagreatdoor", sum := "ab0e6d03ba4969e6c30fdb2b378f89876878eded04b43910bda2d2ce27d40e1d", func := "framesunpacked/laws.FnChangedIsReadOrTold", spec := "fnChangedIsReadOrTold", unfollowed := true, recurses := true, named := ["io.EOF", "io.ErrUnexpectedEOF", "framesunpacked/pub/zstd.fuzzing", "io.ErrShortBuffer", "framesunpacked/pub/zstd.literalLengthBase", "framesunpacked/pub/zstd.matchLengthBase"], apart := false, laid := [("io.ErrShortBuffer", laid_io_ErrShortBuffer), ("io.EOF", laid_io_EOF), ("io.ErrUnexpectedEOF", laid_io_ErrUnexpectedEOF), ("framesunpacked/pub/zstd.literalLengthBase", laid_framesunpacked_pub_zstd_literalLengthBase), ("framesunpacked/pub/zstd.matchLengthBase", laid_framesunpacked_pub_zstd_matchLengthBase), ("framesunpacked/pub/zstd.fuzzing", laid_framesunpacked_pub_zstd_fuzzing)] }
def FnChangedIsReadOrToldSaid : Prop := fnChangedIsReadOrToldRow.holds Tryz.pinned (OpenSpec.ofChange fnChangedIsReadOrToldSpec)

/-- ITS FALSE NEIGHBOUR: 'it returns false'. Refute it at one input. -/
def fnChangedIsReadOrToldWrong : ChangeSpec := { name := "fnChangedIsReadOrTold", fn := fun _ => fun
  | [d1, d2, d3, d4] => { results := [.lit (.bool false)], args := [d1, d2, d3, d4] }
  | _ => none }
def FnChangedIsReadOrToldWrongFalsely : Prop := fnChangedIsReadOrToldRow.holds Tryz.pinned (OpenSpec.ofChange fnChangedIsReadOrToldWrong)

/-- 'laws.FnEncodedIsRead': WHATEVER THE INPUT: true; the input reads as it did. -/
def fnEncodedIsReadSpec : ChangeSpec := { name := "fnEncodedIsRead", fn := fun _ => fun
  | [d1, d2] => { results := [.lit (.bool true)], args := [d1, d2] }
  | _ => none }
def fnEncodedIsReadRow : OpenClaim := { program := "ytmgkiicjpmihfaagreatdoor", sum := "ab0e6d03ba4969e6c30fdb2b378f89876878eded04b43910bda2d2ce27d40e1d", func := "framesunpacked/laws.FnEncodedIsRead", spec := "fnEncodedIsRead", unfollowed := true, recurses := true, named := ["io.EOF", "io.ErrUnexpectedEOF", "framesunpacked/pub/zstd.fuzzing", "io.ErrShortBuffer", "framesunpacked/pub/zstd.literalLengthBase", "framesunpacked/pub/zstd.matchLengthBase"], apart := false, laid := [("io.ErrShortBuffer", laid_io_ErrShortBuffer), ("io.EOF", laid_io_EOF), ("io.ErrUnexpectedEOF", laid_io_ErrUnexpectedEOF), ("framesunpacked/pub/zstd.literalLengthBase", laid_framesunpacked_pub_zstd_literalLengthBase), ("framesunpacked/pub/zstd.matchLengthBase", laid_framesunpacked_pub_zstd_matchLengthBase), ("framesunpacked/pub/zstd.fuzzing", laid_framesunpacked_pub_zstd_fuzzing)] }
def FnEncodedIsReadSaid : Prop := fnEncodedIsReadRow.holds Tryz.pinned (OpenSpec.ofChange fnEncodedIsReadSpec)

/-- ITS FALSE NEIGHBOUR: 'it returns false'. Refute it at one input. -/
def fnEncodedIsReadWrong : ChangeSpec := { name := "fnEncodedIsRead", fn := fun _ => fun
  | [d1, d2] => { results := [.lit (.bool false)], args := [d1, d2] }
  | _ => none }
def FnEncodedIsReadWrongFalsely : Prop := fnEncodedIsReadRow.holds Tryz.pinned (OpenSpec.ofChange fnEncodedIsReadWrong)

/- THE SECOND FORM. 'bulk': how many values and letters a reading holds, each counted each time it is reached (what is shared counts as often as it is met; a slice's spare places count too). A statement '..UptoSaid' is the law's where the arguments, and the package variables that the reading takes, are together of bulk at most 1048576: NARROWER than '..Said'. Prove '..Said' where nothing that the law and all that it calls make is longer than what came in: it says more and counts as full. Else prove '..UptoSaid'. A law counts once. -/
mutual
def uptoBulk {H : Type} : DataW H → Nat
  | .lit (.string bytes) => bytes.length + 1
  | .lit _ => 1
  | .nil => 1
  | .ptr d => uptoBulk d + 1
  | .slice elems spare => uptoBulkAll elems + uptoBulkAll spare + 1
  | .agg parts => uptoBulkAll parts + 1
  | .iface _ d => uptoBulk d + 1
  | .map entries => uptoBulkEntries entries + 1
  | .held _ => 1
def uptoBulkAll {H : Type} : List (DataW H) → Nat
  | [] => 0
  | d :: r => uptoBulk d + uptoBulkAll r
def uptoBulkEntries {H : Type} : List (Lit × DataW H) → Nat
  | [] => 0
  | x :: r => uptoBulkEntry x + uptoBulkEntries r
def uptoBulkEntry {H : Type} : Lit × DataW H → Nat
  | (.string bytes, d) => bytes.length + uptoBulk d + 1
  | (_, d) => uptoBulk d + 1
 end
def uptoSmall : (H : Type) → List (DataW H) → Bool := fun _ ds => decide (uptoBulkAll ds ≤ 1048576)
def OpenSpec.upto (s : _root_.Go.ChangeSpec) : _root_.Go.OpenSpec := { _root_.Go.OpenSpec.ofChange s with cond := some uptoSmall }

/-- 'laws.FnChangedIsReadOrTold', WHERE WHAT IT READS IS OF BULK AT MOST 1048576: true; the input reads as it did. -/
def fnChangedIsReadOrToldUptoRow : OpenClaim := { program := "ytmgkiicjpmihfaagreatdoor", sum := "ab0e6d03ba4969e6c30fdb2b378f89876878eded04b43910bda2d2ce27d40e1d", func := "framesunpacked/laws.FnChangedIsReadOrTold", spec := "fnChangedIsReadOrTold", unfollowed := true, recurses := true, named := ["io.EOF", "io.ErrUnexpectedEOF", "framesunpacked/pub/zstd.fuzzing", "io.ErrShortBuffer", "framesunpacked/pub/zstd.literalLengthBase", "framesunpacked/pub/zstd.matchLengthBase"], apart := false, laid := [("io.ErrShortBuffer", laid_io_ErrShortBuffer), ("io.EOF", laid_io_EOF), ("io.ErrUnexpectedEOF", laid_io_ErrUnexpectedEOF), ("framesunpacked/pub/zstd.literalLengthBase", laid_framesunpacked_pub_zstd_literalLengthBase), ("framesunpacked/pub/zstd.matchLengthBase", laid_framesunpacked_pub_zstd_matchLengthBase), ("framesunpacked/pub/zstd.fuzzing", laid_framesunpacked_pub_zstd_fuzzing)], narrowed := true }
def FnChangedIsReadOrToldUptoSaid : Prop := fnChangedIsReadOrToldUptoRow.holds Tryz.pinned (OpenSpec.upto fnChangedIsReadOrToldSpec)

/-- 'laws.FnEncodedIsRead', WHERE WHAT IT READS IS OF BULK AT MOST 1048576: true; the input reads as it did. -/
def fnEncodedIsReadUptoRow : OpenClaim := { program := "ytmgkiicjpmihfaagreatdoor", sum := "ab0e6d03ba4969e6c30fdb2b378f89876878eded04b43910bda2d2ce27d40e1d", func := "framesunpacked/laws.FnEncodedIsRead", spec := "fnEncodedIsRead", unfollowed := true, recurses := true, named := ["io.EOF", "io.ErrUnexpectedEOF", "framesunpacked/pub/zstd.fuzzing", "io.ErrShortBuffer", "framesunpacked/pub/zstd.literalLengthBase", "framesunpacked/pub/zstd.matchLengthBase"], apart := false, laid := [("io.ErrShortBuffer", laid_io_ErrShortBuffer), ("io.EOF", laid_io_EOF), ("io.ErrUnexpectedEOF", laid_io_ErrUnexpectedEOF), ("framesunpacked/pub/zstd.literalLengthBase", laid_framesunpacked_pub_zstd_literalLengthBase), ("framesunpacked/pub/zstd.matchLengthBase", laid_framesunpacked_pub_zstd_matchLengthBase), ("framesunpacked/pub/zstd.fuzzing", laid_framesunpacked_pub_zstd_fuzzing)], narrowed := true }
def FnEncodedIsReadUptoSaid : Prop := fnEncodedIsReadUptoRow.holds Tryz.pinned (OpenSpec.upto fnEncodedIsReadSpec)

end Rows
end Go.Proofs.YtmgkiicjpmihfaaGreatDoor
