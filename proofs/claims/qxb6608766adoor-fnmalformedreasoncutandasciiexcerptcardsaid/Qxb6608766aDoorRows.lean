/-
  NARROWER THAN 'FOR EVERY INPUT', by the rows' own cells (each row's printed sentence says how): FnSkipLineStopsAtNextLineFeed: laid · FnSkipLineStreamingAgreesWithWholeText: laid · FnMalformedReasonCutAndAsciiExcerpt: laid · FnMalformedReadsOnlyTheNextBytes: laid.
  DERIVED. THE GIVEN ROWS OF THIS SEAT. 4 by the template 'for every input the law returns true; each argument reads behind the call as it read before'; 0 by the template 'total and deterministic' (their statements: Qxb6608766aDoorTotals.lean).
  GIVEN WITH THE SEED: the statements are not yours to turn. If you find one false, say at which input.
  Laid BY PROGRAM, IN A SANDBOX (cutbox-rows.mjs): the forced cells as the released guide's own fill.sh prints them over the translation 00c04f5358a0f857… (all of the seat's roots in one cut). By AI agents, Wed Nov 11 2026. No macro, syntax, notation, axiom, sorry.
-/
import Derived.Test.Qxb6608766aDoorChecked
import GoSem.PinnedTables
import GoSem.Claim
import GoSem.ClaimJoined
import GoSem.ClaimMapViews
import Derived.JoinedTies
import Derived.KernelRfl
namespace Go.Proofs.Qxb6608766aDoor
/- THE CELL 'sum', in the pinned program and in every row, IS THE sha256 OF THE DUMP (.gsa) THAT Qxb6608766aDoorProg.lean LOADS. Nothing in Lean hashes anything: it is a label: what it is worth is what the hold of that sum in a sandbox is worth. -/
noncomputable def Tryd.pinned : Pinned := { name := "qxb6608766adoor", sum := "00c04f5358a0f857a1420f84138f4c234e0ee6e82d117bc18d46b1a33f5c589c", checked := Tryd.checked }
namespace Rows
def none {H : Type} : Left H := { results := [], args := [] }

/- WHAT THE LISTED PACKAGE-LEVEL VARIABLES READ AS WHEN THE CALL BEGINS. Each datum BY PROGRAM (the guide's laid-datum.mjs) off the statement by which the dump's own 'gosem.cut.vars' lays the variable. In a bare row this is a premise. The card (Qxb6608766aDoorCards.lean) ties it to the program's text. -/
def laid_io_EOF {H : Type} : DataW H := .iface "*errors.errorString" (.ptr (.agg [.lit (.string [69, 79, 70])]))
def laid_io_ErrNoProgress {H : Type} : DataW H := .iface "*errors.errorString" (.ptr (.agg [.lit (.string [109, 117, 108, 116, 105, 112, 108, 101, 32, 82, 101, 97, 100, 32, 99, 97, 108, 108, 115, 32, 114, 101, 116, 117, 114, 110, 32, 110, 111, 32, 100, 97, 116, 97, 32, 111, 114, 32, 101, 114, 114, 111, 114])]))
def laid_unicode_utf8_acceptRanges {H : Type} : DataW H := .agg [.agg [.lit (.int .u8 128), .lit (.int .u8 191)], .agg [.lit (.int .u8 160), .lit (.int .u8 191)], .agg [.lit (.int .u8 128), .lit (.int .u8 159)], .agg [.lit (.int .u8 144), .lit (.int .u8 191)], .agg [.lit (.int .u8 128), .lit (.int .u8 143)], .agg [.lit (.int .u8 0), .lit (.int .u8 0)], .agg [.lit (.int .u8 0), .lit (.int .u8 0)], .agg [.lit (.int .u8 0), .lit (.int .u8 0)], .agg [.lit (.int .u8 0), .lit (.int .u8 0)], .agg [.lit (.int .u8 0), .lit (.int .u8 0)], .agg [.lit (.int .u8 0), .lit (.int .u8 0)], .agg [.lit (.int .u8 0), .lit (.int .u8 0)], .agg [.lit (.int .u8 0), .lit (.int .u8 0)], .agg [.lit (.int .u8 0), .lit (.int .u8 0)], .agg [.lit (.int .u8 0), .lit (.int .u8 0)], .agg [.lit (.int .u8 0), .lit (.int .u8 0)]]
/-- One of Go's own tables, pinned by name: the form's constant. -/
def laid_strconv_isGraphic : DataW Unit := Go.Pinned.isGraphic
/-- One of Go's own tables, pinned by name: the form's constant. -/
def laid_strconv_isNotPrint16 : DataW Unit := Go.Pinned.isNotPrint16
/-- One of Go's own tables, pinned by name: the form's constant. -/
def laid_strconv_isNotPrint32 : DataW Unit := Go.Pinned.isNotPrint32
/-- One of Go's own tables, pinned by name: the form's constant. -/
def laid_strconv_isPrint16 : DataW Unit := Go.Pinned.isPrint16
/-- One of Go's own tables, pinned by name: the form's constant. -/
def laid_strconv_isPrint32 : DataW Unit := Go.Pinned.isPrint32
/-- One of Go's own tables, pinned by name: the form's constant. -/
def laid_unicode_utf8_first : DataW Unit := Go.Pinned.utf8First

/-- 'zzlaws_pkg_schedule_b1.FnSkipLineStopsAtNextLineFeed': WHATEVER THE INPUT: true; the input reads as it did. -/
def fnSkipLineStopsAtNextLineFeedSpec : ChangeSpec := { name := "fnSkipLineStopsAtNextLineFeed", fn := fun _ => fun
  | [d1, d2] => { results := [.lit (.bool true)], args := [d1, d2] }
  | _ => none }
def fnSkipLineStopsAtNextLineFeedRow : OpenClaim := { program := "qxb6608766adoor", sum := "00c04f5358a0f857a1420f84138f4c234e0ee6e82d117bc18d46b1a33f5c589c", func := "example.com/interlace/interlace/zzlaws_pkg_schedule_b1.FnSkipLineStopsAtNextLineFeed", spec := "fnSkipLineStopsAtNextLineFeed", inPlace := ["internal/bytealg.IndexByte"], unfollowed := true, recurses := true, named := ["io.EOF", "io.ErrNoProgress"], apart := false, laid := [("io.EOF", laid_io_EOF), ("io.ErrNoProgress", laid_io_ErrNoProgress)] }
def FnSkipLineStopsAtNextLineFeedSaid : Prop := fnSkipLineStopsAtNextLineFeedRow.holds Tryd.pinned (OpenSpec.ofChange fnSkipLineStopsAtNextLineFeedSpec)

/-- ITS FALSE NEIGHBOUR: 'it returns false'. Refute it at one input. -/
def fnSkipLineStopsAtNextLineFeedWrong : ChangeSpec := { name := "fnSkipLineStopsAtNextLineFeed", fn := fun _ => fun
  | [d1, d2] => { results := [.lit (.bool false)], args := [d1, d2] }
  | _ => none }
def FnSkipLineStopsAtNextLineFeedWrongFalsely : Prop := fnSkipLineStopsAtNextLineFeedRow.holds Tryd.pinned (OpenSpec.ofChange fnSkipLineStopsAtNextLineFeedWrong)

/-- 'zzlaws_pkg_schedule_b1.FnSkipLineStreamingAgreesWithWholeText': WHATEVER THE INPUT: true; the input reads as it did. -/
def fnSkipLineStreamingAgreesWithWholeTextSpec : ChangeSpec := { name := "fnSkipLineStreamingAgreesWithWholeText", fn := fun _ => fun
  | [d1, d2] => { results := [.lit (.bool true)], args := [d1, d2] }
  | _ => none }
def fnSkipLineStreamingAgreesWithWholeTextRow : OpenClaim := { program := "qxb6608766adoor", sum := "00c04f5358a0f857a1420f84138f4c234e0ee6e82d117bc18d46b1a33f5c589c", func := "example.com/interlace/interlace/zzlaws_pkg_schedule_b1.FnSkipLineStreamingAgreesWithWholeText", spec := "fnSkipLineStreamingAgreesWithWholeText", inPlace := ["internal/bytealg.IndexByte"], unfollowed := true, recurses := true, named := ["io.EOF", "io.ErrNoProgress"], apart := false, laid := [("io.EOF", laid_io_EOF), ("io.ErrNoProgress", laid_io_ErrNoProgress)] }
def FnSkipLineStreamingAgreesWithWholeTextSaid : Prop := fnSkipLineStreamingAgreesWithWholeTextRow.holds Tryd.pinned (OpenSpec.ofChange fnSkipLineStreamingAgreesWithWholeTextSpec)

/-- ITS FALSE NEIGHBOUR: 'it returns false'. Refute it at one input. -/
def fnSkipLineStreamingAgreesWithWholeTextWrong : ChangeSpec := { name := "fnSkipLineStreamingAgreesWithWholeText", fn := fun _ => fun
  | [d1, d2] => { results := [.lit (.bool false)], args := [d1, d2] }
  | _ => none }
def FnSkipLineStreamingAgreesWithWholeTextWrongFalsely : Prop := fnSkipLineStreamingAgreesWithWholeTextRow.holds Tryd.pinned (OpenSpec.ofChange fnSkipLineStreamingAgreesWithWholeTextWrong)

/-- 'zzlaws_pkg_schedule_b1.FnMalformedReasonCutAndAsciiExcerpt': WHATEVER THE INPUT: true; the input reads as it did. -/
def fnMalformedReasonCutAndAsciiExcerptSpec : ChangeSpec := { name := "fnMalformedReasonCutAndAsciiExcerpt", fn := fun _ => fun
  | [d1, d2, d3, d4] => { results := [.lit (.bool true)], args := [d1, d2, d3, d4] }
  | _ => none }
def fnMalformedReasonCutAndAsciiExcerptRow : OpenClaim := { program := "qxb6608766adoor", sum := "00c04f5358a0f857a1420f84138f4c234e0ee6e82d117bc18d46b1a33f5c589c", func := "example.com/interlace/interlace/zzlaws_pkg_schedule_b1.FnMalformedReasonCutAndAsciiExcerpt", spec := "fnMalformedReasonCutAndAsciiExcerpt", unfollowed := true, recurses := true, named := ["io.EOF", "io.ErrNoProgress", "unicode/utf8.first", "unicode/utf8.acceptRanges", "strconv.isPrint16", "strconv.isNotPrint16", "strconv.isPrint32", "strconv.isNotPrint32", "strconv.isGraphic"], apart := false, laid := [("unicode/utf8.acceptRanges", laid_unicode_utf8_acceptRanges), ("io.EOF", laid_io_EOF), ("io.ErrNoProgress", laid_io_ErrNoProgress), ("strconv.isGraphic", laid_strconv_isGraphic), ("strconv.isNotPrint16", laid_strconv_isNotPrint16), ("strconv.isNotPrint32", laid_strconv_isNotPrint32), ("strconv.isPrint16", laid_strconv_isPrint16), ("strconv.isPrint32", laid_strconv_isPrint32), ("unicode/utf8.first", laid_unicode_utf8_first)] }
def FnMalformedReasonCutAndAsciiExcerptSaid : Prop := fnMalformedReasonCutAndAsciiExcerptRow.holds Tryd.pinned (OpenSpec.ofChange fnMalformedReasonCutAndAsciiExcerptSpec)

/-- ITS FALSE NEIGHBOUR: 'it returns false'. Refute it at one input. -/
def fnMalformedReasonCutAndAsciiExcerptWrong : ChangeSpec := { name := "fnMalformedReasonCutAndAsciiExcerpt", fn := fun _ => fun
  | [d1, d2, d3, d4] => { results := [.lit (.bool false)], args := [d1, d2, d3, d4] }
  | _ => none }
def FnMalformedReasonCutAndAsciiExcerptWrongFalsely : Prop := fnMalformedReasonCutAndAsciiExcerptRow.holds Tryd.pinned (OpenSpec.ofChange fnMalformedReasonCutAndAsciiExcerptWrong)

/-- 'zzlaws_pkg_schedule_b1.FnMalformedReadsOnlyTheNextBytes': WHATEVER THE INPUT: true; the input reads as it did. -/
def fnMalformedReadsOnlyTheNextBytesSpec : ChangeSpec := { name := "fnMalformedReadsOnlyTheNextBytes", fn := fun _ => fun
  | [d1, d2, d3] => { results := [.lit (.bool true)], args := [d1, d2, d3] }
  | _ => none }
def fnMalformedReadsOnlyTheNextBytesRow : OpenClaim := { program := "qxb6608766adoor", sum := "00c04f5358a0f857a1420f84138f4c234e0ee6e82d117bc18d46b1a33f5c589c", func := "example.com/interlace/interlace/zzlaws_pkg_schedule_b1.FnMalformedReadsOnlyTheNextBytes", spec := "fnMalformedReadsOnlyTheNextBytes", unfollowed := true, recurses := true, named := ["io.EOF", "io.ErrNoProgress", "unicode/utf8.first", "unicode/utf8.acceptRanges", "strconv.isPrint16", "strconv.isNotPrint16", "strconv.isPrint32", "strconv.isNotPrint32", "strconv.isGraphic"], apart := false, laid := [("unicode/utf8.acceptRanges", laid_unicode_utf8_acceptRanges), ("io.EOF", laid_io_EOF), ("io.ErrNoProgress", laid_io_ErrNoProgress), ("strconv.isGraphic", laid_strconv_isGraphic), ("strconv.isNotPrint16", laid_strconv_isNotPrint16), ("strconv.isNotPrint32", laid_strconv_isNotPrint32), ("strconv.isPrint16", laid_strconv_isPrint16), ("strconv.isPrint32", laid_strconv_isPrint32), ("unicode/utf8.first", laid_unicode_utf8_first)] }
def FnMalformedReadsOnlyTheNextBytesSaid : Prop := fnMalformedReadsOnlyTheNextBytesRow.holds Tryd.pinned (OpenSpec.ofChange fnMalformedReadsOnlyTheNextBytesSpec)

/-- ITS FALSE NEIGHBOUR: 'it returns false'. Refute it at one input. -/
def fnMalformedReadsOnlyTheNextBytesWrong : ChangeSpec := { name := "fnMalformedReadsOnlyTheNextBytes", fn := fun _ => fun
  | [d1, d2, d3] => { results := [.lit (.bool false)], args := [d1, d2, d3] }
  | _ => none }
def FnMalformedReadsOnlyTheNextBytesWrongFalsely : Prop := fnMalformedReadsOnlyTheNextBytesRow.holds Tryd.pinned (OpenSpec.ofChange fnMalformedReadsOnlyTheNextBytesWrong)

end Rows
end Go.Proofs.Qxb6608766aDoor
