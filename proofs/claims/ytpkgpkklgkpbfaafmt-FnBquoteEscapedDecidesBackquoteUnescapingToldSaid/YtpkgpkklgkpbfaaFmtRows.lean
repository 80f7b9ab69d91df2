/-
  NARROWER THAN 'FOR EVERY INPUT', by the rows' own cells (each row's printed sentence says how): FnBquoteEscapedDecidesBackquoteUnescaping: laid · FnRuneDecodesPlainInput: laid · FnRuneEscapedCRLFNewlineIsOneMarker: laid.
  DERIVED. THE GIVEN ROWS OF THIS SEAT. 3 by the template 'for every input the law returns true; each argument reads behind the call as it read before'; 0 by the template 'total and deterministic' (their statements: YtpkgpkklgkpbfaaFmtTotals.lean).
  GIVEN WITH THE SEED: the statements are not yours to turn. If you find one false, say at which input.
  Laid BY PROGRAM, IN A SANDBOX (cutbox-rows.mjs): the forced cells as the released guide's own fill.sh prints them over the translation d36842df83855a52… (all of the seat's roots in one cut). By AI agents, Wed Nov 11 2026. No macro, syntax, notation, axiom, sorry.
-/
import Derived.Test.YtpkgpkklgkpbfaaFmtChecked
import GoSem.PinnedTables
import GoSem.Claim
import GoSem.ClaimJoined
import GoSem.ClaimMapViews
import Derived.JoinedTies
import Derived.KernelRfl
namespace Go.Proofs.YtpkgpkklgkpbfaaFmt
/- THE CELL 'sum', in the pinned program and in every row, IS THE sha256 OF THE DUMP (.gsa) THAT YtpkgpkklgkpbfaaFmtProg.lean LOADS. Nothing in Lean hashes anything: it is a label: what it is worth is what the hold of that sum in a sandbox is worth. -/
noncomputable def Tryf.pinned : Pinned := { name := "ytpkgpkklgkpbfaafmt", sum := "d36842df83855a52b2ee56cda88851cee13e62c9a3c6cd74a04b12c0935751c5", checked := Tryf.checked }
namespace Rows
def none {H : Type} : Left H := { results := [], args := [] }

/- WHAT THE LISTED PACKAGE-LEVEL VARIABLES READ AS WHEN THE CALL BEGINS. Each datum BY PROGRAM (the guide's laid-datum.mjs) off the statement by which the dump's own 'gosem.cut.vars' lays the variable. In a bare row this is a premise. The card (YtpkgpkklgkpbfaaFmtCards.lean) ties it to the program's text. -/
def laid_unicode_utf8_acceptRanges {H : Type} : DataW H := .agg [.agg [.lit (.int .u8 128), .lit (.int .u8 191)], .agg [.lit (.int .u8 160), .lit (.int .u8 191)], .agg [.lit (.int .u8 128), .lit (.int .u8 159)], .agg [.lit (.int .u8 144), .lit (.int .u8 191)], .agg [.lit (.int .u8 128), .lit (.int .u8 143)], .agg [.lit (.int .u8 0), .lit (.int .u8 0)], .agg [.lit (.int .u8 0), .lit (.int .u8 0)], .agg [.lit (.int .u8 0), .lit (.int .u8 0)], .agg [.lit (.int .u8 0), .lit (.int .u8 0)], .agg [.lit (.int .u8 0), .lit (.int .u8 0)], .agg [.lit (.int .u8 0), .lit (.int .u8 0)], .agg [.lit (.int .u8 0), .lit (.int .u8 0)], .agg [.lit (.int .u8 0), .lit (.int .u8 0)], .agg [.lit (.int .u8 0), .lit (.int .u8 0)], .agg [.lit (.int .u8 0), .lit (.int .u8 0)], .agg [.lit (.int .u8 0), .lit (.int .u8 0)]]
def laid_io_EOF {H : Type} : DataW H := .iface "*errors.errorString" (.ptr (.agg [.lit (.string [69, 79, 70])]))
/-- One of Go's own tables, pinned by name: the form's constant. -/
def laid_unicode_utf8_first : DataW Unit := Go.Pinned.utf8First

/-- 'n010_110.FnBquoteEscapedDecidesBackquoteUnescaping': WHATEVER THE INPUT: true; the input reads as it did. -/
def fnBquoteEscapedDecidesBackquoteUnescapingSpec : ChangeSpec := { name := "fnBquoteEscapedDecidesBackquoteUnescaping", fn := fun _ => fun
  | [d] => { results := [.lit (.bool true)], args := [d] }
  | _ => none }
def fnBquoteEscapedDecidesBackquoteUnescapingRow : OpenClaim := { program := "ytpkgpkklgkpbfaafmt", sum := "d36842df83855a52b2ee56cda88851cee13e62c9a3c6cd74a04b12c0935751c5", func := "mvdan.cc/sh/v3/n010_110.FnBquoteEscapedDecidesBackquoteUnescaping", spec := "fnBquoteEscapedDecidesBackquoteUnescaping", stops := ["fmt.Sprintf, its operands' methods called"], inPlace := ["fmt.Sprintf"], unfollowed := true, recurses := true, named := ["io.EOF", "unicode/utf8.first", "unicode/utf8.acceptRanges"], apart := false, laid := [("unicode/utf8.acceptRanges", laid_unicode_utf8_acceptRanges), ("io.EOF", laid_io_EOF), ("unicode/utf8.first", laid_unicode_utf8_first)] }
/-- NO THEOREM (fmt's text is open here; it may be false): for the released tool's asking of the row's closed facts alone. THE STATEMENT IS 'FnBquoteEscapedDecidesBackquoteUnescapingToldSaid' (YtpkgpkklgkpbfaaFmtCards.lean). -/
def FnBquoteEscapedDecidesBackquoteUnescapingFormAsk : Prop := fnBquoteEscapedDecidesBackquoteUnescapingRow.holds Tryf.pinned (OpenSpec.ofChange fnBquoteEscapedDecidesBackquoteUnescapingSpec)

/-- ITS FALSE NEIGHBOUR: 'it returns false'. Refute it at one input. -/
def fnBquoteEscapedDecidesBackquoteUnescapingWrong : ChangeSpec := { name := "fnBquoteEscapedDecidesBackquoteUnescaping", fn := fun _ => fun
  | [d] => { results := [.lit (.bool false)], args := [d] }
  | _ => none }
def FnBquoteEscapedDecidesBackquoteUnescapingWrongFormAsk : Prop := fnBquoteEscapedDecidesBackquoteUnescapingRow.holds Tryf.pinned (OpenSpec.ofChange fnBquoteEscapedDecidesBackquoteUnescapingWrong)

/-- 'n010_110.FnRuneDecodesPlainInput': WHATEVER THE INPUT: true; the input reads as it did. -/
def fnRuneDecodesPlainInputSpec : ChangeSpec := { name := "fnRuneDecodesPlainInput", fn := fun _ => fun
  | [d] => { results := [.lit (.bool true)], args := [d] }
  | _ => none }
def fnRuneDecodesPlainInputRow : OpenClaim := { program := "ytpkgpkklgkpbfaafmt", sum := "d36842df83855a52b2ee56cda88851cee13e62c9a3c6cd74a04b12c0935751c5", func := "mvdan.cc/sh/v3/n010_110.FnRuneDecodesPlainInput", spec := "fnRuneDecodesPlainInput", stops := ["fmt.Sprintf, its operands' methods called"], inPlace := ["fmt.Sprintf"], unfollowed := true, recurses := true, named := ["io.EOF", "unicode/utf8.first", "unicode/utf8.acceptRanges"], apart := false, laid := [("unicode/utf8.acceptRanges", laid_unicode_utf8_acceptRanges), ("io.EOF", laid_io_EOF), ("unicode/utf8.first", laid_unicode_utf8_first)] }
/-- NO THEOREM (fmt's text is open here; it may be false): for the released tool's asking of the row's closed facts alone. THE STATEMENT IS 'FnRuneDecodesPlainInputToldSaid' (YtpkgpkklgkpbfaaFmtCards.lean). -/
def FnRuneDecodesPlainInputFormAsk : Prop := fnRuneDecodesPlainInputRow.holds Tryf.pinned (OpenSpec.ofChange fnRuneDecodesPlainInputSpec)

/-- ITS FALSE NEIGHBOUR: 'it returns false'. Refute it at one input. -/
def fnRuneDecodesPlainInputWrong : ChangeSpec := { name := "fnRuneDecodesPlainInput", fn := fun _ => fun
  | [d] => { results := [.lit (.bool false)], args := [d] }
  | _ => none }
def FnRuneDecodesPlainInputWrongFormAsk : Prop := fnRuneDecodesPlainInputRow.holds Tryf.pinned (OpenSpec.ofChange fnRuneDecodesPlainInputWrong)

/-- 'n010_110.FnRuneEscapedCRLFNewlineIsOneMarker': WHATEVER THE INPUT: true; the input reads as it did. -/
def fnRuneEscapedCRLFNewlineIsOneMarkerSpec : ChangeSpec := { name := "fnRuneEscapedCRLFNewlineIsOneMarker", fn := fun _ => fun
  | [d] => { results := [.lit (.bool true)], args := [d] }
  | _ => none }
def fnRuneEscapedCRLFNewlineIsOneMarkerRow : OpenClaim := { program := "ytpkgpkklgkpbfaafmt", sum := "d36842df83855a52b2ee56cda88851cee13e62c9a3c6cd74a04b12c0935751c5", func := "mvdan.cc/sh/v3/n010_110.FnRuneEscapedCRLFNewlineIsOneMarker", spec := "fnRuneEscapedCRLFNewlineIsOneMarker", stops := ["fmt.Sprintf, its operands' methods called"], inPlace := ["fmt.Sprintf"], unfollowed := true, recurses := true, named := ["io.EOF", "unicode/utf8.first", "unicode/utf8.acceptRanges"], apart := false, laid := [("unicode/utf8.acceptRanges", laid_unicode_utf8_acceptRanges), ("io.EOF", laid_io_EOF), ("unicode/utf8.first", laid_unicode_utf8_first)] }
/-- NO THEOREM (fmt's text is open here; it may be false): for the released tool's asking of the row's closed facts alone. THE STATEMENT IS 'FnRuneEscapedCRLFNewlineIsOneMarkerToldSaid' (YtpkgpkklgkpbfaaFmtCards.lean). -/
def FnRuneEscapedCRLFNewlineIsOneMarkerFormAsk : Prop := fnRuneEscapedCRLFNewlineIsOneMarkerRow.holds Tryf.pinned (OpenSpec.ofChange fnRuneEscapedCRLFNewlineIsOneMarkerSpec)

/-- ITS FALSE NEIGHBOUR: 'it returns false'. Refute it at one input. -/
def fnRuneEscapedCRLFNewlineIsOneMarkerWrong : ChangeSpec := { name := "fnRuneEscapedCRLFNewlineIsOneMarker", fn := fun _ => fun
  | [d] => { results := [.lit (.bool false)], args := [d] }
  | _ => none }
def FnRuneEscapedCRLFNewlineIsOneMarkerWrongFormAsk : Prop := fnRuneEscapedCRLFNewlineIsOneMarkerRow.holds Tryf.pinned (OpenSpec.ofChange fnRuneEscapedCRLFNewlineIsOneMarkerWrong)

end Rows
end Go.Proofs.YtpkgpkklgkpbfaaFmt
