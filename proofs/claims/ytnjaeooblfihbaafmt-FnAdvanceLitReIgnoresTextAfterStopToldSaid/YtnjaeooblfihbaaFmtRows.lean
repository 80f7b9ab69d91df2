/-
  NARROWER THAN 'FOR EVERY INPUT', by the rows' own cells (each row's printed sentence says how): FnQuotedHdocWordMatchesLineScan: laid · FnAdvanceLitReIgnoresTextAfterStop: laid · FnQuotedHdocWordReturnsBodyVerbatim: laid.
  DERIVED. THE GIVEN ROWS OF THIS SEAT. 3 by the template 'for every input the law returns true; each argument reads behind the call as it read before'; 0 by the template 'total and deterministic' (their statements: YtnjaeooblfihbaaFmtTotals.lean).
  GIVEN WITH THE SEED: the statements are not yours to turn. If you find one false, say at which input.
  Laid BY PROGRAM, IN A SANDBOX (cutbox-rows.mjs): the forced cells as the released guide's own fill.sh prints them over the translation 4222b71cab9c3099… (all of the seat's roots in one cut). By AI agents, Wed Nov 11 2026. No macro, syntax, notation, axiom, sorry.
-/
import Derived.Test.YtnjaeooblfihbaaFmtChecked
import GoSem.PinnedTables
import GoSem.Claim
import GoSem.ClaimJoined
import GoSem.ClaimMapViews
import Derived.JoinedTies
import Derived.KernelRfl
namespace Go.Proofs.YtnjaeooblfihbaaFmt
/- THE CELL 'sum', in the pinned program and in every row, IS THE sha256 OF THE DUMP (.gsa) THAT YtnjaeooblfihbaaFmtProg.lean LOADS. Nothing in Lean hashes anything: it is a label: what it is worth is what the hold of that sum in a sandbox is worth. -/
noncomputable def Tryf.pinned : Pinned := { name := "ytnjaeooblfihbaafmt", sum := "4222b71cab9c3099ecb2c009ba0e288210b5fc135e627e59fdf158ff4ea57b9b", checked := Tryf.checked }
namespace Rows
def none {H : Type} : Left H := { results := [], args := [] }

/- WHAT THE LISTED PACKAGE-LEVEL VARIABLES READ AS WHEN THE CALL BEGINS. Each datum BY PROGRAM (the guide's laid-datum.mjs) off the statement by which the dump's own 'gosem.cut.vars' lays the variable. In a bare row this is a premise. The card (YtnjaeooblfihbaaFmtCards.lean) ties it to the program's text. -/
def laid_unicode_utf8_acceptRanges {H : Type} : DataW H := .agg [.agg [.lit (.int .u8 128), .lit (.int .u8 191)], .agg [.lit (.int .u8 160), .lit (.int .u8 191)], .agg [.lit (.int .u8 128), .lit (.int .u8 159)], .agg [.lit (.int .u8 144), .lit (.int .u8 191)], .agg [.lit (.int .u8 128), .lit (.int .u8 143)], .agg [.lit (.int .u8 0), .lit (.int .u8 0)], .agg [.lit (.int .u8 0), .lit (.int .u8 0)], .agg [.lit (.int .u8 0), .lit (.int .u8 0)], .agg [.lit (.int .u8 0), .lit (.int .u8 0)], .agg [.lit (.int .u8 0), .lit (.int .u8 0)], .agg [.lit (.int .u8 0), .lit (.int .u8 0)], .agg [.lit (.int .u8 0), .lit (.int .u8 0)], .agg [.lit (.int .u8 0), .lit (.int .u8 0)], .agg [.lit (.int .u8 0), .lit (.int .u8 0)], .agg [.lit (.int .u8 0), .lit (.int .u8 0)], .agg [.lit (.int .u8 0), .lit (.int .u8 0)]]
def laid_io_EOF {H : Type} : DataW H := .iface "*errors.errorString" (.ptr (.agg [.lit (.string [69, 79, 70])]))
/-- One of Go's own tables, pinned by name: the form's constant. -/
def laid_unicode_utf8_first : DataW Unit := Go.Pinned.utf8First

/-- 'n010_117.FnQuotedHdocWordMatchesLineScan': WHATEVER THE INPUT: true; the input reads as it did. -/
def fnQuotedHdocWordMatchesLineScanSpec : ChangeSpec := { name := "fnQuotedHdocWordMatchesLineScan", fn := fun _ => fun
  | [d1, d2] => { results := [.lit (.bool true)], args := [d1, d2] }
  | _ => none }
def fnQuotedHdocWordMatchesLineScanRow : OpenClaim := { program := "ytnjaeooblfihbaafmt", sum := "4222b71cab9c3099ecb2c009ba0e288210b5fc135e627e59fdf158ff4ea57b9b", func := "mvdan.cc/sh/v3/n010_117.FnQuotedHdocWordMatchesLineScan", spec := "fnQuotedHdocWordMatchesLineScan", stops := ["fmt.Sprintf, its operands' methods called"], inPlace := ["fmt.Sprintf"], unfollowed := true, recurses := true, named := ["io.EOF", "unicode/utf8.first", "unicode/utf8.acceptRanges"], apart := false, laid := [("unicode/utf8.acceptRanges", laid_unicode_utf8_acceptRanges), ("io.EOF", laid_io_EOF), ("unicode/utf8.first", laid_unicode_utf8_first)] }
/-- NO THEOREM (fmt's text is open here; it may be false): for the released tool's asking of the row's closed facts alone. THE STATEMENT IS 'FnQuotedHdocWordMatchesLineScanToldSaid' (YtnjaeooblfihbaaFmtCards.lean). -/
def FnQuotedHdocWordMatchesLineScanFormAsk : Prop := fnQuotedHdocWordMatchesLineScanRow.holds Tryf.pinned (OpenSpec.ofChange fnQuotedHdocWordMatchesLineScanSpec)

/-- ITS FALSE NEIGHBOUR: 'it returns false'. Refute it at one input. -/
def fnQuotedHdocWordMatchesLineScanWrong : ChangeSpec := { name := "fnQuotedHdocWordMatchesLineScan", fn := fun _ => fun
  | [d1, d2] => { results := [.lit (.bool false)], args := [d1, d2] }
  | _ => none }
def FnQuotedHdocWordMatchesLineScanWrongFormAsk : Prop := fnQuotedHdocWordMatchesLineScanRow.holds Tryf.pinned (OpenSpec.ofChange fnQuotedHdocWordMatchesLineScanWrong)

/-- 'n010_117.FnAdvanceLitReIgnoresTextAfterStop': WHATEVER THE INPUT: true; the input reads as it did. -/
def fnAdvanceLitReIgnoresTextAfterStopSpec : ChangeSpec := { name := "fnAdvanceLitReIgnoresTextAfterStop", fn := fun _ => fun
  | [d1, d2, d3] => { results := [.lit (.bool true)], args := [d1, d2, d3] }
  | _ => none }
def fnAdvanceLitReIgnoresTextAfterStopRow : OpenClaim := { program := "ytnjaeooblfihbaafmt", sum := "4222b71cab9c3099ecb2c009ba0e288210b5fc135e627e59fdf158ff4ea57b9b", func := "mvdan.cc/sh/v3/n010_117.FnAdvanceLitReIgnoresTextAfterStop", spec := "fnAdvanceLitReIgnoresTextAfterStop", stops := ["fmt.Sprintf, its operands' methods called"], inPlace := ["fmt.Sprintf"], unfollowed := true, recurses := true, named := ["io.EOF", "unicode/utf8.first", "unicode/utf8.acceptRanges"], apart := false, laid := [("unicode/utf8.acceptRanges", laid_unicode_utf8_acceptRanges), ("io.EOF", laid_io_EOF), ("unicode/utf8.first", laid_unicode_utf8_first)] }
/-- NO THEOREM (fmt's text is open here; it may be false): for the released tool's asking of the row's closed facts alone. THE STATEMENT IS 'FnAdvanceLitReIgnoresTextAfterStopToldSaid' (YtnjaeooblfihbaaFmtCards.lean). -/
def FnAdvanceLitReIgnoresTextAfterStopFormAsk : Prop := fnAdvanceLitReIgnoresTextAfterStopRow.holds Tryf.pinned (OpenSpec.ofChange fnAdvanceLitReIgnoresTextAfterStopSpec)

/-- ITS FALSE NEIGHBOUR: 'it returns false'. Refute it at one input. -/
def fnAdvanceLitReIgnoresTextAfterStopWrong : ChangeSpec := { name := "fnAdvanceLitReIgnoresTextAfterStop", fn := fun _ => fun
  | [d1, d2, d3] => { results := [.lit (.bool false)], args := [d1, d2, d3] }
  | _ => none }
def FnAdvanceLitReIgnoresTextAfterStopWrongFormAsk : Prop := fnAdvanceLitReIgnoresTextAfterStopRow.holds Tryf.pinned (OpenSpec.ofChange fnAdvanceLitReIgnoresTextAfterStopWrong)

/-- 'n010_117.FnQuotedHdocWordReturnsBodyVerbatim': WHATEVER THE INPUT: true; the input reads as it did. -/
def fnQuotedHdocWordReturnsBodyVerbatimSpec : ChangeSpec := { name := "fnQuotedHdocWordReturnsBodyVerbatim", fn := fun _ => fun
  | [d1, d2, d3] => { results := [.lit (.bool true)], args := [d1, d2, d3] }
  | _ => none }
def fnQuotedHdocWordReturnsBodyVerbatimRow : OpenClaim := { program := "ytnjaeooblfihbaafmt", sum := "4222b71cab9c3099ecb2c009ba0e288210b5fc135e627e59fdf158ff4ea57b9b", func := "mvdan.cc/sh/v3/n010_117.FnQuotedHdocWordReturnsBodyVerbatim", spec := "fnQuotedHdocWordReturnsBodyVerbatim", stops := ["fmt.Sprintf, its operands' methods called"], inPlace := ["fmt.Sprintf"], unfollowed := true, recurses := true, named := ["io.EOF", "unicode/utf8.first", "unicode/utf8.acceptRanges"], apart := false, laid := [("unicode/utf8.acceptRanges", laid_unicode_utf8_acceptRanges), ("io.EOF", laid_io_EOF), ("unicode/utf8.first", laid_unicode_utf8_first)] }
/-- NO THEOREM (fmt's text is open here; it may be false): for the released tool's asking of the row's closed facts alone. THE STATEMENT IS 'FnQuotedHdocWordReturnsBodyVerbatimToldSaid' (YtnjaeooblfihbaaFmtCards.lean). -/
def FnQuotedHdocWordReturnsBodyVerbatimFormAsk : Prop := fnQuotedHdocWordReturnsBodyVerbatimRow.holds Tryf.pinned (OpenSpec.ofChange fnQuotedHdocWordReturnsBodyVerbatimSpec)

/-- ITS FALSE NEIGHBOUR: 'it returns false'. Refute it at one input. -/
def fnQuotedHdocWordReturnsBodyVerbatimWrong : ChangeSpec := { name := "fnQuotedHdocWordReturnsBodyVerbatim", fn := fun _ => fun
  | [d1, d2, d3] => { results := [.lit (.bool false)], args := [d1, d2, d3] }
  | _ => none }
def FnQuotedHdocWordReturnsBodyVerbatimWrongFormAsk : Prop := fnQuotedHdocWordReturnsBodyVerbatimRow.holds Tryf.pinned (OpenSpec.ofChange fnQuotedHdocWordReturnsBodyVerbatimWrong)

end Rows
end Go.Proofs.YtnjaeooblfihbaaFmt
