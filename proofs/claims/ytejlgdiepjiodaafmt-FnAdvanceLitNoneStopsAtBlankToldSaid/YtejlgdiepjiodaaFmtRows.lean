/-
  NARROWER THAN 'FOR EVERY INPUT', by the rows' own cells (each row's printed sentence says how): FnZshNumRangeModel: laid · FnZshNumRangeKeptWhenMoreFollows: laid · FnAdvanceLitDquoteValueIsStable: laid · FnAdvanceLitNoneStopsAtBlank: laid · FnAdvanceLitHdocModel: laid · FnAdvanceLitHdocStopsAtItsWord: laid.
  DERIVED. THE GIVEN ROWS OF THIS SEAT. 6 by the template 'for every input the law returns true; each argument reads behind the call as it read before'; 0 by the template 'total and deterministic' (their statements: YtejlgdiepjiodaaFmtTotals.lean).
  GIVEN WITH THE SEED: the statements are not yours to turn. If you find one false, say at which input.
  Laid BY PROGRAM, IN A SANDBOX (cutbox-rows.mjs): the forced cells as the released guide's own fill.sh prints them over the translation 4becd7a2d10f2129… (all of the seat's roots in one cut). By AI agents, Wed Nov 11 2026. No macro, syntax, notation, axiom, sorry.
-/
import Derived.Test.YtejlgdiepjiodaaFmtChecked
import GoSem.PinnedTables
import GoSem.Claim
import GoSem.ClaimJoined
import GoSem.ClaimMapViews
import Derived.JoinedTies
import Derived.KernelRfl
namespace Go.Proofs.YtejlgdiepjiodaaFmt
/- THE CELL 'sum', in the pinned program and in every row, IS THE sha256 OF THE DUMP (.gsa) THAT YtejlgdiepjiodaaFmtProg.lean LOADS. Nothing in Lean hashes anything: it is a label: what it is worth is what the hold of that sum in a sandbox is worth. -/
noncomputable def Tryf.pinned : Pinned := { name := "ytejlgdiepjiodaafmt", sum := "4becd7a2d10f2129f12aa79eebe63c683b2c07b02daba4df1cd21fc91535d64d", checked := Tryf.checked }
namespace Rows
def none {H : Type} : Left H := { results := [], args := [] }

/- WHAT THE LISTED PACKAGE-LEVEL VARIABLES READ AS WHEN THE CALL BEGINS. Each datum BY PROGRAM (the guide's laid-datum.mjs) off the statement by which the dump's own 'gosem.cut.vars' lays the variable. In a bare row this is a premise. The card (YtejlgdiepjiodaaFmtCards.lean) ties it to the program's text. -/
def laid_unicode_utf8_acceptRanges {H : Type} : DataW H := .agg [.agg [.lit (.int .u8 128), .lit (.int .u8 191)], .agg [.lit (.int .u8 160), .lit (.int .u8 191)], .agg [.lit (.int .u8 128), .lit (.int .u8 159)], .agg [.lit (.int .u8 144), .lit (.int .u8 191)], .agg [.lit (.int .u8 128), .lit (.int .u8 143)], .agg [.lit (.int .u8 0), .lit (.int .u8 0)], .agg [.lit (.int .u8 0), .lit (.int .u8 0)], .agg [.lit (.int .u8 0), .lit (.int .u8 0)], .agg [.lit (.int .u8 0), .lit (.int .u8 0)], .agg [.lit (.int .u8 0), .lit (.int .u8 0)], .agg [.lit (.int .u8 0), .lit (.int .u8 0)], .agg [.lit (.int .u8 0), .lit (.int .u8 0)], .agg [.lit (.int .u8 0), .lit (.int .u8 0)], .agg [.lit (.int .u8 0), .lit (.int .u8 0)], .agg [.lit (.int .u8 0), .lit (.int .u8 0)], .agg [.lit (.int .u8 0), .lit (.int .u8 0)]]
def laid_io_EOF {H : Type} : DataW H := .iface "*errors.errorString" (.ptr (.agg [.lit (.string [69, 79, 70])]))
/-- One of Go's own tables, pinned by name: the form's constant. -/
def laid_unicode_utf8_first : DataW Unit := Go.Pinned.utf8First

/-- 'n010_145.FnZshNumRangeModel': WHATEVER THE INPUT: true; the input reads as it did. -/
def fnZshNumRangeModelSpec : ChangeSpec := { name := "fnZshNumRangeModel", fn := fun _ => fun
  | [d] => { results := [.lit (.bool true)], args := [d] }
  | _ => none }
def fnZshNumRangeModelRow : OpenClaim := { program := "ytejlgdiepjiodaafmt", sum := "4becd7a2d10f2129f12aa79eebe63c683b2c07b02daba4df1cd21fc91535d64d", func := "mvdan.cc/sh/v3/n010_145.FnZshNumRangeModel", spec := "fnZshNumRangeModel", stops := ["fmt.Sprintf, its operands' methods called"], inPlace := ["fmt.Sprintf"], unfollowed := true, recurses := true, named := ["io.EOF", "unicode/utf8.first", "unicode/utf8.acceptRanges"], apart := false, laid := [("unicode/utf8.acceptRanges", laid_unicode_utf8_acceptRanges), ("io.EOF", laid_io_EOF), ("unicode/utf8.first", laid_unicode_utf8_first)] }
/-- NO THEOREM (fmt's text is open here; it may be false): for the released tool's asking of the row's closed facts alone. THE STATEMENT IS 'FnZshNumRangeModelToldSaid' (YtejlgdiepjiodaaFmtCards.lean). -/
def FnZshNumRangeModelFormAsk : Prop := fnZshNumRangeModelRow.holds Tryf.pinned (OpenSpec.ofChange fnZshNumRangeModelSpec)

/-- ITS FALSE NEIGHBOUR: 'it returns false'. Refute it at one input. -/
def fnZshNumRangeModelWrong : ChangeSpec := { name := "fnZshNumRangeModel", fn := fun _ => fun
  | [d] => { results := [.lit (.bool false)], args := [d] }
  | _ => none }
def FnZshNumRangeModelWrongFormAsk : Prop := fnZshNumRangeModelRow.holds Tryf.pinned (OpenSpec.ofChange fnZshNumRangeModelWrong)

/-- 'n010_145.FnZshNumRangeKeptWhenMoreFollows': WHATEVER THE INPUT: true; the input reads as it did. -/
def fnZshNumRangeKeptWhenMoreFollowsSpec : ChangeSpec := { name := "fnZshNumRangeKeptWhenMoreFollows", fn := fun _ => fun
  | [d1, d2] => { results := [.lit (.bool true)], args := [d1, d2] }
  | _ => none }
def fnZshNumRangeKeptWhenMoreFollowsRow : OpenClaim := { program := "ytejlgdiepjiodaafmt", sum := "4becd7a2d10f2129f12aa79eebe63c683b2c07b02daba4df1cd21fc91535d64d", func := "mvdan.cc/sh/v3/n010_145.FnZshNumRangeKeptWhenMoreFollows", spec := "fnZshNumRangeKeptWhenMoreFollows", stops := ["fmt.Sprintf, its operands' methods called"], inPlace := ["fmt.Sprintf"], unfollowed := true, recurses := true, named := ["io.EOF", "unicode/utf8.first", "unicode/utf8.acceptRanges"], apart := false, laid := [("unicode/utf8.acceptRanges", laid_unicode_utf8_acceptRanges), ("io.EOF", laid_io_EOF), ("unicode/utf8.first", laid_unicode_utf8_first)] }
/-- NO THEOREM (fmt's text is open here; it may be false): for the released tool's asking of the row's closed facts alone. THE STATEMENT IS 'FnZshNumRangeKeptWhenMoreFollowsToldSaid' (YtejlgdiepjiodaaFmtCards.lean). -/
def FnZshNumRangeKeptWhenMoreFollowsFormAsk : Prop := fnZshNumRangeKeptWhenMoreFollowsRow.holds Tryf.pinned (OpenSpec.ofChange fnZshNumRangeKeptWhenMoreFollowsSpec)

/-- ITS FALSE NEIGHBOUR: 'it returns false'. Refute it at one input. -/
def fnZshNumRangeKeptWhenMoreFollowsWrong : ChangeSpec := { name := "fnZshNumRangeKeptWhenMoreFollows", fn := fun _ => fun
  | [d1, d2] => { results := [.lit (.bool false)], args := [d1, d2] }
  | _ => none }
def FnZshNumRangeKeptWhenMoreFollowsWrongFormAsk : Prop := fnZshNumRangeKeptWhenMoreFollowsRow.holds Tryf.pinned (OpenSpec.ofChange fnZshNumRangeKeptWhenMoreFollowsWrong)

/-- 'n010_145.FnAdvanceLitDquoteValueIsStable': WHATEVER THE INPUT: true; the input reads as it did. -/
def fnAdvanceLitDquoteValueIsStableSpec : ChangeSpec := { name := "fnAdvanceLitDquoteValueIsStable", fn := fun _ => fun
  | [d] => { results := [.lit (.bool true)], args := [d] }
  | _ => none }
def fnAdvanceLitDquoteValueIsStableRow : OpenClaim := { program := "ytejlgdiepjiodaafmt", sum := "4becd7a2d10f2129f12aa79eebe63c683b2c07b02daba4df1cd21fc91535d64d", func := "mvdan.cc/sh/v3/n010_145.FnAdvanceLitDquoteValueIsStable", spec := "fnAdvanceLitDquoteValueIsStable", stops := ["fmt.Sprintf, its operands' methods called"], inPlace := ["fmt.Sprintf"], unfollowed := true, recurses := true, named := ["io.EOF", "unicode/utf8.first", "unicode/utf8.acceptRanges"], apart := false, laid := [("unicode/utf8.acceptRanges", laid_unicode_utf8_acceptRanges), ("io.EOF", laid_io_EOF), ("unicode/utf8.first", laid_unicode_utf8_first)] }
/-- NO THEOREM (fmt's text is open here; it may be false): for the released tool's asking of the row's closed facts alone. THE STATEMENT IS 'FnAdvanceLitDquoteValueIsStableToldSaid' (YtejlgdiepjiodaaFmtCards.lean). -/
def FnAdvanceLitDquoteValueIsStableFormAsk : Prop := fnAdvanceLitDquoteValueIsStableRow.holds Tryf.pinned (OpenSpec.ofChange fnAdvanceLitDquoteValueIsStableSpec)

/-- ITS FALSE NEIGHBOUR: 'it returns false'. Refute it at one input. -/
def fnAdvanceLitDquoteValueIsStableWrong : ChangeSpec := { name := "fnAdvanceLitDquoteValueIsStable", fn := fun _ => fun
  | [d] => { results := [.lit (.bool false)], args := [d] }
  | _ => none }
def FnAdvanceLitDquoteValueIsStableWrongFormAsk : Prop := fnAdvanceLitDquoteValueIsStableRow.holds Tryf.pinned (OpenSpec.ofChange fnAdvanceLitDquoteValueIsStableWrong)

/-- 'n010_145.FnAdvanceLitNoneStopsAtBlank': WHATEVER THE INPUT: true; the input reads as it did. -/
def fnAdvanceLitNoneStopsAtBlankSpec : ChangeSpec := { name := "fnAdvanceLitNoneStopsAtBlank", fn := fun _ => fun
  | [d1, d2, d3] => { results := [.lit (.bool true)], args := [d1, d2, d3] }
  | _ => none }
def fnAdvanceLitNoneStopsAtBlankRow : OpenClaim := { program := "ytejlgdiepjiodaafmt", sum := "4becd7a2d10f2129f12aa79eebe63c683b2c07b02daba4df1cd21fc91535d64d", func := "mvdan.cc/sh/v3/n010_145.FnAdvanceLitNoneStopsAtBlank", spec := "fnAdvanceLitNoneStopsAtBlank", stops := ["fmt.Sprintf, its operands' methods called"], inPlace := ["fmt.Sprintf", "internal/bytealg.IndexByte"], unfollowed := true, recurses := true, named := ["io.EOF", "unicode/utf8.first", "unicode/utf8.acceptRanges"], apart := false, laid := [("unicode/utf8.acceptRanges", laid_unicode_utf8_acceptRanges), ("io.EOF", laid_io_EOF), ("unicode/utf8.first", laid_unicode_utf8_first)] }
/-- NO THEOREM (fmt's text is open here; it may be false): for the released tool's asking of the row's closed facts alone. THE STATEMENT IS 'FnAdvanceLitNoneStopsAtBlankToldSaid' (YtejlgdiepjiodaaFmtCards.lean). -/
def FnAdvanceLitNoneStopsAtBlankFormAsk : Prop := fnAdvanceLitNoneStopsAtBlankRow.holds Tryf.pinned (OpenSpec.ofChange fnAdvanceLitNoneStopsAtBlankSpec)

/-- ITS FALSE NEIGHBOUR: 'it returns false'. Refute it at one input. -/
def fnAdvanceLitNoneStopsAtBlankWrong : ChangeSpec := { name := "fnAdvanceLitNoneStopsAtBlank", fn := fun _ => fun
  | [d1, d2, d3] => { results := [.lit (.bool false)], args := [d1, d2, d3] }
  | _ => none }
def FnAdvanceLitNoneStopsAtBlankWrongFormAsk : Prop := fnAdvanceLitNoneStopsAtBlankRow.holds Tryf.pinned (OpenSpec.ofChange fnAdvanceLitNoneStopsAtBlankWrong)

/-- 'n010_145.FnAdvanceLitHdocModel': WHATEVER THE INPUT: true; the input reads as it did. -/
def fnAdvanceLitHdocModelSpec : ChangeSpec := { name := "fnAdvanceLitHdocModel", fn := fun _ => fun
  | [d1, d2] => { results := [.lit (.bool true)], args := [d1, d2] }
  | _ => none }
def fnAdvanceLitHdocModelRow : OpenClaim := { program := "ytejlgdiepjiodaafmt", sum := "4becd7a2d10f2129f12aa79eebe63c683b2c07b02daba4df1cd21fc91535d64d", func := "mvdan.cc/sh/v3/n010_145.FnAdvanceLitHdocModel", spec := "fnAdvanceLitHdocModel", stops := ["fmt.Sprintf, its operands' methods called"], inPlace := ["fmt.Sprintf"], unfollowed := true, recurses := true, named := ["io.EOF", "unicode/utf8.first", "unicode/utf8.acceptRanges"], apart := false, laid := [("unicode/utf8.acceptRanges", laid_unicode_utf8_acceptRanges), ("io.EOF", laid_io_EOF), ("unicode/utf8.first", laid_unicode_utf8_first)] }
/-- NO THEOREM (fmt's text is open here; it may be false): for the released tool's asking of the row's closed facts alone. THE STATEMENT IS 'FnAdvanceLitHdocModelToldSaid' (YtejlgdiepjiodaaFmtCards.lean). -/
def FnAdvanceLitHdocModelFormAsk : Prop := fnAdvanceLitHdocModelRow.holds Tryf.pinned (OpenSpec.ofChange fnAdvanceLitHdocModelSpec)

/-- ITS FALSE NEIGHBOUR: 'it returns false'. Refute it at one input. -/
def fnAdvanceLitHdocModelWrong : ChangeSpec := { name := "fnAdvanceLitHdocModel", fn := fun _ => fun
  | [d1, d2] => { results := [.lit (.bool false)], args := [d1, d2] }
  | _ => none }
def FnAdvanceLitHdocModelWrongFormAsk : Prop := fnAdvanceLitHdocModelRow.holds Tryf.pinned (OpenSpec.ofChange fnAdvanceLitHdocModelWrong)

/-- 'n010_145.FnAdvanceLitHdocStopsAtItsWord': WHATEVER THE INPUT: true; the input reads as it did. -/
def fnAdvanceLitHdocStopsAtItsWordSpec : ChangeSpec := { name := "fnAdvanceLitHdocStopsAtItsWord", fn := fun _ => fun
  | [d1, d2, d3, d4] => { results := [.lit (.bool true)], args := [d1, d2, d3, d4] }
  | _ => none }
def fnAdvanceLitHdocStopsAtItsWordRow : OpenClaim := { program := "ytejlgdiepjiodaafmt", sum := "4becd7a2d10f2129f12aa79eebe63c683b2c07b02daba4df1cd21fc91535d64d", func := "mvdan.cc/sh/v3/n010_145.FnAdvanceLitHdocStopsAtItsWord", spec := "fnAdvanceLitHdocStopsAtItsWord", stops := ["fmt.Sprintf, its operands' methods called"], inPlace := ["fmt.Sprintf"], unfollowed := true, recurses := true, named := ["io.EOF", "unicode/utf8.first", "unicode/utf8.acceptRanges"], apart := false, laid := [("unicode/utf8.acceptRanges", laid_unicode_utf8_acceptRanges), ("io.EOF", laid_io_EOF), ("unicode/utf8.first", laid_unicode_utf8_first)] }
/-- NO THEOREM (fmt's text is open here; it may be false): for the released tool's asking of the row's closed facts alone. THE STATEMENT IS 'FnAdvanceLitHdocStopsAtItsWordToldSaid' (YtejlgdiepjiodaaFmtCards.lean). -/
def FnAdvanceLitHdocStopsAtItsWordFormAsk : Prop := fnAdvanceLitHdocStopsAtItsWordRow.holds Tryf.pinned (OpenSpec.ofChange fnAdvanceLitHdocStopsAtItsWordSpec)

/-- ITS FALSE NEIGHBOUR: 'it returns false'. Refute it at one input. -/
def fnAdvanceLitHdocStopsAtItsWordWrong : ChangeSpec := { name := "fnAdvanceLitHdocStopsAtItsWord", fn := fun _ => fun
  | [d1, d2, d3, d4] => { results := [.lit (.bool false)], args := [d1, d2, d3, d4] }
  | _ => none }
def FnAdvanceLitHdocStopsAtItsWordWrongFormAsk : Prop := fnAdvanceLitHdocStopsAtItsWordRow.holds Tryf.pinned (OpenSpec.ofChange fnAdvanceLitHdocStopsAtItsWordWrong)

end Rows
end Go.Proofs.YtejlgdiepjiodaaFmt
