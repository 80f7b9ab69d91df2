/-
  NARROWER THAN 'FOR EVERY INPUT', by the rows' own cells (each row's printed sentence says how): FnAdvanceLitOtherStopTable: laid · FnAdvanceLitOtherEscapeKeepsByte: laid.
  DERIVED. THE GIVEN ROWS OF THIS SEAT. 2 by the template 'for every input the law returns true; each argument reads behind the call as it read before'; 0 by the template 'total and deterministic' (their statements: YtaaobebpjblbdaaFmtTotals.lean).
  GIVEN WITH THE SEED: the statements are not yours to turn. If you find one false, say at which input.
  Laid BY PROGRAM, IN A SANDBOX (cutbox-rows.mjs): the forced cells as the released guide's own fill.sh prints them over the translation 598117ea01eb0939… (all of the seat's roots in one cut). By AI agents, Wed Nov 11 2026. No macro, syntax, notation, axiom, sorry.
-/
import Derived.Test.YtaaobebpjblbdaaFmtChecked
import GoSem.PinnedTables
import GoSem.Claim
import GoSem.ClaimJoined
import GoSem.ClaimMapViews
import Derived.JoinedTies
import Derived.KernelRfl
namespace Go.Proofs.YtaaobebpjblbdaaFmt
/- THE CELL 'sum', in the pinned program and in every row, IS THE sha256 OF THE DUMP (.gsa) THAT YtaaobebpjblbdaaFmtProg.lean LOADS. Nothing in Lean hashes anything: it is a label: what it is worth is what the hold of that sum in a sandbox is worth. -/
noncomputable def Tryf.pinned : Pinned := { name := "ytaaobebpjblbdaafmt", sum := "598117ea01eb09397195eb4f9c24878a17c06ead89aa82c97a55585b35b2ade3", checked := Tryf.checked }
namespace Rows
def none {H : Type} : Left H := { results := [], args := [] }

/- WHAT THE LISTED PACKAGE-LEVEL VARIABLES READ AS WHEN THE CALL BEGINS. Each datum BY PROGRAM (the guide's laid-datum.mjs) off the statement by which the dump's own 'gosem.cut.vars' lays the variable. In a bare row this is a premise. The card (YtaaobebpjblbdaaFmtCards.lean) ties it to the program's text. -/
def laid_unicode_utf8_acceptRanges {H : Type} : DataW H := .agg [.agg [.lit (.int .u8 128), .lit (.int .u8 191)], .agg [.lit (.int .u8 160), .lit (.int .u8 191)], .agg [.lit (.int .u8 128), .lit (.int .u8 159)], .agg [.lit (.int .u8 144), .lit (.int .u8 191)], .agg [.lit (.int .u8 128), .lit (.int .u8 143)], .agg [.lit (.int .u8 0), .lit (.int .u8 0)], .agg [.lit (.int .u8 0), .lit (.int .u8 0)], .agg [.lit (.int .u8 0), .lit (.int .u8 0)], .agg [.lit (.int .u8 0), .lit (.int .u8 0)], .agg [.lit (.int .u8 0), .lit (.int .u8 0)], .agg [.lit (.int .u8 0), .lit (.int .u8 0)], .agg [.lit (.int .u8 0), .lit (.int .u8 0)], .agg [.lit (.int .u8 0), .lit (.int .u8 0)], .agg [.lit (.int .u8 0), .lit (.int .u8 0)], .agg [.lit (.int .u8 0), .lit (.int .u8 0)], .agg [.lit (.int .u8 0), .lit (.int .u8 0)]]
def laid_io_EOF {H : Type} : DataW H := .iface "*errors.errorString" (.ptr (.agg [.lit (.string [69, 79, 70])]))
/-- One of Go's own tables, pinned by name: the form's constant. -/
def laid_unicode_utf8_first : DataW Unit := Go.Pinned.utf8First

/-- 'n010_42.FnAdvanceLitOtherStopTable': WHATEVER THE INPUT: true; the input reads as it did. -/
def fnAdvanceLitOtherStopTableSpec : ChangeSpec := { name := "fnAdvanceLitOtherStopTable", fn := fun _ => fun
  | [d1, d2, d3] => { results := [.lit (.bool true)], args := [d1, d2, d3] }
  | _ => none }
def fnAdvanceLitOtherStopTableRow : OpenClaim := { program := "ytaaobebpjblbdaafmt", sum := "598117ea01eb09397195eb4f9c24878a17c06ead89aa82c97a55585b35b2ade3", func := "mvdan.cc/sh/v3/n010_42.FnAdvanceLitOtherStopTable", spec := "fnAdvanceLitOtherStopTable", stops := ["fmt.Sprintf, its operands' methods called"], inPlace := ["fmt.Sprintf"], unfollowed := true, recurses := true, named := ["io.EOF", "unicode/utf8.first", "unicode/utf8.acceptRanges"], apart := false, laid := [("unicode/utf8.acceptRanges", laid_unicode_utf8_acceptRanges), ("io.EOF", laid_io_EOF), ("unicode/utf8.first", laid_unicode_utf8_first)] }
/-- NO THEOREM (fmt's text is open here; it may be false): for the released tool's asking of the row's closed facts alone. THE STATEMENT IS 'FnAdvanceLitOtherStopTableToldSaid' (YtaaobebpjblbdaaFmtCards.lean). -/
def FnAdvanceLitOtherStopTableFormAsk : Prop := fnAdvanceLitOtherStopTableRow.holds Tryf.pinned (OpenSpec.ofChange fnAdvanceLitOtherStopTableSpec)

/-- ITS FALSE NEIGHBOUR: 'it returns false'. Refute it at one input. -/
def fnAdvanceLitOtherStopTableWrong : ChangeSpec := { name := "fnAdvanceLitOtherStopTable", fn := fun _ => fun
  | [d1, d2, d3] => { results := [.lit (.bool false)], args := [d1, d2, d3] }
  | _ => none }
def FnAdvanceLitOtherStopTableWrongFormAsk : Prop := fnAdvanceLitOtherStopTableRow.holds Tryf.pinned (OpenSpec.ofChange fnAdvanceLitOtherStopTableWrong)

/-- 'n010_42.FnAdvanceLitOtherEscapeKeepsByte': WHATEVER THE INPUT: true; the input reads as it did. -/
def fnAdvanceLitOtherEscapeKeepsByteSpec : ChangeSpec := { name := "fnAdvanceLitOtherEscapeKeepsByte", fn := fun _ => fun
  | [d1, d2, d3, d4] => { results := [.lit (.bool true)], args := [d1, d2, d3, d4] }
  | _ => none }
def fnAdvanceLitOtherEscapeKeepsByteRow : OpenClaim := { program := "ytaaobebpjblbdaafmt", sum := "598117ea01eb09397195eb4f9c24878a17c06ead89aa82c97a55585b35b2ade3", func := "mvdan.cc/sh/v3/n010_42.FnAdvanceLitOtherEscapeKeepsByte", spec := "fnAdvanceLitOtherEscapeKeepsByte", stops := ["fmt.Sprintf, its operands' methods called"], inPlace := ["fmt.Sprintf"], unfollowed := true, recurses := true, named := ["io.EOF", "unicode/utf8.first", "unicode/utf8.acceptRanges"], apart := false, laid := [("unicode/utf8.acceptRanges", laid_unicode_utf8_acceptRanges), ("io.EOF", laid_io_EOF), ("unicode/utf8.first", laid_unicode_utf8_first)] }
/-- NO THEOREM (fmt's text is open here; it may be false): for the released tool's asking of the row's closed facts alone. THE STATEMENT IS 'FnAdvanceLitOtherEscapeKeepsByteToldSaid' (YtaaobebpjblbdaaFmtCards.lean). -/
def FnAdvanceLitOtherEscapeKeepsByteFormAsk : Prop := fnAdvanceLitOtherEscapeKeepsByteRow.holds Tryf.pinned (OpenSpec.ofChange fnAdvanceLitOtherEscapeKeepsByteSpec)

/-- ITS FALSE NEIGHBOUR: 'it returns false'. Refute it at one input. -/
def fnAdvanceLitOtherEscapeKeepsByteWrong : ChangeSpec := { name := "fnAdvanceLitOtherEscapeKeepsByte", fn := fun _ => fun
  | [d1, d2, d3, d4] => { results := [.lit (.bool false)], args := [d1, d2, d3, d4] }
  | _ => none }
def FnAdvanceLitOtherEscapeKeepsByteWrongFormAsk : Prop := fnAdvanceLitOtherEscapeKeepsByteRow.holds Tryf.pinned (OpenSpec.ofChange fnAdvanceLitOtherEscapeKeepsByteWrong)

end Rows
end Go.Proofs.YtaaobebpjblbdaaFmt
