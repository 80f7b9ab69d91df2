/-
  NARROWER THAN 'FOR EVERY INPUT', by the rows' own cells (each row's printed sentence says how): FnParamTokenSameInEveryDialect: laid · FnDqTokenAgreesWithRegToken: laid · FnRegTokenSelfDelimiting: laid · FnArithmTokenDialects: laid.
  DERIVED. THE GIVEN ROWS OF THIS SEAT. 4 by the template 'for every input the law returns true; each argument reads behind the call as it read before'; 0 by the template 'total and deterministic' (their statements: YtolgahamfkaipaaFmtTotals.lean).
  GIVEN WITH THE SEED: the statements are not yours to turn. If you find one false, say at which input.
  Laid BY PROGRAM, IN A SANDBOX (cutbox-rows.mjs): the forced cells as the released guide's own fill.sh prints them over the translation d2972085318ef614… (all of the seat's roots in one cut). By AI agents, Wed Nov 11 2026. No macro, syntax, notation, axiom, sorry.
-/
import Derived.Test.YtolgahamfkaipaaFmtChecked
import GoSem.PinnedTables
import GoSem.Claim
import GoSem.ClaimJoined
import GoSem.ClaimMapViews
import Derived.JoinedTies
import Derived.KernelRfl
namespace Go.Proofs.YtolgahamfkaipaaFmt
/- THE CELL 'sum', in the pinned program and in every row, IS THE sha256 OF THE DUMP (.gsa) THAT YtolgahamfkaipaaFmtProg.lean LOADS. Nothing in Lean hashes anything: it is a label: what it is worth is what the hold of that sum in a sandbox is worth. -/
noncomputable def Tryf.pinned : Pinned := { name := "ytolgahamfkaipaafmt", sum := "d2972085318ef61404f56e8e8a1d08311789b07652762df208395ade52febfd9", checked := Tryf.checked }
namespace Rows
def none {H : Type} : Left H := { results := [], args := [] }

/- WHAT THE LISTED PACKAGE-LEVEL VARIABLES READ AS WHEN THE CALL BEGINS. Each datum BY PROGRAM (the guide's laid-datum.mjs) off the statement by which the dump's own 'gosem.cut.vars' lays the variable. In a bare row this is a premise. The card (YtolgahamfkaipaaFmtCards.lean) ties it to the program's text. -/
def laid_unicode_utf8_acceptRanges {H : Type} : DataW H := .agg [.agg [.lit (.int .u8 128), .lit (.int .u8 191)], .agg [.lit (.int .u8 160), .lit (.int .u8 191)], .agg [.lit (.int .u8 128), .lit (.int .u8 159)], .agg [.lit (.int .u8 144), .lit (.int .u8 191)], .agg [.lit (.int .u8 128), .lit (.int .u8 143)], .agg [.lit (.int .u8 0), .lit (.int .u8 0)], .agg [.lit (.int .u8 0), .lit (.int .u8 0)], .agg [.lit (.int .u8 0), .lit (.int .u8 0)], .agg [.lit (.int .u8 0), .lit (.int .u8 0)], .agg [.lit (.int .u8 0), .lit (.int .u8 0)], .agg [.lit (.int .u8 0), .lit (.int .u8 0)], .agg [.lit (.int .u8 0), .lit (.int .u8 0)], .agg [.lit (.int .u8 0), .lit (.int .u8 0)], .agg [.lit (.int .u8 0), .lit (.int .u8 0)], .agg [.lit (.int .u8 0), .lit (.int .u8 0)], .agg [.lit (.int .u8 0), .lit (.int .u8 0)]]
def laid_io_EOF {H : Type} : DataW H := .iface "*errors.errorString" (.ptr (.agg [.lit (.string [69, 79, 70])]))
/-- One of Go's own tables, pinned by name: the form's constant. -/
def laid_unicode_utf8_first : DataW Unit := Go.Pinned.utf8First

/-- 'n010_119.FnParamTokenSameInEveryDialect': WHATEVER THE INPUT: true; the input reads as it did. -/
def fnParamTokenSameInEveryDialectSpec : ChangeSpec := { name := "fnParamTokenSameInEveryDialect", fn := fun _ => fun
  | [d] => { results := [.lit (.bool true)], args := [d] }
  | _ => none }
def fnParamTokenSameInEveryDialectRow : OpenClaim := { program := "ytolgahamfkaipaafmt", sum := "d2972085318ef61404f56e8e8a1d08311789b07652762df208395ade52febfd9", func := "mvdan.cc/sh/v3/n010_119.FnParamTokenSameInEveryDialect", spec := "fnParamTokenSameInEveryDialect", stops := ["fmt.Sprintf, its operands' methods called"], inPlace := ["fmt.Sprintf"], unfollowed := true, recurses := true, named := ["io.EOF", "unicode/utf8.first", "unicode/utf8.acceptRanges"], apart := false, laid := [("unicode/utf8.acceptRanges", laid_unicode_utf8_acceptRanges), ("io.EOF", laid_io_EOF), ("unicode/utf8.first", laid_unicode_utf8_first)] }
/-- NO THEOREM (fmt's text is open here; it may be false): for the released tool's asking of the row's closed facts alone. THE STATEMENT IS 'FnParamTokenSameInEveryDialectToldSaid' (YtolgahamfkaipaaFmtCards.lean). -/
def FnParamTokenSameInEveryDialectFormAsk : Prop := fnParamTokenSameInEveryDialectRow.holds Tryf.pinned (OpenSpec.ofChange fnParamTokenSameInEveryDialectSpec)

/-- ITS FALSE NEIGHBOUR: 'it returns false'. Refute it at one input. -/
def fnParamTokenSameInEveryDialectWrong : ChangeSpec := { name := "fnParamTokenSameInEveryDialect", fn := fun _ => fun
  | [d] => { results := [.lit (.bool false)], args := [d] }
  | _ => none }
def FnParamTokenSameInEveryDialectWrongFormAsk : Prop := fnParamTokenSameInEveryDialectRow.holds Tryf.pinned (OpenSpec.ofChange fnParamTokenSameInEveryDialectWrong)

/-- 'n010_119.FnDqTokenAgreesWithRegToken': WHATEVER THE INPUT: true; the input reads as it did. -/
def fnDqTokenAgreesWithRegTokenSpec : ChangeSpec := { name := "fnDqTokenAgreesWithRegToken", fn := fun _ => fun
  | [d1, d2] => { results := [.lit (.bool true)], args := [d1, d2] }
  | _ => none }
def fnDqTokenAgreesWithRegTokenRow : OpenClaim := { program := "ytolgahamfkaipaafmt", sum := "d2972085318ef61404f56e8e8a1d08311789b07652762df208395ade52febfd9", func := "mvdan.cc/sh/v3/n010_119.FnDqTokenAgreesWithRegToken", spec := "fnDqTokenAgreesWithRegToken", stops := ["fmt.Sprintf, its operands' methods called"], inPlace := ["fmt.Sprintf"], unfollowed := true, recurses := true, named := ["io.EOF", "unicode/utf8.first", "unicode/utf8.acceptRanges"], apart := false, laid := [("unicode/utf8.acceptRanges", laid_unicode_utf8_acceptRanges), ("io.EOF", laid_io_EOF), ("unicode/utf8.first", laid_unicode_utf8_first)] }
/-- NO THEOREM (fmt's text is open here; it may be false): for the released tool's asking of the row's closed facts alone. THE STATEMENT IS 'FnDqTokenAgreesWithRegTokenToldSaid' (YtolgahamfkaipaaFmtCards.lean). -/
def FnDqTokenAgreesWithRegTokenFormAsk : Prop := fnDqTokenAgreesWithRegTokenRow.holds Tryf.pinned (OpenSpec.ofChange fnDqTokenAgreesWithRegTokenSpec)

/-- ITS FALSE NEIGHBOUR: 'it returns false'. Refute it at one input. -/
def fnDqTokenAgreesWithRegTokenWrong : ChangeSpec := { name := "fnDqTokenAgreesWithRegToken", fn := fun _ => fun
  | [d1, d2] => { results := [.lit (.bool false)], args := [d1, d2] }
  | _ => none }
def FnDqTokenAgreesWithRegTokenWrongFormAsk : Prop := fnDqTokenAgreesWithRegTokenRow.holds Tryf.pinned (OpenSpec.ofChange fnDqTokenAgreesWithRegTokenWrong)

/-- 'n010_119.FnRegTokenSelfDelimiting': WHATEVER THE INPUT: true; the input reads as it did. -/
def fnRegTokenSelfDelimitingSpec : ChangeSpec := { name := "fnRegTokenSelfDelimiting", fn := fun _ => fun
  | [d1, d2] => { results := [.lit (.bool true)], args := [d1, d2] }
  | _ => none }
def fnRegTokenSelfDelimitingRow : OpenClaim := { program := "ytolgahamfkaipaafmt", sum := "d2972085318ef61404f56e8e8a1d08311789b07652762df208395ade52febfd9", func := "mvdan.cc/sh/v3/n010_119.FnRegTokenSelfDelimiting", spec := "fnRegTokenSelfDelimiting", stops := ["fmt.Sprintf, its operands' methods called"], inPlace := ["fmt.Sprintf"], unfollowed := true, recurses := true, named := ["io.EOF", "unicode/utf8.first", "unicode/utf8.acceptRanges"], apart := false, laid := [("unicode/utf8.acceptRanges", laid_unicode_utf8_acceptRanges), ("io.EOF", laid_io_EOF), ("unicode/utf8.first", laid_unicode_utf8_first)] }
/-- NO THEOREM (fmt's text is open here; it may be false): for the released tool's asking of the row's closed facts alone. THE STATEMENT IS 'FnRegTokenSelfDelimitingToldSaid' (YtolgahamfkaipaaFmtCards.lean). -/
def FnRegTokenSelfDelimitingFormAsk : Prop := fnRegTokenSelfDelimitingRow.holds Tryf.pinned (OpenSpec.ofChange fnRegTokenSelfDelimitingSpec)

/-- ITS FALSE NEIGHBOUR: 'it returns false'. Refute it at one input. -/
def fnRegTokenSelfDelimitingWrong : ChangeSpec := { name := "fnRegTokenSelfDelimiting", fn := fun _ => fun
  | [d1, d2] => { results := [.lit (.bool false)], args := [d1, d2] }
  | _ => none }
def FnRegTokenSelfDelimitingWrongFormAsk : Prop := fnRegTokenSelfDelimitingRow.holds Tryf.pinned (OpenSpec.ofChange fnRegTokenSelfDelimitingWrong)

/-- 'n010_119.FnArithmTokenDialects': WHATEVER THE INPUT: true; the input reads as it did. -/
def fnArithmTokenDialectsSpec : ChangeSpec := { name := "fnArithmTokenDialects", fn := fun _ => fun
  | [d] => { results := [.lit (.bool true)], args := [d] }
  | _ => none }
def fnArithmTokenDialectsRow : OpenClaim := { program := "ytolgahamfkaipaafmt", sum := "d2972085318ef61404f56e8e8a1d08311789b07652762df208395ade52febfd9", func := "mvdan.cc/sh/v3/n010_119.FnArithmTokenDialects", spec := "fnArithmTokenDialects", stops := ["fmt.Sprintf, its operands' methods called"], inPlace := ["fmt.Sprintf"], unfollowed := true, recurses := true, named := ["io.EOF", "unicode/utf8.first", "unicode/utf8.acceptRanges"], apart := false, laid := [("unicode/utf8.acceptRanges", laid_unicode_utf8_acceptRanges), ("io.EOF", laid_io_EOF), ("unicode/utf8.first", laid_unicode_utf8_first)] }
/-- NO THEOREM (fmt's text is open here; it may be false): for the released tool's asking of the row's closed facts alone. THE STATEMENT IS 'FnArithmTokenDialectsToldSaid' (YtolgahamfkaipaaFmtCards.lean). -/
def FnArithmTokenDialectsFormAsk : Prop := fnArithmTokenDialectsRow.holds Tryf.pinned (OpenSpec.ofChange fnArithmTokenDialectsSpec)

/-- ITS FALSE NEIGHBOUR: 'it returns false'. Refute it at one input. -/
def fnArithmTokenDialectsWrong : ChangeSpec := { name := "fnArithmTokenDialects", fn := fun _ => fun
  | [d] => { results := [.lit (.bool false)], args := [d] }
  | _ => none }
def FnArithmTokenDialectsWrongFormAsk : Prop := fnArithmTokenDialectsRow.holds Tryf.pinned (OpenSpec.ofChange fnArithmTokenDialectsWrong)

end Rows
end Go.Proofs.YtolgahamfkaipaaFmt
