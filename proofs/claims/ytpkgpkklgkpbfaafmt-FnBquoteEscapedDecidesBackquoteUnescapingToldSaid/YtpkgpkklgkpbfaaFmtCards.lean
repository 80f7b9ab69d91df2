/-
  DERIVED. GIVEN WITH THE SEED: THE CARDS: each row of YtpkgpkklgkpbfaaFmtRows.lean that lists a variable, with what it lists TIED to the program's text (the seventh form; the later family's looks); each row that meets fmt, with fmt's text TOLD by the authors' own Lean function (tested against real Go, not proved from fmt's source: count such statements apart). THE CARD IS WHAT COUNTS. Prove the row's statement (the work); the ties are given (YtpkgpkklgkpbfaaFmtTie.lean); close each card by the builder's one call (the guide's Derived/Test/ToyasCard.lean, 'card_holds'). Laid BY PROGRAM, IN A SANDBOX (cutbox-door.mjs). By AI agents, Wed Nov 11 2026. No macro, syntax, notation, axiom, sorry.
-/
import Derived.Test.YtpkgpkklgkpbfaaFmtRows
import GoSem.ClaimSeven
namespace Go.Proofs.YtpkgpkklgkpbfaaFmt
namespace Rows

/-- THE TOLD AND TIED CARD OF 'n010_110.FnBquoteEscapedDecidesBackquoteUnescaping'. -/
def fnBquoteEscapedDecidesBackquoteUnescapingCard : Claim7 := { stood := { row := fnBquoteEscapedDecidesBackquoteUnescapingRow, standIns := [], harness := (true, "839c860003bbe4ef40ed7accccff4f4a360edc21b4fb437e2224ee207f399029"), looks := true }, told := true, laidByText := true, laidKinds := [.data, .sentinel, .pinned], laidTests := true, laidLooks := .later, goes := false }
def FnBquoteEscapedDecidesBackquoteUnescapingToldSaid : Prop := Claim7.holds Tryf.pinned (.plain (OpenSpec.ofChange fnBquoteEscapedDecidesBackquoteUnescapingSpec)) fnBquoteEscapedDecidesBackquoteUnescapingCard
/-- ITS FALSE NEIGHBOUR. Refute it at one input. -/
def FnBquoteEscapedDecidesBackquoteUnescapingToldWrongFalsely : Prop := Claim7.holds Tryf.pinned (.plain (OpenSpec.ofChange fnBquoteEscapedDecidesBackquoteUnescapingWrong)) fnBquoteEscapedDecidesBackquoteUnescapingCard

/-- THE TOLD AND TIED CARD OF 'n010_110.FnRuneDecodesPlainInput'. -/
def fnRuneDecodesPlainInputCard : Claim7 := { stood := { row := fnRuneDecodesPlainInputRow, standIns := [], harness := (true, "839c860003bbe4ef40ed7accccff4f4a360edc21b4fb437e2224ee207f399029"), looks := true }, told := true, laidByText := true, laidKinds := [.data, .sentinel, .pinned], laidTests := true, laidLooks := .later, goes := false }
def FnRuneDecodesPlainInputToldSaid : Prop := Claim7.holds Tryf.pinned (.plain (OpenSpec.ofChange fnRuneDecodesPlainInputSpec)) fnRuneDecodesPlainInputCard
/-- ITS FALSE NEIGHBOUR. Refute it at one input. -/
def FnRuneDecodesPlainInputToldWrongFalsely : Prop := Claim7.holds Tryf.pinned (.plain (OpenSpec.ofChange fnRuneDecodesPlainInputWrong)) fnRuneDecodesPlainInputCard

/-- THE TOLD AND TIED CARD OF 'n010_110.FnRuneEscapedCRLFNewlineIsOneMarker'. -/
def fnRuneEscapedCRLFNewlineIsOneMarkerCard : Claim7 := { stood := { row := fnRuneEscapedCRLFNewlineIsOneMarkerRow, standIns := [], harness := (true, "839c860003bbe4ef40ed7accccff4f4a360edc21b4fb437e2224ee207f399029"), looks := true }, told := true, laidByText := true, laidKinds := [.data, .sentinel, .pinned], laidTests := true, laidLooks := .later, goes := false }
def FnRuneEscapedCRLFNewlineIsOneMarkerToldSaid : Prop := Claim7.holds Tryf.pinned (.plain (OpenSpec.ofChange fnRuneEscapedCRLFNewlineIsOneMarkerSpec)) fnRuneEscapedCRLFNewlineIsOneMarkerCard
/-- ITS FALSE NEIGHBOUR. Refute it at one input. -/
def FnRuneEscapedCRLFNewlineIsOneMarkerToldWrongFalsely : Prop := Claim7.holds Tryf.pinned (.plain (OpenSpec.ofChange fnRuneEscapedCRLFNewlineIsOneMarkerWrong)) fnRuneEscapedCRLFNewlineIsOneMarkerCard
end Rows
end Go.Proofs.YtpkgpkklgkpbfaaFmt
