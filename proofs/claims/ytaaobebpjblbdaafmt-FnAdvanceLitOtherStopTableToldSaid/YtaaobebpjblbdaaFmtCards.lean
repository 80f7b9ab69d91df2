/-
  DERIVED. GIVEN WITH THE SEED: THE CARDS: each row of YtaaobebpjblbdaaFmtRows.lean that lists a variable, with what it lists TIED to the program's text (the seventh form; the later family's looks); each row that meets fmt, with fmt's text TOLD by the authors' own Lean function (tested against real Go, not proved from fmt's source: count such statements apart). THE CARD IS WHAT COUNTS. Prove the row's statement (the work); the ties are given (YtaaobebpjblbdaaFmtTie.lean); close each card by the builder's one call (the guide's Derived/Test/ToyasCard.lean, 'card_holds'). Laid BY PROGRAM, IN A SANDBOX (cutbox-door.mjs). By AI agents, Wed Nov 11 2026. No macro, syntax, notation, axiom, sorry.
-/
import Derived.Test.YtaaobebpjblbdaaFmtRows
import GoSem.ClaimSeven
namespace Go.Proofs.YtaaobebpjblbdaaFmt
namespace Rows

/-- THE TOLD AND TIED CARD OF 'n010_42.FnAdvanceLitOtherStopTable'. -/
def fnAdvanceLitOtherStopTableCard : Claim7 := { stood := { row := fnAdvanceLitOtherStopTableRow, standIns := [], harness := (true, "f6b9b0f27bf5cc2e32dd108942b1cbc2cae0791e2069d230ac2e379c82e31b72"), looks := true }, told := true, laidByText := true, laidKinds := [.data, .sentinel, .pinned], laidTests := true, laidLooks := .later, goes := false }
def FnAdvanceLitOtherStopTableToldSaid : Prop := Claim7.holds Tryf.pinned (.plain (OpenSpec.ofChange fnAdvanceLitOtherStopTableSpec)) fnAdvanceLitOtherStopTableCard
/-- ITS FALSE NEIGHBOUR. Refute it at one input. -/
def FnAdvanceLitOtherStopTableToldWrongFalsely : Prop := Claim7.holds Tryf.pinned (.plain (OpenSpec.ofChange fnAdvanceLitOtherStopTableWrong)) fnAdvanceLitOtherStopTableCard

/-- THE TOLD AND TIED CARD OF 'n010_42.FnAdvanceLitOtherEscapeKeepsByte'. -/
def fnAdvanceLitOtherEscapeKeepsByteCard : Claim7 := { stood := { row := fnAdvanceLitOtherEscapeKeepsByteRow, standIns := [], harness := (true, "f6b9b0f27bf5cc2e32dd108942b1cbc2cae0791e2069d230ac2e379c82e31b72"), looks := true }, told := true, laidByText := true, laidKinds := [.data, .sentinel, .pinned], laidTests := true, laidLooks := .later, goes := false }
def FnAdvanceLitOtherEscapeKeepsByteToldSaid : Prop := Claim7.holds Tryf.pinned (.plain (OpenSpec.ofChange fnAdvanceLitOtherEscapeKeepsByteSpec)) fnAdvanceLitOtherEscapeKeepsByteCard
/-- ITS FALSE NEIGHBOUR. Refute it at one input. -/
def FnAdvanceLitOtherEscapeKeepsByteToldWrongFalsely : Prop := Claim7.holds Tryf.pinned (.plain (OpenSpec.ofChange fnAdvanceLitOtherEscapeKeepsByteWrong)) fnAdvanceLitOtherEscapeKeepsByteCard
end Rows
end Go.Proofs.YtaaobebpjblbdaaFmt
