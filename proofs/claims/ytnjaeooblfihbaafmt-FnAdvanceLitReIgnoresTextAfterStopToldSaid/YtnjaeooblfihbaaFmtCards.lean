/-
  DERIVED. GIVEN WITH THE SEED: THE CARDS: each row of YtnjaeooblfihbaaFmtRows.lean that lists a variable, with what it lists TIED to the program's text (the seventh form; the later family's looks); each row that meets fmt, with fmt's text TOLD by the authors' own Lean function (tested against real Go, not proved from fmt's source: count such statements apart). THE CARD IS WHAT COUNTS. Prove the row's statement (the work); the ties are given (YtnjaeooblfihbaaFmtTie.lean); close each card by the builder's one call (the guide's Derived/Test/ToyasCard.lean, 'card_holds'). Laid BY PROGRAM, IN A SANDBOX (cutbox-door.mjs). By AI agents, Wed Nov 11 2026. No macro, syntax, notation, axiom, sorry.
-/
import Derived.Test.YtnjaeooblfihbaaFmtRows
import GoSem.ClaimSeven
namespace Go.Proofs.YtnjaeooblfihbaaFmt
namespace Rows

/-- THE TOLD AND TIED CARD OF 'n010_117.FnQuotedHdocWordMatchesLineScan'. -/
def fnQuotedHdocWordMatchesLineScanCard : Claim7 := { stood := { row := fnQuotedHdocWordMatchesLineScanRow, standIns := [], harness := (true, "ede2fdc858dea849da216fc7644bf574da5498cad1063f725d0ba351ff634c29"), looks := true }, told := true, laidByText := true, laidKinds := [.data, .sentinel, .pinned], laidTests := true, laidLooks := .later, goes := false }
def FnQuotedHdocWordMatchesLineScanToldSaid : Prop := Claim7.holds Tryf.pinned (.plain (OpenSpec.ofChange fnQuotedHdocWordMatchesLineScanSpec)) fnQuotedHdocWordMatchesLineScanCard
/-- ITS FALSE NEIGHBOUR. Refute it at one input. -/
def FnQuotedHdocWordMatchesLineScanToldWrongFalsely : Prop := Claim7.holds Tryf.pinned (.plain (OpenSpec.ofChange fnQuotedHdocWordMatchesLineScanWrong)) fnQuotedHdocWordMatchesLineScanCard

/-- THE TOLD AND TIED CARD OF 'n010_117.FnAdvanceLitReIgnoresTextAfterStop'. -/
def fnAdvanceLitReIgnoresTextAfterStopCard : Claim7 := { stood := { row := fnAdvanceLitReIgnoresTextAfterStopRow, standIns := [], harness := (true, "ede2fdc858dea849da216fc7644bf574da5498cad1063f725d0ba351ff634c29"), looks := true }, told := true, laidByText := true, laidKinds := [.data, .sentinel, .pinned], laidTests := true, laidLooks := .later, goes := false }
def FnAdvanceLitReIgnoresTextAfterStopToldSaid : Prop := Claim7.holds Tryf.pinned (.plain (OpenSpec.ofChange fnAdvanceLitReIgnoresTextAfterStopSpec)) fnAdvanceLitReIgnoresTextAfterStopCard
/-- ITS FALSE NEIGHBOUR. Refute it at one input. -/
def FnAdvanceLitReIgnoresTextAfterStopToldWrongFalsely : Prop := Claim7.holds Tryf.pinned (.plain (OpenSpec.ofChange fnAdvanceLitReIgnoresTextAfterStopWrong)) fnAdvanceLitReIgnoresTextAfterStopCard

/-- THE TOLD AND TIED CARD OF 'n010_117.FnQuotedHdocWordReturnsBodyVerbatim'. -/
def fnQuotedHdocWordReturnsBodyVerbatimCard : Claim7 := { stood := { row := fnQuotedHdocWordReturnsBodyVerbatimRow, standIns := [], harness := (true, "ede2fdc858dea849da216fc7644bf574da5498cad1063f725d0ba351ff634c29"), looks := true }, told := true, laidByText := true, laidKinds := [.data, .sentinel, .pinned], laidTests := true, laidLooks := .later, goes := false }
def FnQuotedHdocWordReturnsBodyVerbatimToldSaid : Prop := Claim7.holds Tryf.pinned (.plain (OpenSpec.ofChange fnQuotedHdocWordReturnsBodyVerbatimSpec)) fnQuotedHdocWordReturnsBodyVerbatimCard
/-- ITS FALSE NEIGHBOUR. Refute it at one input. -/
def FnQuotedHdocWordReturnsBodyVerbatimToldWrongFalsely : Prop := Claim7.holds Tryf.pinned (.plain (OpenSpec.ofChange fnQuotedHdocWordReturnsBodyVerbatimWrong)) fnQuotedHdocWordReturnsBodyVerbatimCard
end Rows
end Go.Proofs.YtnjaeooblfihbaaFmt
