/-
  DERIVED. GIVEN WITH THE SEED: THE CARDS: each row of YtejlgdiepjiodaaFmtRows.lean that lists a variable, with what it lists TIED to the program's text (the seventh form; the later family's looks); each row that meets fmt, with fmt's text TOLD by the authors' own Lean function (tested against real Go, not proved from fmt's source: count such statements apart). THE CARD IS WHAT COUNTS. Prove the row's statement (the work); the ties are given (YtejlgdiepjiodaaFmtTie.lean); close each card by the builder's one call (the guide's Derived/Test/ToyasCard.lean, 'card_holds'). Laid BY PROGRAM, IN A SANDBOX (cutbox-door.mjs). By AI agents, Wed Nov 11 2026. No macro, syntax, notation, axiom, sorry.
-/
import Derived.Test.YtejlgdiepjiodaaFmtRows
import GoSem.ClaimSeven
namespace Go.Proofs.YtejlgdiepjiodaaFmt
namespace Rows

/-- THE TOLD AND TIED CARD OF 'n010_145.FnZshNumRangeModel'. -/
def fnZshNumRangeModelCard : Claim7 := { stood := { row := fnZshNumRangeModelRow, standIns := [], harness := (true, "ad6dc3477f87d13235836d727c599ae1c408f53570ecb9bd6358a2a3b29832c4"), looks := true }, told := true, laidByText := true, laidKinds := [.data, .sentinel, .pinned], laidTests := true, laidLooks := .later, goes := false }
def FnZshNumRangeModelToldSaid : Prop := Claim7.holds Tryf.pinned (.plain (OpenSpec.ofChange fnZshNumRangeModelSpec)) fnZshNumRangeModelCard
/-- ITS FALSE NEIGHBOUR. Refute it at one input. -/
def FnZshNumRangeModelToldWrongFalsely : Prop := Claim7.holds Tryf.pinned (.plain (OpenSpec.ofChange fnZshNumRangeModelWrong)) fnZshNumRangeModelCard

/-- THE TOLD AND TIED CARD OF 'n010_145.FnZshNumRangeKeptWhenMoreFollows'. -/
def fnZshNumRangeKeptWhenMoreFollowsCard : Claim7 := { stood := { row := fnZshNumRangeKeptWhenMoreFollowsRow, standIns := [], harness := (true, "ad6dc3477f87d13235836d727c599ae1c408f53570ecb9bd6358a2a3b29832c4"), looks := true }, told := true, laidByText := true, laidKinds := [.data, .sentinel, .pinned], laidTests := true, laidLooks := .later, goes := false }
def FnZshNumRangeKeptWhenMoreFollowsToldSaid : Prop := Claim7.holds Tryf.pinned (.plain (OpenSpec.ofChange fnZshNumRangeKeptWhenMoreFollowsSpec)) fnZshNumRangeKeptWhenMoreFollowsCard
/-- ITS FALSE NEIGHBOUR. Refute it at one input. -/
def FnZshNumRangeKeptWhenMoreFollowsToldWrongFalsely : Prop := Claim7.holds Tryf.pinned (.plain (OpenSpec.ofChange fnZshNumRangeKeptWhenMoreFollowsWrong)) fnZshNumRangeKeptWhenMoreFollowsCard

/-- THE TOLD AND TIED CARD OF 'n010_145.FnAdvanceLitDquoteValueIsStable'. -/
def fnAdvanceLitDquoteValueIsStableCard : Claim7 := { stood := { row := fnAdvanceLitDquoteValueIsStableRow, standIns := [], harness := (true, "ad6dc3477f87d13235836d727c599ae1c408f53570ecb9bd6358a2a3b29832c4"), looks := true }, told := true, laidByText := true, laidKinds := [.data, .sentinel, .pinned], laidTests := true, laidLooks := .later, goes := false }
def FnAdvanceLitDquoteValueIsStableToldSaid : Prop := Claim7.holds Tryf.pinned (.plain (OpenSpec.ofChange fnAdvanceLitDquoteValueIsStableSpec)) fnAdvanceLitDquoteValueIsStableCard
/-- ITS FALSE NEIGHBOUR. Refute it at one input. -/
def FnAdvanceLitDquoteValueIsStableToldWrongFalsely : Prop := Claim7.holds Tryf.pinned (.plain (OpenSpec.ofChange fnAdvanceLitDquoteValueIsStableWrong)) fnAdvanceLitDquoteValueIsStableCard

/-- THE TOLD AND TIED CARD OF 'n010_145.FnAdvanceLitNoneStopsAtBlank'. -/
def fnAdvanceLitNoneStopsAtBlankCard : Claim7 := { stood := { row := fnAdvanceLitNoneStopsAtBlankRow, standIns := [], harness := (true, "ad6dc3477f87d13235836d727c599ae1c408f53570ecb9bd6358a2a3b29832c4"), looks := true }, told := true, laidByText := true, laidKinds := [.data, .sentinel, .pinned], laidTests := true, laidLooks := .later, goes := false }
def FnAdvanceLitNoneStopsAtBlankToldSaid : Prop := Claim7.holds Tryf.pinned (.plain (OpenSpec.ofChange fnAdvanceLitNoneStopsAtBlankSpec)) fnAdvanceLitNoneStopsAtBlankCard
/-- ITS FALSE NEIGHBOUR. Refute it at one input. -/
def FnAdvanceLitNoneStopsAtBlankToldWrongFalsely : Prop := Claim7.holds Tryf.pinned (.plain (OpenSpec.ofChange fnAdvanceLitNoneStopsAtBlankWrong)) fnAdvanceLitNoneStopsAtBlankCard

/-- THE TOLD AND TIED CARD OF 'n010_145.FnAdvanceLitHdocModel'. -/
def fnAdvanceLitHdocModelCard : Claim7 := { stood := { row := fnAdvanceLitHdocModelRow, standIns := [], harness := (true, "ad6dc3477f87d13235836d727c599ae1c408f53570ecb9bd6358a2a3b29832c4"), looks := true }, told := true, laidByText := true, laidKinds := [.data, .sentinel, .pinned], laidTests := true, laidLooks := .later, goes := false }
def FnAdvanceLitHdocModelToldSaid : Prop := Claim7.holds Tryf.pinned (.plain (OpenSpec.ofChange fnAdvanceLitHdocModelSpec)) fnAdvanceLitHdocModelCard
/-- ITS FALSE NEIGHBOUR. Refute it at one input. -/
def FnAdvanceLitHdocModelToldWrongFalsely : Prop := Claim7.holds Tryf.pinned (.plain (OpenSpec.ofChange fnAdvanceLitHdocModelWrong)) fnAdvanceLitHdocModelCard

/-- THE TOLD AND TIED CARD OF 'n010_145.FnAdvanceLitHdocStopsAtItsWord'. -/
def fnAdvanceLitHdocStopsAtItsWordCard : Claim7 := { stood := { row := fnAdvanceLitHdocStopsAtItsWordRow, standIns := [], harness := (true, "ad6dc3477f87d13235836d727c599ae1c408f53570ecb9bd6358a2a3b29832c4"), looks := true }, told := true, laidByText := true, laidKinds := [.data, .sentinel, .pinned], laidTests := true, laidLooks := .later, goes := false }
def FnAdvanceLitHdocStopsAtItsWordToldSaid : Prop := Claim7.holds Tryf.pinned (.plain (OpenSpec.ofChange fnAdvanceLitHdocStopsAtItsWordSpec)) fnAdvanceLitHdocStopsAtItsWordCard
/-- ITS FALSE NEIGHBOUR. Refute it at one input. -/
def FnAdvanceLitHdocStopsAtItsWordToldWrongFalsely : Prop := Claim7.holds Tryf.pinned (.plain (OpenSpec.ofChange fnAdvanceLitHdocStopsAtItsWordWrong)) fnAdvanceLitHdocStopsAtItsWordCard
end Rows
end Go.Proofs.YtejlgdiepjiodaaFmt
