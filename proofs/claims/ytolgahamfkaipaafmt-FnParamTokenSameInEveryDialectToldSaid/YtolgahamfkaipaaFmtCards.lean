/-
  DERIVED. GIVEN WITH THE SEED: THE CARDS: each row of YtolgahamfkaipaaFmtRows.lean that lists a variable, with what it lists TIED to the program's text (the seventh form; the later family's looks); each row that meets fmt, with fmt's text TOLD by the authors' own Lean function (tested against real Go, not proved from fmt's source: count such statements apart). THE CARD IS WHAT COUNTS. Prove the row's statement (the work); the ties are given (YtolgahamfkaipaaFmtTie.lean); close each card by the builder's one call (the guide's Derived/Test/ToyasCard.lean, 'card_holds'). Laid BY PROGRAM, IN A SANDBOX (cutbox-door.mjs). By AI agents, Wed Nov 11 2026. No macro, syntax, notation, axiom, sorry.
-/
import Derived.Test.YtolgahamfkaipaaFmtRows
import GoSem.ClaimSeven
namespace Go.Proofs.YtolgahamfkaipaaFmt
namespace Rows

/-- THE TOLD AND TIED CARD OF 'n010_119.FnParamTokenSameInEveryDialect'. -/
def fnParamTokenSameInEveryDialectCard : Claim7 := { stood := { row := fnParamTokenSameInEveryDialectRow, standIns := [], harness := (true, "9c1464e543f879c2517f93e12347f1232787213130104a377c8f8ecf1eeeae85"), looks := true }, told := true, laidByText := true, laidKinds := [.data, .sentinel, .pinned], laidTests := true, laidLooks := .later, goes := false }
def FnParamTokenSameInEveryDialectToldSaid : Prop := Claim7.holds Tryf.pinned (.plain (OpenSpec.ofChange fnParamTokenSameInEveryDialectSpec)) fnParamTokenSameInEveryDialectCard
/-- ITS FALSE NEIGHBOUR. Refute it at one input. -/
def FnParamTokenSameInEveryDialectToldWrongFalsely : Prop := Claim7.holds Tryf.pinned (.plain (OpenSpec.ofChange fnParamTokenSameInEveryDialectWrong)) fnParamTokenSameInEveryDialectCard

/-- THE TOLD AND TIED CARD OF 'n010_119.FnDqTokenAgreesWithRegToken'. -/
def fnDqTokenAgreesWithRegTokenCard : Claim7 := { stood := { row := fnDqTokenAgreesWithRegTokenRow, standIns := [], harness := (true, "9c1464e543f879c2517f93e12347f1232787213130104a377c8f8ecf1eeeae85"), looks := true }, told := true, laidByText := true, laidKinds := [.data, .sentinel, .pinned], laidTests := true, laidLooks := .later, goes := false }
def FnDqTokenAgreesWithRegTokenToldSaid : Prop := Claim7.holds Tryf.pinned (.plain (OpenSpec.ofChange fnDqTokenAgreesWithRegTokenSpec)) fnDqTokenAgreesWithRegTokenCard
/-- ITS FALSE NEIGHBOUR. Refute it at one input. -/
def FnDqTokenAgreesWithRegTokenToldWrongFalsely : Prop := Claim7.holds Tryf.pinned (.plain (OpenSpec.ofChange fnDqTokenAgreesWithRegTokenWrong)) fnDqTokenAgreesWithRegTokenCard

/-- THE TOLD AND TIED CARD OF 'n010_119.FnRegTokenSelfDelimiting'. -/
def fnRegTokenSelfDelimitingCard : Claim7 := { stood := { row := fnRegTokenSelfDelimitingRow, standIns := [], harness := (true, "9c1464e543f879c2517f93e12347f1232787213130104a377c8f8ecf1eeeae85"), looks := true }, told := true, laidByText := true, laidKinds := [.data, .sentinel, .pinned], laidTests := true, laidLooks := .later, goes := false }
def FnRegTokenSelfDelimitingToldSaid : Prop := Claim7.holds Tryf.pinned (.plain (OpenSpec.ofChange fnRegTokenSelfDelimitingSpec)) fnRegTokenSelfDelimitingCard
/-- ITS FALSE NEIGHBOUR. Refute it at one input. -/
def FnRegTokenSelfDelimitingToldWrongFalsely : Prop := Claim7.holds Tryf.pinned (.plain (OpenSpec.ofChange fnRegTokenSelfDelimitingWrong)) fnRegTokenSelfDelimitingCard

/-- THE TOLD AND TIED CARD OF 'n010_119.FnArithmTokenDialects'. -/
def fnArithmTokenDialectsCard : Claim7 := { stood := { row := fnArithmTokenDialectsRow, standIns := [], harness := (true, "9c1464e543f879c2517f93e12347f1232787213130104a377c8f8ecf1eeeae85"), looks := true }, told := true, laidByText := true, laidKinds := [.data, .sentinel, .pinned], laidTests := true, laidLooks := .later, goes := false }
def FnArithmTokenDialectsToldSaid : Prop := Claim7.holds Tryf.pinned (.plain (OpenSpec.ofChange fnArithmTokenDialectsSpec)) fnArithmTokenDialectsCard
/-- ITS FALSE NEIGHBOUR. Refute it at one input. -/
def FnArithmTokenDialectsToldWrongFalsely : Prop := Claim7.holds Tryf.pinned (.plain (OpenSpec.ofChange fnArithmTokenDialectsWrong)) fnArithmTokenDialectsCard
end Rows
end Go.Proofs.YtolgahamfkaipaaFmt
