/-
  DERIVED. GIVEN WITH THE SEED: THE CARDS: each row of YtmoglhggnodkoaaDoorRows.lean that lists a variable, with what it lists TIED to the program's text (the seventh form; the later family's looks); each row that meets fmt, with fmt's text TOLD by the authors' own Lean function (tested against real Go, not proved from fmt's source: count such statements apart). THE CARD IS WHAT COUNTS. Prove the row's statement (the work); the ties are given (YtmoglhggnodkoaaDoorTie.lean); close each card by the builder's one call (the guide's Derived/Test/ToyasCard.lean, 'card_holds'). Laid BY PROGRAM, IN A SANDBOX (cutbox-door.mjs). By AI agents, Wed Nov 11 2026. No macro, syntax, notation, axiom, sorry.
-/
import Derived.Test.YtmoglhggnodkoaaDoorRows
import GoSem.ClaimSeven
namespace Go.Proofs.YtmoglhggnodkoaaDoor
namespace Rows

/-- THE TIED CARD OF 'n010_113.FnColWriteStringMatchesClosedForm'. -/
def fnColWriteStringMatchesClosedFormCard : Claim7 := { stood := { row := fnColWriteStringMatchesClosedFormRow, standIns := [], harness := (true, "369c56a1f3f239c3ee4e342b2c1fe33c611ebe508c6913ddb04f03d0a2791cf2"), looks := true }, kinds := [], alts := [], laidByText := true, laidKinds := [.sentinel], laidTests := true, laidLooks := .later }
def FnColWriteStringMatchesClosedFormCardSaid : Prop := Claim7.holds Tryd.pinned (.plain (OpenSpec.ofChange fnColWriteStringMatchesClosedFormSpec)) fnColWriteStringMatchesClosedFormCard

/-- THE TIED CARD OF 'n010_113.FnColWriteMatchesClosedForm'. -/
def fnColWriteMatchesClosedFormCard : Claim7 := { stood := { row := fnColWriteMatchesClosedFormRow, standIns := [], harness := (true, "369c56a1f3f239c3ee4e342b2c1fe33c611ebe508c6913ddb04f03d0a2791cf2"), looks := true }, kinds := [], alts := [], laidByText := true, laidKinds := [.sentinel], laidTests := true, laidLooks := .later }
def FnColWriteMatchesClosedFormCardSaid : Prop := Claim7.holds Tryd.pinned (.plain (OpenSpec.ofChange fnColWriteMatchesClosedFormSpec)) fnColWriteMatchesClosedFormCard

/-- THE TIED CARD OF 'n010_113.FnColWriteStringAgreesWithWrite'. -/
def fnColWriteStringAgreesWithWriteCard : Claim7 := { stood := { row := fnColWriteStringAgreesWithWriteRow, standIns := [], harness := (true, "369c56a1f3f239c3ee4e342b2c1fe33c611ebe508c6913ddb04f03d0a2791cf2"), looks := true }, kinds := [], alts := [], laidByText := true, laidKinds := [.sentinel], laidTests := true, laidLooks := .later }
def FnColWriteStringAgreesWithWriteCardSaid : Prop := Claim7.holds Tryd.pinned (.plain (OpenSpec.ofChange fnColWriteStringAgreesWithWriteSpec)) fnColWriteStringAgreesWithWriteCard

/-- THE TIED CARD OF 'n010_113.FnColResetStartsFreshLine'. -/
def fnColResetStartsFreshLineCard : Claim7 := { stood := { row := fnColResetStartsFreshLineRow, standIns := [], harness := (true, "369c56a1f3f239c3ee4e342b2c1fe33c611ebe508c6913ddb04f03d0a2791cf2"), looks := true }, kinds := [], alts := [], laidByText := true, laidKinds := [.sentinel], laidTests := true, laidLooks := .later }
def FnColResetStartsFreshLineCardSaid : Prop := Claim7.holds Tryd.pinned (.plain (OpenSpec.ofChange fnColResetStartsFreshLineSpec)) fnColResetStartsFreshLineCard

/-- THE TIED CARD OF 'n010_113.FnColWriteSplitAgrees'. -/
def fnColWriteSplitAgreesCard : Claim7 := { stood := { row := fnColWriteSplitAgreesRow, standIns := [], harness := (true, "369c56a1f3f239c3ee4e342b2c1fe33c611ebe508c6913ddb04f03d0a2791cf2"), looks := true }, kinds := [], alts := [], laidByText := true, laidKinds := [.sentinel], laidTests := true, laidLooks := .later }
def FnColWriteSplitAgreesCardSaid : Prop := Claim7.holds Tryd.pinned (.plain (OpenSpec.ofChange fnColWriteSplitAgreesSpec)) fnColWriteSplitAgreesCard

/-- THE TIED CARD OF 'n010_113.FnColResetForgetsHistory'. -/
def fnColResetForgetsHistoryCard : Claim7 := { stood := { row := fnColResetForgetsHistoryRow, standIns := [], harness := (true, "369c56a1f3f239c3ee4e342b2c1fe33c611ebe508c6913ddb04f03d0a2791cf2"), looks := true }, kinds := [], alts := [], laidByText := true, laidKinds := [.sentinel], laidTests := true, laidLooks := .later }
def FnColResetForgetsHistoryCardSaid : Prop := Claim7.holds Tryd.pinned (.plain (OpenSpec.ofChange fnColResetForgetsHistorySpec)) fnColResetForgetsHistoryCard

/-- THE SECOND FORM's CARD OF 'n010_113.FnColWriteStringMatchesClosedForm'. -/
def fnColWriteStringMatchesClosedFormUptoCard : Claim7 := { stood := { row := fnColWriteStringMatchesClosedFormUptoRow, standIns := [], harness := (true, "369c56a1f3f239c3ee4e342b2c1fe33c611ebe508c6913ddb04f03d0a2791cf2"), looks := true }, kinds := [], alts := [], laidByText := true, laidKinds := [.sentinel], laidTests := true, laidLooks := .later }
def FnColWriteStringMatchesClosedFormUptoCardSaid : Prop := Claim7.holds Tryd.pinned (.plain (OpenSpec.upto fnColWriteStringMatchesClosedFormSpec)) fnColWriteStringMatchesClosedFormUptoCard

/-- THE SECOND FORM's CARD OF 'n010_113.FnColWriteMatchesClosedForm'. -/
def fnColWriteMatchesClosedFormUptoCard : Claim7 := { stood := { row := fnColWriteMatchesClosedFormUptoRow, standIns := [], harness := (true, "369c56a1f3f239c3ee4e342b2c1fe33c611ebe508c6913ddb04f03d0a2791cf2"), looks := true }, kinds := [], alts := [], laidByText := true, laidKinds := [.sentinel], laidTests := true, laidLooks := .later }
def FnColWriteMatchesClosedFormUptoCardSaid : Prop := Claim7.holds Tryd.pinned (.plain (OpenSpec.upto fnColWriteMatchesClosedFormSpec)) fnColWriteMatchesClosedFormUptoCard

/-- THE SECOND FORM's CARD OF 'n010_113.FnColWriteStringAgreesWithWrite'. -/
def fnColWriteStringAgreesWithWriteUptoCard : Claim7 := { stood := { row := fnColWriteStringAgreesWithWriteUptoRow, standIns := [], harness := (true, "369c56a1f3f239c3ee4e342b2c1fe33c611ebe508c6913ddb04f03d0a2791cf2"), looks := true }, kinds := [], alts := [], laidByText := true, laidKinds := [.sentinel], laidTests := true, laidLooks := .later }
def FnColWriteStringAgreesWithWriteUptoCardSaid : Prop := Claim7.holds Tryd.pinned (.plain (OpenSpec.upto fnColWriteStringAgreesWithWriteSpec)) fnColWriteStringAgreesWithWriteUptoCard

/-- THE SECOND FORM's CARD OF 'n010_113.FnColResetStartsFreshLine'. -/
def fnColResetStartsFreshLineUptoCard : Claim7 := { stood := { row := fnColResetStartsFreshLineUptoRow, standIns := [], harness := (true, "369c56a1f3f239c3ee4e342b2c1fe33c611ebe508c6913ddb04f03d0a2791cf2"), looks := true }, kinds := [], alts := [], laidByText := true, laidKinds := [.sentinel], laidTests := true, laidLooks := .later }
def FnColResetStartsFreshLineUptoCardSaid : Prop := Claim7.holds Tryd.pinned (.plain (OpenSpec.upto fnColResetStartsFreshLineSpec)) fnColResetStartsFreshLineUptoCard

/-- THE SECOND FORM's CARD OF 'n010_113.FnColWriteSplitAgrees'. -/
def fnColWriteSplitAgreesUptoCard : Claim7 := { stood := { row := fnColWriteSplitAgreesUptoRow, standIns := [], harness := (true, "369c56a1f3f239c3ee4e342b2c1fe33c611ebe508c6913ddb04f03d0a2791cf2"), looks := true }, kinds := [], alts := [], laidByText := true, laidKinds := [.sentinel], laidTests := true, laidLooks := .later }
def FnColWriteSplitAgreesUptoCardSaid : Prop := Claim7.holds Tryd.pinned (.plain (OpenSpec.upto fnColWriteSplitAgreesSpec)) fnColWriteSplitAgreesUptoCard

/-- THE SECOND FORM's CARD OF 'n010_113.FnColResetForgetsHistory'. -/
def fnColResetForgetsHistoryUptoCard : Claim7 := { stood := { row := fnColResetForgetsHistoryUptoRow, standIns := [], harness := (true, "369c56a1f3f239c3ee4e342b2c1fe33c611ebe508c6913ddb04f03d0a2791cf2"), looks := true }, kinds := [], alts := [], laidByText := true, laidKinds := [.sentinel], laidTests := true, laidLooks := .later }
def FnColResetForgetsHistoryUptoCardSaid : Prop := Claim7.holds Tryd.pinned (.plain (OpenSpec.upto fnColResetForgetsHistorySpec)) fnColResetForgetsHistoryUptoCard
end Rows
end Go.Proofs.YtmoglhggnodkoaaDoor
