/-
  DERIVED. GIVEN WITH THE SEED: THE CARDS: each row of YtmmoeendejbjeaaDoorRows.lean that lists a variable, with what it lists TIED to the program's text (the seventh form; the later family's looks); each row that meets fmt, with fmt's text TOLD by the authors' own Lean function (tested against real Go, not proved from fmt's source: count such statements apart). THE CARD IS WHAT COUNTS. Prove the row's statement (the work); the ties are given (YtmmoeendejbjeaaDoorTie.lean); close each card by the builder's one call (the guide's Derived/Test/ToyasCard.lean, 'card_holds'). Laid BY PROGRAM, IN A SANDBOX (cutbox-door.mjs). By AI agents, Wed Nov 11 2026. No macro, syntax, notation, axiom, sorry.
-/
import Derived.Test.YtmmoeendejbjeaaDoorRows
import GoSem.ClaimSeven
namespace Go.Proofs.YtmmoeendejbjeaaDoor
namespace Rows

/-- THE TIED CARD OF 'n010_87.FnPeekSeesNextUnreadByte'. -/
def fnPeekSeesNextUnreadByteCard : Claim7 := { stood := { row := fnPeekSeesNextUnreadByteRow, standIns := [], harness := (true, "839b0627f31d99caaf0e5d6e47b466b78346bed7c53096fcfaa50b261698d4ac"), looks := true }, kinds := [], alts := [], laidByText := true, laidKinds := [.sentinel], laidTests := true, laidLooks := .later }
def FnPeekSeesNextUnreadByteCardSaid : Prop := Claim7.holds Tryd.pinned (.plain (OpenSpec.ofChange fnPeekSeesNextUnreadByteSpec)) fnPeekSeesNextUnreadByteCard

/-- THE TIED CARD OF 'n010_87.FnPeekTwoSeesNextTwoBytes'. -/
def fnPeekTwoSeesNextTwoBytesCard : Claim7 := { stood := { row := fnPeekTwoSeesNextTwoBytesRow, standIns := [], harness := (true, "839b0627f31d99caaf0e5d6e47b466b78346bed7c53096fcfaa50b261698d4ac"), looks := true }, kinds := [], alts := [], laidByText := true, laidKinds := [.sentinel], laidTests := true, laidLooks := .later }
def FnPeekTwoSeesNextTwoBytesCardSaid : Prop := Claim7.holds Tryd.pinned (.plain (OpenSpec.ofChange fnPeekTwoSeesNextTwoBytesSpec)) fnPeekTwoSeesNextTwoBytesCard

/-- THE TIED CARD OF 'n010_87.FnExtendedGlobCaseTable'. -/
def fnExtendedGlobCaseTableCard : Claim7 := { stood := { row := fnExtendedGlobCaseTableRow, standIns := [], harness := (true, "839b0627f31d99caaf0e5d6e47b466b78346bed7c53096fcfaa50b261698d4ac"), looks := true }, kinds := [], alts := [], laidByText := true, laidKinds := [.sentinel], laidTests := true, laidLooks := .later }
def FnExtendedGlobCaseTableCardSaid : Prop := Claim7.holds Tryd.pinned (.plain (OpenSpec.ofChange fnExtendedGlobCaseTableSpec)) fnExtendedGlobCaseTableCard

/-- THE TIED CARD OF 'n010_87.FnExtendedGlobConsumesNothing'. -/
def fnExtendedGlobConsumesNothingCard : Claim7 := { stood := { row := fnExtendedGlobConsumesNothingRow, standIns := [], harness := (true, "839b0627f31d99caaf0e5d6e47b466b78346bed7c53096fcfaa50b261698d4ac"), looks := true }, kinds := [], alts := [], laidByText := true, laidKinds := [.sentinel], laidTests := true, laidLooks := .later }
def FnExtendedGlobConsumesNothingCardSaid : Prop := Claim7.holds Tryd.pinned (.plain (OpenSpec.ofChange fnExtendedGlobConsumesNothingSpec)) fnExtendedGlobConsumesNothingCard

/-- THE TIED CARD OF 'n010_87.FnPeekDoesNotConsume'. -/
def fnPeekDoesNotConsumeCard : Claim7 := { stood := { row := fnPeekDoesNotConsumeRow, standIns := [], harness := (true, "839b0627f31d99caaf0e5d6e47b466b78346bed7c53096fcfaa50b261698d4ac"), looks := true }, kinds := [], alts := [], laidByText := true, laidKinds := [.sentinel], laidTests := true, laidLooks := .later }
def FnPeekDoesNotConsumeCardSaid : Prop := Claim7.holds Tryd.pinned (.plain (OpenSpec.ofChange fnPeekDoesNotConsumeSpec)) fnPeekDoesNotConsumeCard

/-- THE TIED CARD OF 'n010_87.FnPeekTwoAgreesWithPeekOfAdvancedState'. -/
def fnPeekTwoAgreesWithPeekOfAdvancedStateCard : Claim7 := { stood := { row := fnPeekTwoAgreesWithPeekOfAdvancedStateRow, standIns := [], harness := (true, "839b0627f31d99caaf0e5d6e47b466b78346bed7c53096fcfaa50b261698d4ac"), looks := true }, kinds := [], alts := [], laidByText := true, laidKinds := [.sentinel], laidTests := true, laidLooks := .later }
def FnPeekTwoAgreesWithPeekOfAdvancedStateCardSaid : Prop := Claim7.holds Tryd.pinned (.plain (OpenSpec.ofChange fnPeekTwoAgreesWithPeekOfAdvancedStateSpec)) fnPeekTwoAgreesWithPeekOfAdvancedStateCard

/-- THE SECOND FORM's CARD OF 'n010_87.FnPeekSeesNextUnreadByte'. -/
def fnPeekSeesNextUnreadByteUptoCard : Claim7 := { stood := { row := fnPeekSeesNextUnreadByteUptoRow, standIns := [], harness := (true, "839b0627f31d99caaf0e5d6e47b466b78346bed7c53096fcfaa50b261698d4ac"), looks := true }, kinds := [], alts := [], laidByText := true, laidKinds := [.sentinel], laidTests := true, laidLooks := .later }
def FnPeekSeesNextUnreadByteUptoCardSaid : Prop := Claim7.holds Tryd.pinned (.plain (OpenSpec.upto fnPeekSeesNextUnreadByteSpec)) fnPeekSeesNextUnreadByteUptoCard

/-- THE SECOND FORM's CARD OF 'n010_87.FnPeekTwoSeesNextTwoBytes'. -/
def fnPeekTwoSeesNextTwoBytesUptoCard : Claim7 := { stood := { row := fnPeekTwoSeesNextTwoBytesUptoRow, standIns := [], harness := (true, "839b0627f31d99caaf0e5d6e47b466b78346bed7c53096fcfaa50b261698d4ac"), looks := true }, kinds := [], alts := [], laidByText := true, laidKinds := [.sentinel], laidTests := true, laidLooks := .later }
def FnPeekTwoSeesNextTwoBytesUptoCardSaid : Prop := Claim7.holds Tryd.pinned (.plain (OpenSpec.upto fnPeekTwoSeesNextTwoBytesSpec)) fnPeekTwoSeesNextTwoBytesUptoCard

/-- THE SECOND FORM's CARD OF 'n010_87.FnExtendedGlobCaseTable'. -/
def fnExtendedGlobCaseTableUptoCard : Claim7 := { stood := { row := fnExtendedGlobCaseTableUptoRow, standIns := [], harness := (true, "839b0627f31d99caaf0e5d6e47b466b78346bed7c53096fcfaa50b261698d4ac"), looks := true }, kinds := [], alts := [], laidByText := true, laidKinds := [.sentinel], laidTests := true, laidLooks := .later }
def FnExtendedGlobCaseTableUptoCardSaid : Prop := Claim7.holds Tryd.pinned (.plain (OpenSpec.upto fnExtendedGlobCaseTableSpec)) fnExtendedGlobCaseTableUptoCard

/-- THE SECOND FORM's CARD OF 'n010_87.FnExtendedGlobConsumesNothing'. -/
def fnExtendedGlobConsumesNothingUptoCard : Claim7 := { stood := { row := fnExtendedGlobConsumesNothingUptoRow, standIns := [], harness := (true, "839b0627f31d99caaf0e5d6e47b466b78346bed7c53096fcfaa50b261698d4ac"), looks := true }, kinds := [], alts := [], laidByText := true, laidKinds := [.sentinel], laidTests := true, laidLooks := .later }
def FnExtendedGlobConsumesNothingUptoCardSaid : Prop := Claim7.holds Tryd.pinned (.plain (OpenSpec.upto fnExtendedGlobConsumesNothingSpec)) fnExtendedGlobConsumesNothingUptoCard

/-- THE SECOND FORM's CARD OF 'n010_87.FnPeekDoesNotConsume'. -/
def fnPeekDoesNotConsumeUptoCard : Claim7 := { stood := { row := fnPeekDoesNotConsumeUptoRow, standIns := [], harness := (true, "839b0627f31d99caaf0e5d6e47b466b78346bed7c53096fcfaa50b261698d4ac"), looks := true }, kinds := [], alts := [], laidByText := true, laidKinds := [.sentinel], laidTests := true, laidLooks := .later }
def FnPeekDoesNotConsumeUptoCardSaid : Prop := Claim7.holds Tryd.pinned (.plain (OpenSpec.upto fnPeekDoesNotConsumeSpec)) fnPeekDoesNotConsumeUptoCard

/-- THE SECOND FORM's CARD OF 'n010_87.FnPeekTwoAgreesWithPeekOfAdvancedState'. -/
def fnPeekTwoAgreesWithPeekOfAdvancedStateUptoCard : Claim7 := { stood := { row := fnPeekTwoAgreesWithPeekOfAdvancedStateUptoRow, standIns := [], harness := (true, "839b0627f31d99caaf0e5d6e47b466b78346bed7c53096fcfaa50b261698d4ac"), looks := true }, kinds := [], alts := [], laidByText := true, laidKinds := [.sentinel], laidTests := true, laidLooks := .later }
def FnPeekTwoAgreesWithPeekOfAdvancedStateUptoCardSaid : Prop := Claim7.holds Tryd.pinned (.plain (OpenSpec.upto fnPeekTwoAgreesWithPeekOfAdvancedStateSpec)) fnPeekTwoAgreesWithPeekOfAdvancedStateUptoCard
end Rows
end Go.Proofs.YtmmoeendejbjeaaDoor
