/-
  NARROWER THAN 'FOR EVERY INPUT', by the rows' own cells (each row's printed sentence says how): FnPeekSeesNextUnreadByte: laid · FnPeekTwoSeesNextTwoBytes: laid · FnExtendedGlobCaseTable: laid · FnExtendedGlobConsumesNothing: laid · FnPeekDoesNotConsume: laid · FnPeekTwoAgreesWithPeekOfAdvancedState: laid.
  DERIVED. THE GIVEN ROWS OF THIS SEAT. 6 by the template 'for every input the law returns true; each argument reads behind the call as it read before'; 0 by the template 'total and deterministic' (their statements: YtmmoeendejbjeaaDoorTotals.lean).
  GIVEN WITH THE SEED: the statements are not yours to turn. If you find one false, say at which input.
  Laid BY PROGRAM, IN A SANDBOX (cutbox-rows.mjs): the forced cells as the released guide's own fill.sh prints them over the translation 000ffa6be5dafbd2… (all of the seat's roots in one cut). By AI agents, Wed Nov 11 2026. No macro, syntax, notation, axiom, sorry.
-/
import Derived.Test.YtmmoeendejbjeaaDoorChecked
import GoSem.Claim
import GoSem.ClaimJoined
import GoSem.ClaimMapViews
import Derived.JoinedTies
import Derived.KernelRfl
namespace Go.Proofs.YtmmoeendejbjeaaDoor
/- THE CELL 'sum', in the pinned program and in every row, IS THE sha256 OF THE DUMP (.gsa) THAT YtmmoeendejbjeaaDoorProg.lean LOADS. Nothing in Lean hashes anything: it is a label: what it is worth is what the hold of that sum in a sandbox is worth. -/
noncomputable def Tryd.pinned : Pinned := { name := "ytmmoeendejbjeaadoor", sum := "000ffa6be5dafbd2e8f0593cbf345b51aea0a06a0408b719b1c52fcb5da8cb15", checked := Tryd.checked }
namespace Rows
def none {H : Type} : Left H := { results := [], args := [] }

/- WHAT THE LISTED PACKAGE-LEVEL VARIABLES READ AS WHEN THE CALL BEGINS. Each datum BY PROGRAM (the guide's laid-datum.mjs) off the statement by which the dump's own 'gosem.cut.vars' lays the variable. In a bare row this is a premise. The card (YtmmoeendejbjeaaDoorCards.lean) ties it to the program's text. -/
def laid_io_EOF {H : Type} : DataW H := .iface "*errors.errorString" (.ptr (.agg [.lit (.string [69, 79, 70])]))

/-- 'n010_87.FnPeekSeesNextUnreadByte': WHATEVER THE INPUT: true; the input reads as it did. -/
def fnPeekSeesNextUnreadByteSpec : ChangeSpec := { name := "fnPeekSeesNextUnreadByte", fn := fun _ => fun
  | [d1, d2, d3] => { results := [.lit (.bool true)], args := [d1, d2, d3] }
  | _ => none }
def fnPeekSeesNextUnreadByteRow : OpenClaim := { program := "ytmmoeendejbjeaadoor", sum := "000ffa6be5dafbd2e8f0593cbf345b51aea0a06a0408b719b1c52fcb5da8cb15", func := "mvdan.cc/sh/v3/n010_87.FnPeekSeesNextUnreadByte", spec := "fnPeekSeesNextUnreadByte", unfollowed := true, recurses := true, named := ["io.EOF"], apart := false, laid := [("io.EOF", laid_io_EOF)] }
def FnPeekSeesNextUnreadByteSaid : Prop := fnPeekSeesNextUnreadByteRow.holds Tryd.pinned (OpenSpec.ofChange fnPeekSeesNextUnreadByteSpec)

/-- ITS FALSE NEIGHBOUR: 'it returns false'. Refute it at one input. -/
def fnPeekSeesNextUnreadByteWrong : ChangeSpec := { name := "fnPeekSeesNextUnreadByte", fn := fun _ => fun
  | [d1, d2, d3] => { results := [.lit (.bool false)], args := [d1, d2, d3] }
  | _ => none }
def FnPeekSeesNextUnreadByteWrongFalsely : Prop := fnPeekSeesNextUnreadByteRow.holds Tryd.pinned (OpenSpec.ofChange fnPeekSeesNextUnreadByteWrong)

/-- 'n010_87.FnPeekTwoSeesNextTwoBytes': WHATEVER THE INPUT: true; the input reads as it did. -/
def fnPeekTwoSeesNextTwoBytesSpec : ChangeSpec := { name := "fnPeekTwoSeesNextTwoBytes", fn := fun _ => fun
  | [d1, d2, d3] => { results := [.lit (.bool true)], args := [d1, d2, d3] }
  | _ => none }
def fnPeekTwoSeesNextTwoBytesRow : OpenClaim := { program := "ytmmoeendejbjeaadoor", sum := "000ffa6be5dafbd2e8f0593cbf345b51aea0a06a0408b719b1c52fcb5da8cb15", func := "mvdan.cc/sh/v3/n010_87.FnPeekTwoSeesNextTwoBytes", spec := "fnPeekTwoSeesNextTwoBytes", unfollowed := true, recurses := true, named := ["io.EOF"], apart := false, laid := [("io.EOF", laid_io_EOF)] }
def FnPeekTwoSeesNextTwoBytesSaid : Prop := fnPeekTwoSeesNextTwoBytesRow.holds Tryd.pinned (OpenSpec.ofChange fnPeekTwoSeesNextTwoBytesSpec)

/-- ITS FALSE NEIGHBOUR: 'it returns false'. Refute it at one input. -/
def fnPeekTwoSeesNextTwoBytesWrong : ChangeSpec := { name := "fnPeekTwoSeesNextTwoBytes", fn := fun _ => fun
  | [d1, d2, d3] => { results := [.lit (.bool false)], args := [d1, d2, d3] }
  | _ => none }
def FnPeekTwoSeesNextTwoBytesWrongFalsely : Prop := fnPeekTwoSeesNextTwoBytesRow.holds Tryd.pinned (OpenSpec.ofChange fnPeekTwoSeesNextTwoBytesWrong)

/-- 'n010_87.FnExtendedGlobCaseTable': WHATEVER THE INPUT: true; the input reads as it did. -/
def fnExtendedGlobCaseTableSpec : ChangeSpec := { name := "fnExtendedGlobCaseTable", fn := fun _ => fun
  | [d1, d2, d3, d4, d5] => { results := [.lit (.bool true)], args := [d1, d2, d3, d4, d5] }
  | _ => none }
def fnExtendedGlobCaseTableRow : OpenClaim := { program := "ytmmoeendejbjeaadoor", sum := "000ffa6be5dafbd2e8f0593cbf345b51aea0a06a0408b719b1c52fcb5da8cb15", func := "mvdan.cc/sh/v3/n010_87.FnExtendedGlobCaseTable", spec := "fnExtendedGlobCaseTable", unfollowed := true, recurses := true, named := ["io.EOF"], apart := false, laid := [("io.EOF", laid_io_EOF)] }
def FnExtendedGlobCaseTableSaid : Prop := fnExtendedGlobCaseTableRow.holds Tryd.pinned (OpenSpec.ofChange fnExtendedGlobCaseTableSpec)

/-- ITS FALSE NEIGHBOUR: 'it returns false'. Refute it at one input. -/
def fnExtendedGlobCaseTableWrong : ChangeSpec := { name := "fnExtendedGlobCaseTable", fn := fun _ => fun
  | [d1, d2, d3, d4, d5] => { results := [.lit (.bool false)], args := [d1, d2, d3, d4, d5] }
  | _ => none }
def FnExtendedGlobCaseTableWrongFalsely : Prop := fnExtendedGlobCaseTableRow.holds Tryd.pinned (OpenSpec.ofChange fnExtendedGlobCaseTableWrong)

/-- 'n010_87.FnExtendedGlobConsumesNothing': WHATEVER THE INPUT: true; the input reads as it did. -/
def fnExtendedGlobConsumesNothingSpec : ChangeSpec := { name := "fnExtendedGlobConsumesNothing", fn := fun _ => fun
  | [d1, d2, d3, d4, d5] => { results := [.lit (.bool true)], args := [d1, d2, d3, d4, d5] }
  | _ => none }
def fnExtendedGlobConsumesNothingRow : OpenClaim := { program := "ytmmoeendejbjeaadoor", sum := "000ffa6be5dafbd2e8f0593cbf345b51aea0a06a0408b719b1c52fcb5da8cb15", func := "mvdan.cc/sh/v3/n010_87.FnExtendedGlobConsumesNothing", spec := "fnExtendedGlobConsumesNothing", unfollowed := true, recurses := true, named := ["io.EOF"], apart := false, laid := [("io.EOF", laid_io_EOF)] }
def FnExtendedGlobConsumesNothingSaid : Prop := fnExtendedGlobConsumesNothingRow.holds Tryd.pinned (OpenSpec.ofChange fnExtendedGlobConsumesNothingSpec)

/-- ITS FALSE NEIGHBOUR: 'it returns false'. Refute it at one input. -/
def fnExtendedGlobConsumesNothingWrong : ChangeSpec := { name := "fnExtendedGlobConsumesNothing", fn := fun _ => fun
  | [d1, d2, d3, d4, d5] => { results := [.lit (.bool false)], args := [d1, d2, d3, d4, d5] }
  | _ => none }
def FnExtendedGlobConsumesNothingWrongFalsely : Prop := fnExtendedGlobConsumesNothingRow.holds Tryd.pinned (OpenSpec.ofChange fnExtendedGlobConsumesNothingWrong)

/-- 'n010_87.FnPeekDoesNotConsume': WHATEVER THE INPUT: true; the input reads as it did. -/
def fnPeekDoesNotConsumeSpec : ChangeSpec := { name := "fnPeekDoesNotConsume", fn := fun _ => fun
  | [d1, d2, d3] => { results := [.lit (.bool true)], args := [d1, d2, d3] }
  | _ => none }
def fnPeekDoesNotConsumeRow : OpenClaim := { program := "ytmmoeendejbjeaadoor", sum := "000ffa6be5dafbd2e8f0593cbf345b51aea0a06a0408b719b1c52fcb5da8cb15", func := "mvdan.cc/sh/v3/n010_87.FnPeekDoesNotConsume", spec := "fnPeekDoesNotConsume", unfollowed := true, recurses := true, named := ["io.EOF"], apart := false, laid := [("io.EOF", laid_io_EOF)] }
def FnPeekDoesNotConsumeSaid : Prop := fnPeekDoesNotConsumeRow.holds Tryd.pinned (OpenSpec.ofChange fnPeekDoesNotConsumeSpec)

/-- ITS FALSE NEIGHBOUR: 'it returns false'. Refute it at one input. -/
def fnPeekDoesNotConsumeWrong : ChangeSpec := { name := "fnPeekDoesNotConsume", fn := fun _ => fun
  | [d1, d2, d3] => { results := [.lit (.bool false)], args := [d1, d2, d3] }
  | _ => none }
def FnPeekDoesNotConsumeWrongFalsely : Prop := fnPeekDoesNotConsumeRow.holds Tryd.pinned (OpenSpec.ofChange fnPeekDoesNotConsumeWrong)

/-- 'n010_87.FnPeekTwoAgreesWithPeekOfAdvancedState': WHATEVER THE INPUT: true; the input reads as it did. -/
def fnPeekTwoAgreesWithPeekOfAdvancedStateSpec : ChangeSpec := { name := "fnPeekTwoAgreesWithPeekOfAdvancedState", fn := fun _ => fun
  | [d1, d2, d3] => { results := [.lit (.bool true)], args := [d1, d2, d3] }
  | _ => none }
def fnPeekTwoAgreesWithPeekOfAdvancedStateRow : OpenClaim := { program := "ytmmoeendejbjeaadoor", sum := "000ffa6be5dafbd2e8f0593cbf345b51aea0a06a0408b719b1c52fcb5da8cb15", func := "mvdan.cc/sh/v3/n010_87.FnPeekTwoAgreesWithPeekOfAdvancedState", spec := "fnPeekTwoAgreesWithPeekOfAdvancedState", unfollowed := true, recurses := true, named := ["io.EOF"], apart := false, laid := [("io.EOF", laid_io_EOF)] }
def FnPeekTwoAgreesWithPeekOfAdvancedStateSaid : Prop := fnPeekTwoAgreesWithPeekOfAdvancedStateRow.holds Tryd.pinned (OpenSpec.ofChange fnPeekTwoAgreesWithPeekOfAdvancedStateSpec)

/-- ITS FALSE NEIGHBOUR: 'it returns false'. Refute it at one input. -/
def fnPeekTwoAgreesWithPeekOfAdvancedStateWrong : ChangeSpec := { name := "fnPeekTwoAgreesWithPeekOfAdvancedState", fn := fun _ => fun
  | [d1, d2, d3] => { results := [.lit (.bool false)], args := [d1, d2, d3] }
  | _ => none }
def FnPeekTwoAgreesWithPeekOfAdvancedStateWrongFalsely : Prop := fnPeekTwoAgreesWithPeekOfAdvancedStateRow.holds Tryd.pinned (OpenSpec.ofChange fnPeekTwoAgreesWithPeekOfAdvancedStateWrong)

/- THE SECOND FORM. 'bulk': how many values and letters a reading holds, each counted each time it is reached (what is shared counts as often as it is met; a slice's spare places count too). A statement '..UptoSaid' is the law's where the arguments, and the package variables that the reading takes, are together of bulk at most 1048576: NARROWER than '..Said'. Prove '..Said' where nothing that the law and all that it calls make is longer than what came in: it says more and counts as full. Else prove '..UptoSaid'. A law counts once. -/
mutual
def uptoBulk {H : Type} : DataW H → Nat
  | .lit (.string bytes) => bytes.length + 1
  | .lit _ => 1
  | .nil => 1
  | .ptr d => uptoBulk d + 1
  | .slice elems spare => uptoBulkAll elems + uptoBulkAll spare + 1
  | .agg parts => uptoBulkAll parts + 1
  | .iface _ d => uptoBulk d + 1
  | .map entries => uptoBulkEntries entries + 1
  | .held _ => 1
def uptoBulkAll {H : Type} : List (DataW H) → Nat
  | [] => 0
  | d :: r => uptoBulk d + uptoBulkAll r
def uptoBulkEntries {H : Type} : List (Lit × DataW H) → Nat
  | [] => 0
  | x :: r => uptoBulkEntry x + uptoBulkEntries r
def uptoBulkEntry {H : Type} : Lit × DataW H → Nat
  | (.string bytes, d) => bytes.length + uptoBulk d + 1
  | (_, d) => uptoBulk d + 1
 end
def uptoSmall : (H : Type) → List (DataW H) → Bool := fun _ ds => decide (uptoBulkAll ds ≤ 1048576)
def OpenSpec.upto (s : _root_.Go.ChangeSpec) : _root_.Go.OpenSpec := { _root_.Go.OpenSpec.ofChange s with cond := some uptoSmall }

/-- 'n010_87.FnPeekSeesNextUnreadByte', WHERE WHAT IT READS IS OF BULK AT MOST 1048576: true; the input reads as it did. -/
def fnPeekSeesNextUnreadByteUptoRow : OpenClaim := { program := "ytmmoeendejbjeaadoor", sum := "000ffa6be5dafbd2e8f0593cbf345b51aea0a06a0408b719b1c52fcb5da8cb15", func := "mvdan.cc/sh/v3/n010_87.FnPeekSeesNextUnreadByte", spec := "fnPeekSeesNextUnreadByte", unfollowed := true, recurses := true, named := ["io.EOF"], apart := false, laid := [("io.EOF", laid_io_EOF)], narrowed := true }
def FnPeekSeesNextUnreadByteUptoSaid : Prop := fnPeekSeesNextUnreadByteUptoRow.holds Tryd.pinned (OpenSpec.upto fnPeekSeesNextUnreadByteSpec)

/-- 'n010_87.FnPeekTwoSeesNextTwoBytes', WHERE WHAT IT READS IS OF BULK AT MOST 1048576: true; the input reads as it did. -/
def fnPeekTwoSeesNextTwoBytesUptoRow : OpenClaim := { program := "ytmmoeendejbjeaadoor", sum := "000ffa6be5dafbd2e8f0593cbf345b51aea0a06a0408b719b1c52fcb5da8cb15", func := "mvdan.cc/sh/v3/n010_87.FnPeekTwoSeesNextTwoBytes", spec := "fnPeekTwoSeesNextTwoBytes", unfollowed := true, recurses := true, named := ["io.EOF"], apart := false, laid := [("io.EOF", laid_io_EOF)], narrowed := true }
def FnPeekTwoSeesNextTwoBytesUptoSaid : Prop := fnPeekTwoSeesNextTwoBytesUptoRow.holds Tryd.pinned (OpenSpec.upto fnPeekTwoSeesNextTwoBytesSpec)

/-- 'n010_87.FnExtendedGlobCaseTable', WHERE WHAT IT READS IS OF BULK AT MOST 1048576: true; the input reads as it did. -/
def fnExtendedGlobCaseTableUptoRow : OpenClaim := { program := "ytmmoeendejbjeaadoor", sum := "000ffa6be5dafbd2e8f0593cbf345b51aea0a06a0408b719b1c52fcb5da8cb15", func := "mvdan.cc/sh/v3/n010_87.FnExtendedGlobCaseTable", spec := "fnExtendedGlobCaseTable", unfollowed := true, recurses := true, named := ["io.EOF"], apart := false, laid := [("io.EOF", laid_io_EOF)], narrowed := true }
def FnExtendedGlobCaseTableUptoSaid : Prop := fnExtendedGlobCaseTableUptoRow.holds Tryd.pinned (OpenSpec.upto fnExtendedGlobCaseTableSpec)

/-- 'n010_87.FnExtendedGlobConsumesNothing', WHERE WHAT IT READS IS OF BULK AT MOST 1048576: true; the input reads as it did. -/
def fnExtendedGlobConsumesNothingUptoRow : OpenClaim := { program := "ytmmoeendejbjeaadoor", sum := "000ffa6be5dafbd2e8f0593cbf345b51aea0a06a0408b719b1c52fcb5da8cb15", func := "mvdan.cc/sh/v3/n010_87.FnExtendedGlobConsumesNothing", spec := "fnExtendedGlobConsumesNothing", unfollowed := true, recurses := true, named := ["io.EOF"], apart := false, laid := [("io.EOF", laid_io_EOF)], narrowed := true }
def FnExtendedGlobConsumesNothingUptoSaid : Prop := fnExtendedGlobConsumesNothingUptoRow.holds Tryd.pinned (OpenSpec.upto fnExtendedGlobConsumesNothingSpec)

/-- 'n010_87.FnPeekDoesNotConsume', WHERE WHAT IT READS IS OF BULK AT MOST 1048576: true; the input reads as it did. -/
def fnPeekDoesNotConsumeUptoRow : OpenClaim := { program := "ytmmoeendejbjeaadoor", sum := "000ffa6be5dafbd2e8f0593cbf345b51aea0a06a0408b719b1c52fcb5da8cb15", func := "mvdan.cc/sh/v3/n010_87.FnPeekDoesNotConsume", spec := "fnPeekDoesNotConsume", unfollowed := true, recurses := true, named := ["io.EOF"], apart := false, laid := [("io.EOF", laid_io_EOF)], narrowed := true }
def FnPeekDoesNotConsumeUptoSaid : Prop := fnPeekDoesNotConsumeUptoRow.holds Tryd.pinned (OpenSpec.upto fnPeekDoesNotConsumeSpec)

/-- 'n010_87.FnPeekTwoAgreesWithPeekOfAdvancedState', WHERE WHAT IT READS IS OF BULK AT MOST 1048576: true; the input reads as it did. -/
def fnPeekTwoAgreesWithPeekOfAdvancedStateUptoRow : OpenClaim := { program := "ytmmoeendejbjeaadoor", sum := "000ffa6be5dafbd2e8f0593cbf345b51aea0a06a0408b719b1c52fcb5da8cb15", func := "mvdan.cc/sh/v3/n010_87.FnPeekTwoAgreesWithPeekOfAdvancedState", spec := "fnPeekTwoAgreesWithPeekOfAdvancedState", unfollowed := true, recurses := true, named := ["io.EOF"], apart := false, laid := [("io.EOF", laid_io_EOF)], narrowed := true }
def FnPeekTwoAgreesWithPeekOfAdvancedStateUptoSaid : Prop := fnPeekTwoAgreesWithPeekOfAdvancedStateUptoRow.holds Tryd.pinned (OpenSpec.upto fnPeekTwoAgreesWithPeekOfAdvancedStateSpec)

end Rows
end Go.Proofs.YtmmoeendejbjeaaDoor
