/-
  NARROWER THAN 'FOR EVERY INPUT', by the rows' own cells (each row's printed sentence says how): FnColWriteStringMatchesClosedForm: laid · FnColWriteMatchesClosedForm: laid · FnColWriteStringAgreesWithWrite: laid · FnColResetStartsFreshLine: laid · FnColWriteSplitAgrees: laid · FnColResetForgetsHistory: laid.
  DERIVED. THE GIVEN ROWS OF THIS SEAT. 6 by the template 'for every input the law returns true; each argument reads behind the call as it read before'; 0 by the template 'total and deterministic' (their statements: YtmoglhggnodkoaaDoorTotals.lean).
  GIVEN WITH THE SEED: the statements are not yours to turn. If you find one false, say at which input.
  Laid BY PROGRAM, IN A SANDBOX (cutbox-rows.mjs): the forced cells as the released guide's own fill.sh prints them over the translation 7aa7720102d27ee2… (all of the seat's roots in one cut). By AI agents, Wed Nov 11 2026. No macro, syntax, notation, axiom, sorry.
-/
import Derived.Test.YtmoglhggnodkoaaDoorChecked
import GoSem.Claim
import GoSem.ClaimJoined
import GoSem.ClaimMapViews
import Derived.JoinedTies
import Derived.KernelRfl
namespace Go.Proofs.YtmoglhggnodkoaaDoor
/- THE CELL 'sum', in the pinned program and in every row, IS THE sha256 OF THE DUMP (.gsa) THAT YtmoglhggnodkoaaDoorProg.lean LOADS. Nothing in Lean hashes anything: it is a label: what it is worth is what the hold of that sum in a sandbox is worth. -/
noncomputable def Tryd.pinned : Pinned := { name := "ytmoglhggnodkoaadoor", sum := "7aa7720102d27ee29f9d1516512c052bab08e384be049c657abce598a242e6d2", checked := Tryd.checked }
namespace Rows
def none {H : Type} : Left H := { results := [], args := [] }

/- WHAT THE LISTED PACKAGE-LEVEL VARIABLES READ AS WHEN THE CALL BEGINS. Each datum BY PROGRAM (the guide's laid-datum.mjs) off the statement by which the dump's own 'gosem.cut.vars' lays the variable. In a bare row this is a premise. The card (YtmoglhggnodkoaaDoorCards.lean) ties it to the program's text. -/
def laid_io_ErrShortWrite {H : Type} : DataW H := .iface "*errors.errorString" (.ptr (.agg [.lit (.string [115, 104, 111, 114, 116, 32, 119, 114, 105, 116, 101])]))

/-- 'n010_113.FnColWriteStringMatchesClosedForm': WHATEVER THE INPUT: true; the input reads as it did. -/
def fnColWriteStringMatchesClosedFormSpec : ChangeSpec := { name := "fnColWriteStringMatchesClosedForm", fn := fun _ => fun
  | [d1, d2, d3] => { results := [.lit (.bool true)], args := [d1, d2, d3] }
  | _ => none }
def fnColWriteStringMatchesClosedFormRow : OpenClaim := { program := "ytmoglhggnodkoaadoor", sum := "7aa7720102d27ee29f9d1516512c052bab08e384be049c657abce598a242e6d2", func := "mvdan.cc/sh/v3/n010_113.FnColWriteStringMatchesClosedForm", spec := "fnColWriteStringMatchesClosedForm", unfollowed := true, recurses := true, named := ["io.ErrShortWrite"], apart := false, laid := [("io.ErrShortWrite", laid_io_ErrShortWrite)] }
def FnColWriteStringMatchesClosedFormSaid : Prop := fnColWriteStringMatchesClosedFormRow.holds Tryd.pinned (OpenSpec.ofChange fnColWriteStringMatchesClosedFormSpec)

/-- ITS FALSE NEIGHBOUR: 'it returns false'. Refute it at one input. -/
def fnColWriteStringMatchesClosedFormWrong : ChangeSpec := { name := "fnColWriteStringMatchesClosedForm", fn := fun _ => fun
  | [d1, d2, d3] => { results := [.lit (.bool false)], args := [d1, d2, d3] }
  | _ => none }
def FnColWriteStringMatchesClosedFormWrongFalsely : Prop := fnColWriteStringMatchesClosedFormRow.holds Tryd.pinned (OpenSpec.ofChange fnColWriteStringMatchesClosedFormWrong)

/-- 'n010_113.FnColWriteMatchesClosedForm': WHATEVER THE INPUT: true; the input reads as it did. -/
def fnColWriteMatchesClosedFormSpec : ChangeSpec := { name := "fnColWriteMatchesClosedForm", fn := fun _ => fun
  | [d1, d2, d3] => { results := [.lit (.bool true)], args := [d1, d2, d3] }
  | _ => none }
def fnColWriteMatchesClosedFormRow : OpenClaim := { program := "ytmoglhggnodkoaadoor", sum := "7aa7720102d27ee29f9d1516512c052bab08e384be049c657abce598a242e6d2", func := "mvdan.cc/sh/v3/n010_113.FnColWriteMatchesClosedForm", spec := "fnColWriteMatchesClosedForm", unfollowed := true, recurses := true, named := ["io.ErrShortWrite"], apart := false, laid := [("io.ErrShortWrite", laid_io_ErrShortWrite)] }
def FnColWriteMatchesClosedFormSaid : Prop := fnColWriteMatchesClosedFormRow.holds Tryd.pinned (OpenSpec.ofChange fnColWriteMatchesClosedFormSpec)

/-- ITS FALSE NEIGHBOUR: 'it returns false'. Refute it at one input. -/
def fnColWriteMatchesClosedFormWrong : ChangeSpec := { name := "fnColWriteMatchesClosedForm", fn := fun _ => fun
  | [d1, d2, d3] => { results := [.lit (.bool false)], args := [d1, d2, d3] }
  | _ => none }
def FnColWriteMatchesClosedFormWrongFalsely : Prop := fnColWriteMatchesClosedFormRow.holds Tryd.pinned (OpenSpec.ofChange fnColWriteMatchesClosedFormWrong)

/-- 'n010_113.FnColWriteStringAgreesWithWrite': WHATEVER THE INPUT: true; the input reads as it did. -/
def fnColWriteStringAgreesWithWriteSpec : ChangeSpec := { name := "fnColWriteStringAgreesWithWrite", fn := fun _ => fun
  | [d1, d2, d3, d4] => { results := [.lit (.bool true)], args := [d1, d2, d3, d4] }
  | _ => none }
def fnColWriteStringAgreesWithWriteRow : OpenClaim := { program := "ytmoglhggnodkoaadoor", sum := "7aa7720102d27ee29f9d1516512c052bab08e384be049c657abce598a242e6d2", func := "mvdan.cc/sh/v3/n010_113.FnColWriteStringAgreesWithWrite", spec := "fnColWriteStringAgreesWithWrite", unfollowed := true, recurses := true, named := ["io.ErrShortWrite"], apart := false, laid := [("io.ErrShortWrite", laid_io_ErrShortWrite)] }
def FnColWriteStringAgreesWithWriteSaid : Prop := fnColWriteStringAgreesWithWriteRow.holds Tryd.pinned (OpenSpec.ofChange fnColWriteStringAgreesWithWriteSpec)

/-- ITS FALSE NEIGHBOUR: 'it returns false'. Refute it at one input. -/
def fnColWriteStringAgreesWithWriteWrong : ChangeSpec := { name := "fnColWriteStringAgreesWithWrite", fn := fun _ => fun
  | [d1, d2, d3, d4] => { results := [.lit (.bool false)], args := [d1, d2, d3, d4] }
  | _ => none }
def FnColWriteStringAgreesWithWriteWrongFalsely : Prop := fnColWriteStringAgreesWithWriteRow.holds Tryd.pinned (OpenSpec.ofChange fnColWriteStringAgreesWithWriteWrong)

/-- 'n010_113.FnColResetStartsFreshLine': WHATEVER THE INPUT: true; the input reads as it did. -/
def fnColResetStartsFreshLineSpec : ChangeSpec := { name := "fnColResetStartsFreshLine", fn := fun _ => fun
  | [d1, d2, d3, d4] => { results := [.lit (.bool true)], args := [d1, d2, d3, d4] }
  | _ => none }
def fnColResetStartsFreshLineRow : OpenClaim := { program := "ytmoglhggnodkoaadoor", sum := "7aa7720102d27ee29f9d1516512c052bab08e384be049c657abce598a242e6d2", func := "mvdan.cc/sh/v3/n010_113.FnColResetStartsFreshLine", spec := "fnColResetStartsFreshLine", unfollowed := true, recurses := true, named := ["io.ErrShortWrite"], apart := false, laid := [("io.ErrShortWrite", laid_io_ErrShortWrite)] }
def FnColResetStartsFreshLineSaid : Prop := fnColResetStartsFreshLineRow.holds Tryd.pinned (OpenSpec.ofChange fnColResetStartsFreshLineSpec)

/-- ITS FALSE NEIGHBOUR: 'it returns false'. Refute it at one input. -/
def fnColResetStartsFreshLineWrong : ChangeSpec := { name := "fnColResetStartsFreshLine", fn := fun _ => fun
  | [d1, d2, d3, d4] => { results := [.lit (.bool false)], args := [d1, d2, d3, d4] }
  | _ => none }
def FnColResetStartsFreshLineWrongFalsely : Prop := fnColResetStartsFreshLineRow.holds Tryd.pinned (OpenSpec.ofChange fnColResetStartsFreshLineWrong)

/-- 'n010_113.FnColWriteSplitAgrees': WHATEVER THE INPUT: true; the input reads as it did. -/
def fnColWriteSplitAgreesSpec : ChangeSpec := { name := "fnColWriteSplitAgrees", fn := fun _ => fun
  | [d1, d2, d3, d4] => { results := [.lit (.bool true)], args := [d1, d2, d3, d4] }
  | _ => none }
def fnColWriteSplitAgreesRow : OpenClaim := { program := "ytmoglhggnodkoaadoor", sum := "7aa7720102d27ee29f9d1516512c052bab08e384be049c657abce598a242e6d2", func := "mvdan.cc/sh/v3/n010_113.FnColWriteSplitAgrees", spec := "fnColWriteSplitAgrees", unfollowed := true, recurses := true, named := ["io.ErrShortWrite"], apart := false, laid := [("io.ErrShortWrite", laid_io_ErrShortWrite)] }
def FnColWriteSplitAgreesSaid : Prop := fnColWriteSplitAgreesRow.holds Tryd.pinned (OpenSpec.ofChange fnColWriteSplitAgreesSpec)

/-- ITS FALSE NEIGHBOUR: 'it returns false'. Refute it at one input. -/
def fnColWriteSplitAgreesWrong : ChangeSpec := { name := "fnColWriteSplitAgrees", fn := fun _ => fun
  | [d1, d2, d3, d4] => { results := [.lit (.bool false)], args := [d1, d2, d3, d4] }
  | _ => none }
def FnColWriteSplitAgreesWrongFalsely : Prop := fnColWriteSplitAgreesRow.holds Tryd.pinned (OpenSpec.ofChange fnColWriteSplitAgreesWrong)

/-- 'n010_113.FnColResetForgetsHistory': WHATEVER THE INPUT: true; the input reads as it did. -/
def fnColResetForgetsHistorySpec : ChangeSpec := { name := "fnColResetForgetsHistory", fn := fun _ => fun
  | [d1, d2, d3, d4, d5, d6, d7] => { results := [.lit (.bool true)], args := [d1, d2, d3, d4, d5, d6, d7] }
  | _ => none }
def fnColResetForgetsHistoryRow : OpenClaim := { program := "ytmoglhggnodkoaadoor", sum := "7aa7720102d27ee29f9d1516512c052bab08e384be049c657abce598a242e6d2", func := "mvdan.cc/sh/v3/n010_113.FnColResetForgetsHistory", spec := "fnColResetForgetsHistory", unfollowed := true, recurses := true, named := ["io.ErrShortWrite"], apart := false, laid := [("io.ErrShortWrite", laid_io_ErrShortWrite)] }
def FnColResetForgetsHistorySaid : Prop := fnColResetForgetsHistoryRow.holds Tryd.pinned (OpenSpec.ofChange fnColResetForgetsHistorySpec)

/-- ITS FALSE NEIGHBOUR: 'it returns false'. Refute it at one input. -/
def fnColResetForgetsHistoryWrong : ChangeSpec := { name := "fnColResetForgetsHistory", fn := fun _ => fun
  | [d1, d2, d3, d4, d5, d6, d7] => { results := [.lit (.bool false)], args := [d1, d2, d3, d4, d5, d6, d7] }
  | _ => none }
def FnColResetForgetsHistoryWrongFalsely : Prop := fnColResetForgetsHistoryRow.holds Tryd.pinned (OpenSpec.ofChange fnColResetForgetsHistoryWrong)

/- THE SECOND FORM. 'bulk': how many values and letters a reading holds, each counted each time it is reached (what is shared counts as often as it is met; a slice's spare places count too). A statement '..UptoSaid' is the law's where the arguments, and the package variables that the reading takes, are together of bulk at most 1048576: NARROWER than '..Said'. Prove '..Said' where nothing that the law and all that it calls make is longer than what came in: it says more and counts as full. Else prove '..UptoSaid'. A law counts once. -/
mutual
def uptoBulk {H : Type} : DataW H → Nat
  | .lit (.string bytes) => bytes.length + 1
  | .lit _ => 1
  | .nil => 1
  | .ptr d => uptoBulk d + 1
  | .slice elems spare => uptoBulkAll elems + uptoBulkAll spare + 1
  | .agg parts => uptoBulkAll parts + 1
  | .iface _ d => uptoBulk d + 1
  | .map entries => uptoBulkEntries entries + 1
  | .held _ => 1
def uptoBulkAll {H : Type} : List (DataW H) → Nat
  | [] => 0
  | d :: r => uptoBulk d + uptoBulkAll r
def uptoBulkEntries {H : Type} : List (Lit × DataW H) → Nat
  | [] => 0
  | x :: r => uptoBulkEntry x + uptoBulkEntries r
def uptoBulkEntry {H : Type} : Lit × DataW H → Nat
  | (.string bytes, d) => bytes.length + uptoBulk d + 1
  | (_, d) => uptoBulk d + 1
 end
def uptoSmall : (H : Type) → List (DataW H) → Bool := fun _ ds => decide (uptoBulkAll ds ≤ 1048576)
def OpenSpec.upto (s : _root_.Go.ChangeSpec) : _root_.Go.OpenSpec := { _root_.Go.OpenSpec.ofChange s with cond := some uptoSmall }

/-- 'n010_113.FnColWriteStringMatchesClosedForm', WHERE WHAT IT READS IS OF BULK AT MOST 1048576: true; the input reads as it did. -/
def fnColWriteStringMatchesClosedFormUptoRow : OpenClaim := { program := "ytmoglhggnodkoaadoor", sum := "7aa7720102d27ee29f9d1516512c052bab08e384be049c657abce598a242e6d2", func := "mvdan.cc/sh/v3/n010_113.FnColWriteStringMatchesClosedForm", spec := "fnColWriteStringMatchesClosedForm", unfollowed := true, recurses := true, named := ["io.ErrShortWrite"], apart := false, laid := [("io.ErrShortWrite", laid_io_ErrShortWrite)], narrowed := true }
def FnColWriteStringMatchesClosedFormUptoSaid : Prop := fnColWriteStringMatchesClosedFormUptoRow.holds Tryd.pinned (OpenSpec.upto fnColWriteStringMatchesClosedFormSpec)

/-- 'n010_113.FnColWriteMatchesClosedForm', WHERE WHAT IT READS IS OF BULK AT MOST 1048576: true; the input reads as it did. -/
def fnColWriteMatchesClosedFormUptoRow : OpenClaim := { program := "ytmoglhggnodkoaadoor", sum := "7aa7720102d27ee29f9d1516512c052bab08e384be049c657abce598a242e6d2", func := "mvdan.cc/sh/v3/n010_113.FnColWriteMatchesClosedForm", spec := "fnColWriteMatchesClosedForm", unfollowed := true, recurses := true, named := ["io.ErrShortWrite"], apart := false, laid := [("io.ErrShortWrite", laid_io_ErrShortWrite)], narrowed := true }
def FnColWriteMatchesClosedFormUptoSaid : Prop := fnColWriteMatchesClosedFormUptoRow.holds Tryd.pinned (OpenSpec.upto fnColWriteMatchesClosedFormSpec)

/-- 'n010_113.FnColWriteStringAgreesWithWrite', WHERE WHAT IT READS IS OF BULK AT MOST 1048576: true; the input reads as it did. -/
def fnColWriteStringAgreesWithWriteUptoRow : OpenClaim := { program := "ytmoglhggnodkoaadoor", sum := "7aa7720102d27ee29f9d1516512c052bab08e384be049c657abce598a242e6d2", func := "mvdan.cc/sh/v3/n010_113.FnColWriteStringAgreesWithWrite", spec := "fnColWriteStringAgreesWithWrite", unfollowed := true, recurses := true, named := ["io.ErrShortWrite"], apart := false, laid := [("io.ErrShortWrite", laid_io_ErrShortWrite)], narrowed := true }
def FnColWriteStringAgreesWithWriteUptoSaid : Prop := fnColWriteStringAgreesWithWriteUptoRow.holds Tryd.pinned (OpenSpec.upto fnColWriteStringAgreesWithWriteSpec)

/-- 'n010_113.FnColResetStartsFreshLine', WHERE WHAT IT READS IS OF BULK AT MOST 1048576: true; the input reads as it did. -/
def fnColResetStartsFreshLineUptoRow : OpenClaim := { program := "ytmoglhggnodkoaadoor", sum := "7aa7720102d27ee29f9d1516512c052bab08e384be049c657abce598a242e6d2", func := "mvdan.cc/sh/v3/n010_113.FnColResetStartsFreshLine", spec := "fnColResetStartsFreshLine", unfollowed := true, recurses := true, named := ["io.ErrShortWrite"], apart := false, laid := [("io.ErrShortWrite", laid_io_ErrShortWrite)], narrowed := true }
def FnColResetStartsFreshLineUptoSaid : Prop := fnColResetStartsFreshLineUptoRow.holds Tryd.pinned (OpenSpec.upto fnColResetStartsFreshLineSpec)

/-- 'n010_113.FnColWriteSplitAgrees', WHERE WHAT IT READS IS OF BULK AT MOST 1048576: true; the input reads as it did. -/
def fnColWriteSplitAgreesUptoRow : OpenClaim := { program := "ytmoglhggnodkoaadoor", sum := "7aa7720102d27ee29f9d1516512c052bab08e384be049c657abce598a242e6d2", func := "mvdan.cc/sh/v3/n010_113.FnColWriteSplitAgrees", spec := "fnColWriteSplitAgrees", unfollowed := true, recurses := true, named := ["io.ErrShortWrite"], apart := false, laid := [("io.ErrShortWrite", laid_io_ErrShortWrite)], narrowed := true }
def FnColWriteSplitAgreesUptoSaid : Prop := fnColWriteSplitAgreesUptoRow.holds Tryd.pinned (OpenSpec.upto fnColWriteSplitAgreesSpec)

/-- 'n010_113.FnColResetForgetsHistory', WHERE WHAT IT READS IS OF BULK AT MOST 1048576: true; the input reads as it did. -/
def fnColResetForgetsHistoryUptoRow : OpenClaim := { program := "ytmoglhggnodkoaadoor", sum := "7aa7720102d27ee29f9d1516512c052bab08e384be049c657abce598a242e6d2", func := "mvdan.cc/sh/v3/n010_113.FnColResetForgetsHistory", spec := "fnColResetForgetsHistory", unfollowed := true, recurses := true, named := ["io.ErrShortWrite"], apart := false, laid := [("io.ErrShortWrite", laid_io_ErrShortWrite)], narrowed := true }
def FnColResetForgetsHistoryUptoSaid : Prop := fnColResetForgetsHistoryUptoRow.holds Tryd.pinned (OpenSpec.upto fnColResetForgetsHistorySpec)

end Rows
end Go.Proofs.YtmoglhggnodkoaaDoor
