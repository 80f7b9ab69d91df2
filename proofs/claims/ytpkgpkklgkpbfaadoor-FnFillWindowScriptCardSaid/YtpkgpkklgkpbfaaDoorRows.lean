/-
  NARROWER THAN 'FOR EVERY INPUT', by the rows' own cells (each row's printed sentence says how): FnFillWindowScript: laid · FnFillReadsEachByteOnce: laid.
  DERIVED. THE GIVEN ROWS OF THIS SEAT. 2 by the template 'for every input the law returns true; each argument reads behind the call as it read before'; 0 by the template 'total and deterministic' (their statements: YtpkgpkklgkpbfaaDoorTotals.lean).
  GIVEN WITH THE SEED: the statements are not yours to turn. If you find one false, say at which input.
  Laid BY PROGRAM, IN A SANDBOX (cutbox-rows.mjs): the forced cells as the released guide's own fill.sh prints them over the translation 6f881204e4f2ffd5… (all of the seat's roots in one cut). By AI agents, Wed Nov 11 2026. No macro, syntax, notation, axiom, sorry.
-/
import Derived.Test.YtpkgpkklgkpbfaaDoorChecked
import GoSem.Claim
import GoSem.ClaimJoined
import GoSem.ClaimMapViews
import Derived.JoinedTies
import Derived.KernelRfl
namespace Go.Proofs.YtpkgpkklgkpbfaaDoor
/- THE CELL 'sum', in the pinned program and in every row, IS THE sha256 OF THE DUMP (.gsa) THAT YtpkgpkklgkpbfaaDoorProg.lean LOADS. Nothing in Lean hashes anything: it is a label: what it is worth is what the hold of that sum in a sandbox is worth. -/
noncomputable def Tryd.pinned : Pinned := { name := "ytpkgpkklgkpbfaadoor", sum := "6f881204e4f2ffd5e67e35ebfc2479426313753082a8b2a8ef26badf4d5cf028", checked := Tryd.checked }
namespace Rows
def none {H : Type} : Left H := { results := [], args := [] }

/- WHAT THE LISTED PACKAGE-LEVEL VARIABLES READ AS WHEN THE CALL BEGINS. Each datum BY PROGRAM (the guide's laid-datum.mjs) off the statement by which the dump's own 'gosem.cut.vars' lays the variable. In a bare row this is a premise. The card (YtpkgpkklgkpbfaaDoorCards.lean) ties it to the program's text. -/
def laid_io_EOF {H : Type} : DataW H := .iface "*errors.errorString" (.ptr (.agg [.lit (.string [69, 79, 70])]))

/-- 'n010_110.FnFillWindowScript': WHATEVER THE INPUT: true; the input reads as it did. -/
def fnFillWindowScriptSpec : ChangeSpec := { name := "fnFillWindowScript", fn := fun _ => fun
  | [d1, d2] => { results := [.lit (.bool true)], args := [d1, d2] }
  | _ => none }
def fnFillWindowScriptRow : OpenClaim := { program := "ytpkgpkklgkpbfaadoor", sum := "6f881204e4f2ffd5e67e35ebfc2479426313753082a8b2a8ef26badf4d5cf028", func := "mvdan.cc/sh/v3/n010_110.FnFillWindowScript", spec := "fnFillWindowScript", unfollowed := true, recurses := true, named := ["io.EOF"], apart := false, laid := [("io.EOF", laid_io_EOF)] }
def FnFillWindowScriptSaid : Prop := fnFillWindowScriptRow.holds Tryd.pinned (OpenSpec.ofChange fnFillWindowScriptSpec)

/-- ITS FALSE NEIGHBOUR: 'it returns false'. Refute it at one input. -/
def fnFillWindowScriptWrong : ChangeSpec := { name := "fnFillWindowScript", fn := fun _ => fun
  | [d1, d2] => { results := [.lit (.bool false)], args := [d1, d2] }
  | _ => none }
def FnFillWindowScriptWrongFalsely : Prop := fnFillWindowScriptRow.holds Tryd.pinned (OpenSpec.ofChange fnFillWindowScriptWrong)

/-- 'n010_110.FnFillReadsEachByteOnce': WHATEVER THE INPUT: true; the input reads as it did. -/
def fnFillReadsEachByteOnceSpec : ChangeSpec := { name := "fnFillReadsEachByteOnce", fn := fun _ => fun
  | [d] => { results := [.lit (.bool true)], args := [d] }
  | _ => none }
def fnFillReadsEachByteOnceRow : OpenClaim := { program := "ytpkgpkklgkpbfaadoor", sum := "6f881204e4f2ffd5e67e35ebfc2479426313753082a8b2a8ef26badf4d5cf028", func := "mvdan.cc/sh/v3/n010_110.FnFillReadsEachByteOnce", spec := "fnFillReadsEachByteOnce", unfollowed := true, recurses := true, named := ["io.EOF"], apart := false, laid := [("io.EOF", laid_io_EOF)] }
def FnFillReadsEachByteOnceSaid : Prop := fnFillReadsEachByteOnceRow.holds Tryd.pinned (OpenSpec.ofChange fnFillReadsEachByteOnceSpec)

/-- ITS FALSE NEIGHBOUR: 'it returns false'. Refute it at one input. -/
def fnFillReadsEachByteOnceWrong : ChangeSpec := { name := "fnFillReadsEachByteOnce", fn := fun _ => fun
  | [d] => { results := [.lit (.bool false)], args := [d] }
  | _ => none }
def FnFillReadsEachByteOnceWrongFalsely : Prop := fnFillReadsEachByteOnceRow.holds Tryd.pinned (OpenSpec.ofChange fnFillReadsEachByteOnceWrong)

/- THE SECOND FORM. 'bulk': how many values and letters a reading holds, each counted each time it is reached (what is shared counts as often as it is met; a slice's spare places count too). A statement '..UptoSaid' is the law's where the arguments, and the package variables that the reading takes, are together of bulk at most 1048576: NARROWER than '..Said'. Prove '..Said' where nothing that the law and all that it calls make is longer than what came in: it says more and counts as full. Else prove '..UptoSaid'. A law counts once. -/
mutual
def uptoBulk {H : Type} : DataW H → Nat
  | .lit (.string bytes) => bytes.length + 1
  | .lit _ => 1
  | .nil => 1
  | .ptr d => uptoBulk d + 1
  | .slice elems spare => uptoBulkAll elems + uptoBulkAll spare + 1
  | .agg parts => uptoBulkAll parts + 1
  | .iface _ d => uptoBulk d + 1
  | .map entries => uptoBulkEntries entries + 1
  | .held _ => 1
def uptoBulkAll {H : Type} : List (DataW H) → Nat
  | [] => 0
  | d :: r => uptoBulk d + uptoBulkAll r
def uptoBulkEntries {H : Type} : List (Lit × DataW H) → Nat
  | [] => 0
  | x :: r => uptoBulkEntry x + uptoBulkEntries r
def uptoBulkEntry {H : Type} : Lit × DataW H → Nat
  | (.string bytes, d) => bytes.length + uptoBulk d + 1
  | (_, d) => uptoBulk d + 1
 end
def uptoSmall : (H : Type) → List (DataW H) → Bool := fun _ ds => decide (uptoBulkAll ds ≤ 1048576)
def OpenSpec.upto (s : _root_.Go.ChangeSpec) : _root_.Go.OpenSpec := { _root_.Go.OpenSpec.ofChange s with cond := some uptoSmall }

/-- 'n010_110.FnFillWindowScript', WHERE WHAT IT READS IS OF BULK AT MOST 1048576: true; the input reads as it did. -/
def fnFillWindowScriptUptoRow : OpenClaim := { program := "ytpkgpkklgkpbfaadoor", sum := "6f881204e4f2ffd5e67e35ebfc2479426313753082a8b2a8ef26badf4d5cf028", func := "mvdan.cc/sh/v3/n010_110.FnFillWindowScript", spec := "fnFillWindowScript", unfollowed := true, recurses := true, named := ["io.EOF"], apart := false, laid := [("io.EOF", laid_io_EOF)], narrowed := true }
def FnFillWindowScriptUptoSaid : Prop := fnFillWindowScriptUptoRow.holds Tryd.pinned (OpenSpec.upto fnFillWindowScriptSpec)

/-- 'n010_110.FnFillReadsEachByteOnce', WHERE WHAT IT READS IS OF BULK AT MOST 1048576: true; the input reads as it did. -/
def fnFillReadsEachByteOnceUptoRow : OpenClaim := { program := "ytpkgpkklgkpbfaadoor", sum := "6f881204e4f2ffd5e67e35ebfc2479426313753082a8b2a8ef26badf4d5cf028", func := "mvdan.cc/sh/v3/n010_110.FnFillReadsEachByteOnce", spec := "fnFillReadsEachByteOnce", unfollowed := true, recurses := true, named := ["io.EOF"], apart := false, laid := [("io.EOF", laid_io_EOF)], narrowed := true }
def FnFillReadsEachByteOnceUptoSaid : Prop := fnFillReadsEachByteOnceUptoRow.holds Tryd.pinned (OpenSpec.upto fnFillReadsEachByteOnceSpec)

end Rows
end Go.Proofs.YtpkgpkklgkpbfaaDoor
