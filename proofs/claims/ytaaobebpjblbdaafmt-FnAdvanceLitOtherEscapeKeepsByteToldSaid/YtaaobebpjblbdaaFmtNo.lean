/-
  n010_42: what advanceLitOther's switch asks of each of the four states and two languages.
-/
import Derived.Test.YtaaobebpjblbdaaFmtAdf
namespace Go.Proofs.YtaaobebpjblbdaaFmt
open Go.RowKit

theorem in_run (a b : Int) (r : Bool) (hr : (bits BinOp.and IntKind.i64 a b == a) = r) (w : World) : Calls Tryf.prog 34 #[.int .i64 a, .int .i64 b] w fun e w' => e = .returned (.bool r) ∧ w = w' := by
  have HR := Lib.hid hr
  clear hr
  go_enter Tryf.func34, Tryf.ntmps34
  go_wp2
  go_ret
  exact ⟨by rw [HR.out]; rfl, rfl⟩

/-- The states: 0 paramExpExp, 1 paramExpRepl, 2 arithmExpr, 3 paramExpSlice. -/
def qvOf (st : Nat) : Int := if st = 0 then 524288 else if st = 1 then 262144 else if st = 2 then 1024 else 131072
def lvOf (zsh : Bool) : Int := if zsh then 16 else 1
theorem asks_ok (st : Nat) (zsh : Bool) : Asks (qvOf st) (lvOf zsh) (bits BinOp.and IntKind.u32 (qvOf st) 983040 != 0) (qvOf st != 524288) (bits BinOp.and IntKind.u32 (qvOf st) 203776 != 0) (bits BinOp.and IntKind.u32 (qvOf st) 787266 == 0) (!zsh) true where
  a1 := rfl
  a2 := rfl
  a3 := rfl
  a4 := rfl
  z := fun w => in_run _ _ _ (by cases zsh <;> decide) w
  k := fun w => in_run _ _ _ (by cases zsh <;> decide) w
end Go.Proofs.YtaaobebpjblbdaaFmt
