/-
  n010_42: the thin exports, and the law's tables of states and languages.
-/
import Derived.Test.YtaaobebpjblbdaaFmtNl
import Derived.Test.YtaaobebpjblbdaaFmtNo
namespace Go.Proofs.YtaaobebpjblbdaaFmt
open Go.RowKit

theorem zrune {w : World} {p : Addr} {R : Ending → World → Prop} {v : Int} {S : World → Prop} (h : Calls Tryf.prog 23 #[.pointer (some p)] w fun e w' => e = .returned (.int .i32 v) ∧ S w') (hR : ∀ w', S w' → R (.returned (.int .i32 v)) w') : Calls Tryf.prog 14 #[.pointer (some p)] w R := by
  have H := Lib.hid h; have HR := Lib.hid hR
  clear h hR
  go_enter Tryf.func14, Tryf.ntmps14
  go_wp2_with (go_at_call 23; refine H.out.mono ?_; rintro e w1 ⟨rfl, hs⟩; dsimp only; have HS := Lib.hid hs; clear hs)
  exact HR.out _ HS.out

theorem litQuote_any (st : Int) (h1 : 0 ≤ st) (h2 : st ≤ 3) (w : World) : Calls Tryf.prog 12 #[.int .i64 st] w fun e w' => e = .returned (.int .u32 (qvOf st.toNat)) ∧ w = w' := by
  have hs : st = 0 ∨ st = 1 ∨ st = 2 ∨ st = 3 := by omega
  clear h1 h2
  rcases hs with rfl | rfl | rfl | rfl
  all_goals (
    go_enter Tryf.func12, Tryf.ntmps12
    go_wp2
    go_ret
    exact ⟨rfl, rfl⟩)
theorem litLang_any (z : Bool) (w : World) : Calls Tryf.prog 13 #[.bool z] w fun e w' => e = .returned (.int .i64 (lvOf z)) ∧ w = w' := by
  cases z
  all_goals (
    go_enter Tryf.func13, Tryf.ntmps13
    go_wp2
    go_ret
    exact ⟨rfl, rfl⟩)
end Go.Proofs.YtaaobebpjblbdaaFmt
