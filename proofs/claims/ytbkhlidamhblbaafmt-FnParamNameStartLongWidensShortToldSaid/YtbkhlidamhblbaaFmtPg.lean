/-
  n010_56: FnParamNameStartLongWidensShort: every input.
-/
import Derived.Test.YtbkhlidamhblbaaFmtPf
namespace Go.Proofs.YtbkhlidamhblbaaFmt
open Go.RowKit

set_option maxRecDepth 100000 in
theorem long_skip (w : World) (x y : UInt8) (s : ByteArray) (hs : s.size ≤ 9223372036854775807) (h : 65536 < s.size ∨ plainB x.toNat = false ∨ plainB y.toNat = false ∨ plainS s.data.toList = false) :
    Calls Tryf.prog 3 #[.int .u8 x.toNat, .int .u8 y.toNat, .string s] w fun e w' => e = .returned (.bool true) ∧ w = w' := by
  obtain ⟨b1, hb1⟩ : ∃ b, decide (s.size ≤ 1048576) = b := ⟨_, rfl⟩
  have HB := Lib.hid (zb_long x.toNat y.toNat s b1 hb1 hs)
  cases b1 with
  | false =>
    have h1 : ¬ s.size ≤ 1048576 := of_decide_eq_false hb1
    clear hb1 h
    go_enter Tryf.func3, Tryf.ntmps3
    go_wp2_with (first | (go_at_call 4; refine (HB.out _).mono ?_; rintro e w' ⟨rfl, rfl⟩))
    go_ret
    exact ⟨rfl, rfl⟩
  | true =>
    have h1 : s.size ≤ 1048576 := of_decide_eq_true hb1
    clear hb1
    by_cases h2 : s.size ≤ 65536
    case neg =>
      have h3 : 65536 < s.size := by omega
      clear h
      go_enter Tryf.func3, Tryf.ntmps3
      go_wp2_with (first | (go_at_call 4; refine (HB.out _).mono ?_; rintro e w' ⟨rfl, rfl⟩))
      go_ret
      exact ⟨rfl, rfl⟩
    obtain ⟨bx, hbx⟩ : ∃ b, plainB x.toNat = b := ⟨_, rfl⟩
    obtain ⟨bY, hby⟩ : ∃ b, plainB y.toNat = b := ⟨_, rfl⟩
    obtain ⟨bs, hbs⟩ : ∃ b, plainS s.data.toList = b := ⟨_, rfl⟩
    have HX := Lib.hid (zplain x.toNat); have HY := Lib.hid (zplain y.toNat); have HS := Lib.hid (fun w => zplainstr s w (by omega))
    rw [hbx] at HX h; rw [hby] at HY h; rw [hbs] at HS h
    have h' : bx = false ∨ bY = false ∨ bs = false := by rcases h with h | h; (omega); exact h
    clear h hbx hby hbs
    cases bx <;> cases bY <;> cases bs <;> first | (simp at h'; done) | (
      clear h'
      go_enter Tryf.func3, Tryf.ntmps3
      go_wp2_with (first | (go_at_call 4; refine (HB.out _).mono ?_; rintro e w' ⟨rfl, rfl⟩) | (go_at_call_of 5 (Value.int .u8 x.toNat); refine (HX.out _).mono ?_; rintro e w' ⟨rfl, rfl⟩) | (go_at_call_of 5 (Value.int .u8 y.toNat); refine (HY.out _).mono ?_; rintro e w' ⟨rfl, rfl⟩) | (go_at_call 6; refine (HS.out _).mono ?_; rintro e w' ⟨rfl, rfl⟩))
      go_ret
      exact ⟨rfl, rfl⟩)
end Go.Proofs.YtbkhlidamhblbaaFmt
