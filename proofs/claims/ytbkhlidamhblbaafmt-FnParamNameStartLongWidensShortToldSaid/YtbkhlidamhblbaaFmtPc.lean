/-
  n010_56: may a parameter's name begin with this rune.
-/
import Derived.Test.YtbkhlidamhblbaaFmtPb
namespace Go.Proofs.YtbkhlidamhblbaaFmt
open Go.RowKit

def posP (r : Int) : Bool := decide (48 ≤ r ∧ r ≤ 57)
def sglP (r : Int) : Bool := decide (r = 64 ∨ r = 42 ∨ r = 35 ∨ r = 36 ∨ r = 63 ∨ r = 33 ∨ r = 45) || posP r
def letP (r : Int) : Bool := decide ((97 ≤ r ∧ r ≤ 122) ∨ (65 ≤ r ∧ r ≤ 90))
def namP (r : Int) : Bool := (letP r || posP r) || (r == 95)
def staP (r : Int) : Bool := sglP r || namP r
set_option maxRecDepth 100000 in
theorem pos_any (r : Int) (w : World) : Calls Tryf.prog 34 #[.int .u8 r] w fun e w' => e = .returned (.bool (posP r)) ∧ w = w' := by
  obtain ⟨b, hb⟩ : ∃ b, b = posP r := ⟨_, rfl⟩
  rw [← hb]
  have HB := Lib.hid hb
  clear hb
  go_enter Tryf.func34, Tryf.ntmps34
  go_wp2_with fail
  all_goals (
    go_ret
    refine ⟨?_, rfl⟩
    rw [HB.out]
    simp at *
    simp [posP]
    omega)
set_option maxRecDepth 100000 in
theorem let_any (r : Int) (w : World) : Calls Tryf.prog 35 #[.int .u8 r] w fun e w' => e = .returned (.bool (letP r)) ∧ w = w' := by
  obtain ⟨b, hb⟩ : ∃ b, b = letP r := ⟨_, rfl⟩
  rw [← hb]
  have HB := Lib.hid hb
  clear hb
  go_enter Tryf.func35, Tryf.ntmps35
  go_wp2_with fail
  all_goals (
    go_ret
    refine ⟨?_, rfl⟩
    rw [HB.out]
    simp at *
    simp [letP]
    first | omega | (rw [Bool.eq_iff_iff]; simp; omega))
set_option maxRecDepth 100000 in
theorem dig_any (r : Int) (w : World) : Calls Tryf.prog 36 #[.int .u8 r] w fun e w' => e = .returned (.bool (posP r)) ∧ w = w' := by
  obtain ⟨b, hb⟩ : ∃ b, b = posP r := ⟨_, rfl⟩
  rw [← hb]
  have HB := Lib.hid hb
  clear hb
  go_enter Tryf.func36, Tryf.ntmps36
  go_wp2_with fail
  all_goals (
    go_ret
    refine ⟨?_, rfl⟩
    rw [HB.out]
    simp at *
    simp [posP]
    omega)
set_option maxRecDepth 100000 in
theorem sgl_any (r : Int) (w : World) : Calls Tryf.prog 28 #[.int .u8 r] w fun e w' => e = .returned (.bool (sglP r)) ∧ w = w' := by
  obtain ⟨b, hb⟩ : ∃ b, b = sglP r := ⟨_, rfl⟩
  rw [← hb]
  have HB := Lib.hid hb
  clear hb
  go_enter Tryf.func28, Tryf.ntmps28
  go_wp2_with (first | (go_at_call 34; refine (pos_any r _).mono ?_; rintro e w' ⟨rfl, rfl⟩; dsimp only))
  all_goals (
    go_ret
    refine ⟨?_, rfl⟩
    rw [HB.out]
    unfold sglP
    simp at *
    simp [*])
set_option maxRecDepth 100000 in
theorem nam_any (r : Int) (w : World) : Calls Tryf.prog 29 #[.int .u8 r] w fun e w' => e = .returned (.bool (namP r)) ∧ w = w' := by
  obtain ⟨b, hb⟩ : ∃ b, b = namP r := ⟨_, rfl⟩
  rw [← hb]
  have HB := Lib.hid hb
  clear hb
  go_enter Tryf.func29, Tryf.ntmps29
  go_wp2_with (first | (go_at_call 35; refine (let_any r _).mono ?_; rintro e w' ⟨rfl, rfl⟩; dsimp only) | (go_at_call 36; refine (dig_any r _).mono ?_; rintro e w' ⟨rfl, rfl⟩; dsimp only))
  all_goals (
    go_ret
    refine ⟨?_, rfl⟩
    rw [HB.out]
    unfold namP
    simp at *
    simp [*])
set_option maxRecDepth 100000 in
theorem sta_any (r : Int) (w : World) : Calls Tryf.prog 17 #[.int .u8 r] w fun e w' => e = .returned (.bool (staP r)) ∧ w = w' := by
  obtain ⟨b, hb⟩ : ∃ b, b = staP r := ⟨_, rfl⟩
  rw [← hb]
  have HB := Lib.hid hb
  clear hb
  go_enter Tryf.func17, Tryf.ntmps17
  go_wp2_with (first | (go_at_call 28; refine (sgl_any r _).mono ?_; rintro e w' ⟨rfl, rfl⟩; dsimp only) | (go_at_call 29; refine (nam_any r _).mono ?_; rintro e w' ⟨rfl, rfl⟩; dsimp only))
  all_goals (
    go_ret
    refine ⟨?_, rfl⟩
    rw [HB.out]
    unfold staP
    simp at *
    simp [*])
end Go.Proofs.YtbkhlidamhblbaaFmt
