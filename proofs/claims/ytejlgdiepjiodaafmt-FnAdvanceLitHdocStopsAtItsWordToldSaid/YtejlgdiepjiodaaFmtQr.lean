/-
  n010_145: FnAdvanceLitHdocStopsAtItsWord: the texts that it passes over.
-/
import Derived.Test.YtejlgdiepjiodaaFmtQq
namespace Go.Proofs.YtejlgdiepjiodaaFmt
open Go.RowKit

set_option maxRecDepth 100000 in
set_option maxHeartbeats 8000000 in
theorem skip3_hs (w : World) (b st x y : ByteArray) (h : (acc 0 [b.size, st.size, x.size, y.size]).isSome = true) (g0 : allZ b = true) (g1 : allZ st = false) : Calls Tryf.prog 8 #[.string b, .string st, .string x, .string y] w fun e w' => e = .returned (.bool true) ∧ Kept [] w w' := by
  obtain ⟨h1, h2, h3, h4, h5⟩ := acc_four h
  have HB := Lib.hid (fun w => zb_FnAdvanceLitHdocStopsAtItsWord (w := w) b st x y (by omega) (by omega) (by omega) (by omega))
  rw [h] at HB
  clear h
  go_enter Tryf.func8, Tryf.ntmps8
  go_wp2_with (first | (go_at_call 23; refine (HB.out _).mono ?_; rintro e w' ⟨rfl, rfl⟩) | (go_at_call 20; refine (alz _ (by omega) _).mono ?_; rintro e w' ⟨rfl, rfl⟩))
  go_ret
  exact ⟨rfl, Kept.refl _ _⟩
set_option maxRecDepth 100000 in
set_option maxHeartbeats 8000000 in
theorem skip4_hs (w : World) (b st x y : ByteArray) (h : (acc 0 [b.size, st.size, x.size, y.size]).isSome = true) (g0 : allZ b = true) (g1 : allZ st = true) (g2 : hbz b 36 = true) : Calls Tryf.prog 8 #[.string b, .string st, .string x, .string y] w fun e w' => e = .returned (.bool true) ∧ Kept [] w w' := by
  obtain ⟨h1, h2, h3, h4, h5⟩ := acc_four h
  have HB := Lib.hid (fun w => zb_FnAdvanceLitHdocStopsAtItsWord (w := w) b st x y (by omega) (by omega) (by omega) (by omega))
  rw [h] at HB
  clear h
  go_enter Tryf.func8, Tryf.ntmps8
  go_wp2_with (first | (go_at_call 23; refine (HB.out _).mono ?_; rintro e w' ⟨rfl, rfl⟩) | (go_at_call 20; refine (alz _ (by omega) _).mono ?_; rintro e w' ⟨rfl, rfl⟩) | (go_at_call 24; refine (hbz_run _ (by omega) _ (by decide) (by decide) _).mono ?_; rintro e w' ⟨rfl, rfl⟩))
  go_ret
  exact ⟨rfl, Kept.refl _ _⟩
set_option maxRecDepth 100000 in
set_option maxHeartbeats 8000000 in
theorem skip5_hs (w : World) (b st x y : ByteArray) (h : (acc 0 [b.size, st.size, x.size, y.size]).isSome = true) (g0 : allZ b = true) (g1 : allZ st = true) (g2 : hbz b 36 = false) (g3 : hbz b 96 = true) : Calls Tryf.prog 8 #[.string b, .string st, .string x, .string y] w fun e w' => e = .returned (.bool true) ∧ Kept [] w w' := by
  obtain ⟨h1, h2, h3, h4, h5⟩ := acc_four h
  have HB := Lib.hid (fun w => zb_FnAdvanceLitHdocStopsAtItsWord (w := w) b st x y (by omega) (by omega) (by omega) (by omega))
  rw [h] at HB
  clear h
  go_enter Tryf.func8, Tryf.ntmps8
  go_wp2_with (first | (go_at_call 23; refine (HB.out _).mono ?_; rintro e w' ⟨rfl, rfl⟩) | (go_at_call 20; refine (alz _ (by omega) _).mono ?_; rintro e w' ⟨rfl, rfl⟩) | (go_at_call 24; refine (hbz_run _ (by omega) _ (by decide) (by decide) _).mono ?_; rintro e w' ⟨rfl, rfl⟩))
  go_ret
  exact ⟨rfl, Kept.refl _ _⟩
set_option maxRecDepth 100000 in
set_option maxHeartbeats 8000000 in
theorem skip6_hs (w : World) (b st x y : ByteArray) (h : (acc 0 [b.size, st.size, x.size, y.size]).isSome = true) (g0 : allZ b = true) (g1 : allZ st = true) (g2 : hbz b 36 = false) (g3 : hbz b 96 = false) (g4 : hbz st 36 = true) : Calls Tryf.prog 8 #[.string b, .string st, .string x, .string y] w fun e w' => e = .returned (.bool true) ∧ Kept [] w w' := by
  obtain ⟨h1, h2, h3, h4, h5⟩ := acc_four h
  have HB := Lib.hid (fun w => zb_FnAdvanceLitHdocStopsAtItsWord (w := w) b st x y (by omega) (by omega) (by omega) (by omega))
  rw [h] at HB
  clear h
  go_enter Tryf.func8, Tryf.ntmps8
  go_wp2_with (first | (go_at_call 23; refine (HB.out _).mono ?_; rintro e w' ⟨rfl, rfl⟩) | (go_at_call 20; refine (alz _ (by omega) _).mono ?_; rintro e w' ⟨rfl, rfl⟩) | (go_at_call 24; refine (hbz_run _ (by omega) _ (by decide) (by decide) _).mono ?_; rintro e w' ⟨rfl, rfl⟩))
  go_ret
  exact ⟨rfl, Kept.refl _ _⟩
set_option maxRecDepth 100000 in
set_option maxHeartbeats 8000000 in
theorem skip7_hs (w : World) (b st x y : ByteArray) (h : (acc 0 [b.size, st.size, x.size, y.size]).isSome = true) (g0 : allZ b = true) (g1 : allZ st = true) (g2 : hbz b 36 = false) (g3 : hbz b 96 = false) (g4 : hbz st 36 = false) (g5 : hbz st 96 = true) : Calls Tryf.prog 8 #[.string b, .string st, .string x, .string y] w fun e w' => e = .returned (.bool true) ∧ Kept [] w w' := by
  obtain ⟨h1, h2, h3, h4, h5⟩ := acc_four h
  have HB := Lib.hid (fun w => zb_FnAdvanceLitHdocStopsAtItsWord (w := w) b st x y (by omega) (by omega) (by omega) (by omega))
  rw [h] at HB
  clear h
  go_enter Tryf.func8, Tryf.ntmps8
  go_wp2_with (first | (go_at_call 23; refine (HB.out _).mono ?_; rintro e w' ⟨rfl, rfl⟩) | (go_at_call 20; refine (alz _ (by omega) _).mono ?_; rintro e w' ⟨rfl, rfl⟩) | (go_at_call 24; refine (hbz_run _ (by omega) _ (by decide) (by decide) _).mono ?_; rintro e w' ⟨rfl, rfl⟩))
  go_ret
  exact ⟨rfl, Kept.refl _ _⟩
set_option maxRecDepth 100000 in
set_option maxHeartbeats 8000000 in
theorem skip8_hs (w : World) (b st x y : ByteArray) (h : (acc 0 [b.size, st.size, x.size, y.size]).isSome = true) (g0 : allZ b = true) (g1 : allZ st = true) (g2 : hbz b 36 = false) (g3 : hbz b 96 = false) (g4 : hbz st 36 = false) (g5 : hbz st 96 = false) (g6 : hbz st 10 = true) : Calls Tryf.prog 8 #[.string b, .string st, .string x, .string y] w fun e w' => e = .returned (.bool true) ∧ Kept [] w w' := by
  obtain ⟨h1, h2, h3, h4, h5⟩ := acc_four h
  have HB := Lib.hid (fun w => zb_FnAdvanceLitHdocStopsAtItsWord (w := w) b st x y (by omega) (by omega) (by omega) (by omega))
  rw [h] at HB
  clear h
  go_enter Tryf.func8, Tryf.ntmps8
  go_wp2_with (first | (go_at_call 23; refine (HB.out _).mono ?_; rintro e w' ⟨rfl, rfl⟩) | (go_at_call 20; refine (alz _ (by omega) _).mono ?_; rintro e w' ⟨rfl, rfl⟩) | (go_at_call 24; refine (hbz_run _ (by omega) _ (by decide) (by decide) _).mono ?_; rintro e w' ⟨rfl, rfl⟩))
  go_ret
  exact ⟨rfl, Kept.refl _ _⟩
end Go.Proofs.YtejlgdiepjiodaaFmt
