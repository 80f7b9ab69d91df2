/-
  n010_113: FnColWriteMatchesClosedForm, walked.
-/
import Derived.Test.YtmoglhggnodkoaaDoorColt
import Derived.Deep.RegionHeld3
namespace Go.Proofs.YtmoglhggnodkoaaDoor
open Go.RowKit

set_option maxRecDepth 100000 in
theorem yes_FnColWriteMatchesClosedForm (w : World) (col : Int) (ls : Bool) (Ab : Option Addr) (nb cb : Nat) (h : nb ≤ 1048576) :
    Calls Tryd.prog 16 #[.int .i64 col, .bool ls, .slice Ab nb cb] w fun e w' => e = .returned (.bool true) ∧ w = w' := by
  go_enter Tryd.func16, Tryd.ntmps16
  go_wp2
  go_ret
  exact ⟨rfl, rfl⟩
set_option maxRecDepth 100000 in
theorem no_FnColWriteMatchesClosedForm (w : World) (col : Int) (ls : Bool) (Ab : Option Addr) (nb cb : Nat) (h : 1048576 < nb) (hm0 : nb ≤ 9223372036854775807) :
    Calls Tryd.prog 16 #[.int .i64 col, .bool ls, .slice Ab nb cb] w fun e w' => e = .returned (.bool false) ∧ w = w' := by
  go_enter Tryd.func16, Tryd.ntmps16
  go_wp2
  all_goals (
    go_ret
    exact ⟨rfl, rfl⟩)
set_option maxRecDepth 100000 in
set_option maxHeartbeats 1600000 in
theorem skip_FnColWriteMatchesClosedForm (w : World) (col : Int) (ls : Bool) (Ab : Option Addr) (nb cb : Nat) (h : ¬ (nb ≤ 1048576 ∧ 0 ≤ col ∧ col ≤ 1073741824)) (hm0 : nb ≤ 9223372036854775807) :
    Calls Tryd.prog 4 #[.int .i64 col, .bool ls, .slice Ab nb cb] w fun e w' => e = .returned (.bool true) ∧ w = w' := by
  by_cases h3 : nb ≤ 1048576
  · have h4 : col < 0 ∨ 1073741824 < col := by omega
    clear h
    rcases h4 with h4 | h4
    all_goals (
      go_enter Tryd.func4, Tryd.ntmps4
      go_wp2_with (go_at_call 16; refine (yes_FnColWriteMatchesClosedForm _ _ _ _ _ _ h3).mono ?_; rintro e w' ⟨rfl, rfl⟩)
      all_goals (
        go_ret
        exact ⟨rfl, rfl⟩))
  · clear h
    go_enter Tryd.func4, Tryd.ntmps4
    go_wp2_with (go_at_call 16; refine (no_FnColWriteMatchesClosedForm _ _ _ _ _ _ (by omega) hm0).mono ?_; rintro e w' ⟨rfl, rfl⟩)
    go_ret
    exact ⟨rfl, rfl⟩

set_option maxRecDepth 100000 in
set_option maxHeartbeats 1600000 in
theorem ok_FnColWriteMatchesClosedForm (w : World) (col : Int) (ls : Bool) (Ab : Option Addr) (nb cb : Nat) (l : List UInt8) (hs : SrcB w Ab nb l) (hA : Ab = none → nb = 0 ∧ cb = 0) (hn : nb ≤ 1048576) (hc1 : 0 ≤ col) (hc2 : col ≤ 1073741824) :
    Calls Tryd.prog 4 #[.int .i64 col, .bool ls, .slice Ab nb cb] w fun e w' => e = .returned (.bool true) ∧ Kept [] w w' := by
  have HS := Lib.hid hs; have HA := Lib.hid hA; clear hs hA
  go_enter Tryd.func4, Tryd.ntmps4
  go_wp2_with (go_at_call 16; refine (yes_FnColWriteMatchesClosedForm _ _ _ _ _ _ hn).mono ?_; rintro e w' ⟨rfl, rfl⟩)
  refine (clone_low w Ab nb cb l (by omega) HA.out HS.out).mono ?_
  rintro e w1 ⟨A1, rfl, hs1, hk1⟩
  have HS1 := Lib.hid hs1; have HK1 := Lib.hid hk1
  clear hs1 hk1
  go_wp2_with fail
  refine (sn_new w1 col ls).mono ?_
  rintro e w2 ⟨rfl, h2⟩
  have hcon := one_write ⟨_, h2⟩ A1 nb nb l HS1.out (by simp; omega) hc1 (show col ≤ _ by omega)
  have HC := Lib.hid hcon; clear hcon h2
  go_wp2_with fail
  refine HC.out.mono ?_
  rintro e w3 ⟨rfl, h3⟩
  have hcon := modelcols w3 A1 nb nb l (HS1.out.1.kept h3.kept (by simp)) (by omega) col ls hc1 (by omega)
  have HC2 := Lib.hid hcon; clear hcon HC
  generalize hs : Snk.put _ l = s at h3
  have hb : w1.heap.size = s.b := by rw [← hs]; rfl
  have hcl : (foldC col ls l).1 = s.col := by rw [← hs]; rfl
  have hls : (foldC col ls l).2 = s.ls := by rw [← hs]; rfl
  have ho : s.out = l := by rw [← hs]; rfl
  rw [hb]
  rw [hcl, hls] at HC2
  have HO := Lib.hid ho
  clear hs hb hcl hls ho
  have H3 := Lib.hid h3; clear h3
  go_wp2_with fail
  refine HC2.out.mono ?_
  rintro e w' ⟨rfl, rfl⟩
  have hq0 := H3.out.drew
  have hconv : ∀ W, One w1 s W → (convert 28 9 (.slice A1 nb nb)).run Tryd.prog W = .ok (.string ⟨s.out.toArray⟩) W := fun W hW => by rw [HO.out]; exact low_conv HS1.out hW.kept
  have hlen : s.out.length ≤ 100000000000 := by rw [HO.out]; have := HS1.out.1.1; omega
  go_wp2_with fail
  go_region_held3 (One w1 s) (assumption) (first | (go_at_call 13; refine (one_col (by assumption)).mono ?_; rintro e w' ⟨rfl, rfl⟩) | (go_at_call 14; refine (one_ls (by assumption)).mono ?_; rintro e w' ⟨rfl, rfl⟩) | (go_at_call 15; refine (one_out (by assumption) hlen).mono ?_; rintro e w' ⟨rfl, hq1⟩))
  go_wp2_with fail
  go_ret
  exact ⟨rfl, HK1.out.trans hq1.kept⟩
end Go.Proofs.YtmoglhggnodkoaaDoor
