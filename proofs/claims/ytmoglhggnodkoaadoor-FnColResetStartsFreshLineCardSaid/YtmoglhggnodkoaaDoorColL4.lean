/-
  n010_113: FnColResetStartsFreshLine, walked.
-/
import Derived.Test.YtmoglhggnodkoaaDoorColt
import Derived.Deep.RegionHeld3
namespace Go.Proofs.YtmoglhggnodkoaaDoor
open Go.RowKit

set_option maxRecDepth 100000 in
theorem yes_FnColResetStartsFreshLine (w : World) (col : Int) (ls : Bool) (Ap : Option Addr) (np cp : Nat) (Ab : Option Addr) (nb cb : Nat) (h : np + nb ≤ 1048576) :
    Calls Tryd.prog 20 #[.int .i64 col, .bool ls, .slice Ap np cp, .slice Ab nb cb] w fun e w' => e = .returned (.bool true) ∧ w = w' := by
  go_enter Tryd.func20, Tryd.ntmps20
  go_wp2
  go_ret
  exact ⟨rfl, rfl⟩
set_option maxRecDepth 100000 in
theorem no_FnColResetStartsFreshLine (w : World) (col : Int) (ls : Bool) (Ap : Option Addr) (np cp : Nat) (Ab : Option Addr) (nb cb : Nat) (h : 1048576 < np + nb) (hm0 : np ≤ 9223372036854775807) (hm1 : nb ≤ 9223372036854775807) :
    Calls Tryd.prog 20 #[.int .i64 col, .bool ls, .slice Ap np cp, .slice Ab nb cb] w fun e w' => e = .returned (.bool false) ∧ w = w' := by
  go_enter Tryd.func20, Tryd.ntmps20
  go_wp2
  all_goals (
    go_ret
    exact ⟨rfl, rfl⟩)
set_option maxRecDepth 100000 in
set_option maxHeartbeats 1600000 in
theorem skip_FnColResetStartsFreshLine (w : World) (col : Int) (ls : Bool) (Ap : Option Addr) (np cp : Nat) (Ab : Option Addr) (nb cb : Nat) (h : ¬ (np + nb ≤ 1048576 ∧ np ≤ 4096 ∧ 0 ≤ col ∧ col ≤ 1073741824)) (hm0 : np ≤ 9223372036854775807) (hm1 : nb ≤ 9223372036854775807) :
    Calls Tryd.prog 6 #[.int .i64 col, .bool ls, .slice Ap np cp, .slice Ab nb cb] w fun e w' => e = .returned (.bool true) ∧ w = w' := by
  by_cases h3 : np + nb ≤ 1048576
  · have h4 : 4096 < np ∨ col < 0 ∨ 1073741824 < col := by omega
    clear h
    rcases h4 with h4 | h4 | h4
    all_goals (
      go_enter Tryd.func6, Tryd.ntmps6
      go_wp2_with (go_at_call 20; refine (yes_FnColResetStartsFreshLine _ _ _ _ _ _ _ _ _ h3).mono ?_; rintro e w' ⟨rfl, rfl⟩)
      all_goals (
        go_ret
        exact ⟨rfl, rfl⟩))
  · clear h
    go_enter Tryd.func6, Tryd.ntmps6
    go_wp2_with (go_at_call 20; refine (no_FnColResetStartsFreshLine _ _ _ _ _ _ _ _ _ (by omega) hm0 hm1).mono ?_; rintro e w' ⟨rfl, rfl⟩)
    go_ret
    exact ⟨rfl, rfl⟩

set_option maxRecDepth 100000 in
set_option maxHeartbeats 1600000 in
theorem ok_FnColResetStartsFreshLine (w : World) (col : Int) (ls : Bool) (Ap : Option Addr) (np cp : Nat) (Ab : Option Addr) (nb cb : Nat) (lp lb : List UInt8) (hs : SrcB w Ap np lp) (hA : Ap = none → np = 0 ∧ cp = 0) (hsb : SrcB w Ab nb lb) (hAb : Ab = none → nb = 0 ∧ cb = 0) (hn : np + nb ≤ 1048576) (hp : np ≤ 4096) (hc1 : 0 ≤ col) (hc2 : col ≤ 1073741824) :
    Calls Tryd.prog 6 #[.int .i64 col, .bool ls, .slice Ap np cp, .slice Ab nb cb] w fun e w' => e = .returned (.bool true) ∧ Kept [] w w' := by
  have HS := Lib.hid hs; have HA := Lib.hid hA; have HSb := Lib.hid hsb; have HAb := Lib.hid hAb; clear hs hA hsb hAb
  go_enter Tryd.func6, Tryd.ntmps6
  go_wp2_with (go_at_call 20; refine (yes_FnColResetStartsFreshLine _ _ _ _ _ _ _ _ _ hn).mono ?_; rintro e w' ⟨rfl, rfl⟩)
  refine (clone_low w Ap np cp lp (by omega) HA.out HS.out).mono ?_
  rintro e w1 ⟨A1, rfl, hs1, hk1⟩
  have hsb1 := HSb.out.kept hk1 (by simp)
  have HS1 := Lib.hid hs1; have HK1 := Lib.hid hk1; have HSB := Lib.hid hsb1
  clear hs1 hk1 hsb1
  go_wp2_with fail
  refine (clone_low w1 Ab nb cb lb (by omega) HAb.out HSB.out).mono ?_
  rintro e w2 ⟨A2, rfl, hs2, hk2⟩
  have hs1 := HS1.out.kept hk2
  have HS1 := Lib.hid hs1; have HS2 := Lib.hid hs2; have HK2 := Lib.hid (HK1.out.trans hk2)
  clear hs2 hk2 hs1
  go_wp2_with fail
  refine (fr_new w2 col ls).mono ?_
  rintro e w3 ⟨rfl, h3⟩
  have hcon := fr_write h3 A1 np np lp HS1.out (by simp; omega) hc1 (show col ≤ _ by omega)
  have HC := Lib.hid hcon; clear hcon h3
  go_wp2_with fail
  refine HC.out.mono ?_
  rintro e w4 ⟨rfl, h4⟩
  have hcon := fr_reset h4
  have HC := Lib.hid hcon; clear hcon h4
  go_wp2_with fail
  refine HC.out.mono ?_
  rintro e w5 ⟨rfl, h5⟩
  have h6 := h5.one
  generalize hs : Snk.fresh _ = s at h6
  have hb : w2.heap.size = s.b := by rw [← hs]; rfl
  have hcl : s.col = 1 := by rw [← hs]; rfl
  have hls : s.ls = true := by rw [← hs]; rfl
  have ho : s.out = [] := by rw [← hs]; rfl
  rw [hb]
  have H6 := Lib.hid h6; have HCL := Lib.hid hcl; have HLS := Lib.hid hls; have HO := Lib.hid ho
  clear hs hb hcl hls ho h5 h6 HC
  have hcon := one_write H6.out A2 nb nb lb HS2.out (by rw [HO.out]; simp; omega) (by rw [HCL.out]; omega) (by rw [HCL.out]; omega)
  have HC := Lib.hid hcon; clear hcon
  go_wp2_with (first | (go_at_call 13; refine (one_colC H6.out HCL.out).mono ?_; rintro e w' ⟨rfl, rfl⟩) | (go_at_call 14; refine (one_lsC H6.out HLS.out).mono ?_; rintro e w' ⟨rfl, rfl⟩))
  refine HC.out.mono ?_
  rintro e w6 ⟨rfl, h7⟩
  have hcon := modelcols w6 A2 nb nb lb (HS2.out.1.kept h7.kept (by simp)) (by omega) 1 true (by omega) (by omega)
  have HC2 := Lib.hid hcon; clear hcon HC
  generalize ht : Snk.put _ lb = t at h7
  have hb : s.b = t.b := by rw [← ht]; rfl
  have hcl : (foldC 1 true lb).1 = t.col := by rw [← ht]; show _ = (foldC s.col s.ls lb).1; rw [HCL.out, HLS.out]
  have hls : (foldC 1 true lb).2 = t.ls := by rw [← ht]; show _ = (foldC s.col s.ls lb).2; rw [HCL.out, HLS.out]
  have ho : t.out = lb := by rw [← ht]; show s.out ++ lb = lb; rw [HO.out]; rfl
  rw [hb]
  rw [hcl, hls] at HC2
  have HTO := Lib.hid ho; have H7 := Lib.hid h7
  clear ht hb hcl hls ho h7
  go_wp2_with fail
  refine HC2.out.mono ?_
  rintro e w' ⟨rfl, rfl⟩
  have hq0 := H7.out.drew
  have hconv : ∀ W, One w2 t W → (convert 28 9 (.slice A2 nb nb)).run Tryd.prog W = .ok (.string ⟨t.out.toArray⟩) W := fun W hW => by rw [HTO.out]; exact low_conv HS2.out hW.kept
  have hlen : t.out.length ≤ 100000000000 := by rw [HTO.out]; have := HS2.out.1.1; omega
  go_wp2_with fail
  go_region_held3 (One w2 t) (assumption) (first | (go_at_call 13; refine (one_col (by assumption)).mono ?_; rintro e w' ⟨rfl, rfl⟩) | (go_at_call 14; refine (one_ls (by assumption)).mono ?_; rintro e w' ⟨rfl, rfl⟩) | (go_at_call 15; refine (one_out (by assumption) hlen).mono ?_; rintro e w' ⟨rfl, hq1⟩))
  go_wp2_with fail
  go_ret
  exact ⟨rfl, HK2.out.trans hq1.kept⟩
end Go.Proofs.YtmoglhggnodkoaaDoor
