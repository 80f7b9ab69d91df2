/-
  n010_113: FnColWriteSplitAgrees, walked.
-/
import Derived.Test.YtmoglhggnodkoaaDoorColt
import Derived.Deep.RegionHeld3
namespace Go.Proofs.YtmoglhggnodkoaaDoor
open Go.RowKit

set_option maxRecDepth 100000 in
theorem yes_FnColWriteSplitAgrees (w : World) (col : Int) (ls : Bool) (Aa : Option Addr) (na ca : Nat) (Ab : Option Addr) (nb cb : Nat) (h : na + nb ≤ 1048576) :
    Calls Tryd.prog 22 #[.int .i64 col, .bool ls, .slice Aa na ca, .slice Ab nb cb] w fun e w' => e = .returned (.bool true) ∧ w = w' := by
  go_enter Tryd.func22, Tryd.ntmps22
  go_wp2
  go_ret
  exact ⟨rfl, rfl⟩
set_option maxRecDepth 100000 in
theorem no_FnColWriteSplitAgrees (w : World) (col : Int) (ls : Bool) (Aa : Option Addr) (na ca : Nat) (Ab : Option Addr) (nb cb : Nat) (h : 1048576 < na + nb) (hm0 : na ≤ 9223372036854775807) (hm1 : nb ≤ 9223372036854775807) :
    Calls Tryd.prog 22 #[.int .i64 col, .bool ls, .slice Aa na ca, .slice Ab nb cb] w fun e w' => e = .returned (.bool false) ∧ w = w' := by
  go_enter Tryd.func22, Tryd.ntmps22
  go_wp2
  all_goals (
    go_ret
    exact ⟨rfl, rfl⟩)
set_option maxRecDepth 100000 in
set_option maxHeartbeats 1600000 in
theorem skip_FnColWriteSplitAgrees (w : World) (col : Int) (ls : Bool) (Aa : Option Addr) (na ca : Nat) (Ab : Option Addr) (nb cb : Nat) (h : ¬ (na + nb ≤ 1048576 ∧ 0 ≤ col ∧ col ≤ 1073741824)) (hm0 : na ≤ 9223372036854775807) (hm1 : nb ≤ 9223372036854775807) :
    Calls Tryd.prog 7 #[.int .i64 col, .bool ls, .slice Aa na ca, .slice Ab nb cb] w fun e w' => e = .returned (.bool true) ∧ w = w' := by
  by_cases h3 : na + nb ≤ 1048576
  · have h4 : col < 0 ∨ 1073741824 < col := by omega
    clear h
    rcases h4 with h4 | h4
    all_goals (
      go_enter Tryd.func7, Tryd.ntmps7
      go_wp2_with (go_at_call 22; refine (yes_FnColWriteSplitAgrees _ _ _ _ _ _ _ _ _ h3).mono ?_; rintro e w' ⟨rfl, rfl⟩)
      all_goals (
        go_ret
        exact ⟨rfl, rfl⟩))
  · clear h
    go_enter Tryd.func7, Tryd.ntmps7
    go_wp2_with (go_at_call 22; refine (no_FnColWriteSplitAgrees _ _ _ _ _ _ _ _ _ (by omega) hm0 hm1).mono ?_; rintro e w' ⟨rfl, rfl⟩)
    go_ret
    exact ⟨rfl, rfl⟩

set_option maxRecDepth 100000 in
set_option maxHeartbeats 1600000 in
theorem ok_FnColWriteSplitAgrees (w : World) (col : Int) (ls : Bool) (Aa : Option Addr) (na ca : Nat) (Ab : Option Addr) (nb cb : Nat) (la lb : List UInt8) (hs : SrcB w Aa na la) (hA : Aa = none → na = 0 ∧ ca = 0) (hsb : SrcB w Ab nb lb) (hAb : Ab = none → nb = 0 ∧ cb = 0) (hn : na + nb ≤ 1048576) (hc1 : 0 ≤ col) (hc2 : col ≤ 1073741824) :
    Calls Tryd.prog 7 #[.int .i64 col, .bool ls, .slice Aa na ca, .slice Ab nb cb] w fun e w' => e = .returned (.bool true) ∧ Kept [] w w' := by
  have HS := Lib.hid hs; have HA := Lib.hid hA; have HSb := Lib.hid hsb; have HAb := Lib.hid hAb
  have hfb := foldC_bound la col ls hc1
  have hfz : la.length ≤ na := by have := hs.1; omega
  clear hs hA hsb hAb
  go_enter Tryd.func7, Tryd.ntmps7
  go_wp2_with (go_at_call 22; refine (yes_FnColWriteSplitAgrees _ _ _ _ _ _ _ _ _ hn).mono ?_; rintro e w' ⟨rfl, rfl⟩)
  refine (clone_low w Aa na ca la (by omega) HA.out HS.out).mono ?_
  rintro e w1 ⟨A1, rfl, hs1, hk1⟩
  have hsb1 := HSb.out.kept hk1 (by simp)
  have HS1 := Lib.hid hs1; have HK1 := Lib.hid hk1; have HSB := Lib.hid hsb1
  clear hs1 hk1 hsb1
  go_wp2_with fail
  refine (clone_low w1 Ab nb cb lb (by omega) HAb.out HSB.out).mono ?_
  rintro e w2 ⟨A2, rfl, hs2, hk2⟩
  have hs1 := HS1.out.kept hk2
  have HS1 := Lib.hid hs1; have HS2 := Lib.hid hs2; have HK2 := Lib.hid (HK1.out.trans hk2)
  clear hs2 hk2 hs1
  go_wp2_with fail
  refine (sn_new w2 col ls).mono ?_
  rintro e w3 ⟨rfl, h3⟩
  have hcon := one_write ⟨_, h3⟩ A1 na na la HS1.out (by simp; omega) hc1 (show col ≤ _ by omega)
  have HC := Lib.hid hcon; clear hcon h3
  go_wp2_with fail
  refine HC.out.mono ?_
  rintro e w4 ⟨rfl, h4⟩
  have hcon := one_write h4 A2 nb nb lb HS2.out (by show ([] ++ la).length + nb ≤ _; simp; omega) (show 0 ≤ (foldC col ls la).1 by omega) (show (foldC col ls la).1 ≤ _ by omega)
  have HC := Lib.hid hcon; clear hcon h4
  go_wp2_with fail
  refine HC.out.mono ?_
  rintro e w5 ⟨rfl, h5⟩
  generalize hs : Snk.put _ lb = s at h5
  have hb : w2.heap.size = s.b := by rw [← hs]; rfl
  rw [hb]
  have hcon := concat w5 A1 A2 na na nb nb la lb (HS1.out.1.kept h5.kept (by simp)) (HS2.out.1.kept h5.kept (by simp)) (by omega)
  have HCC := Lib.hid hcon
  have H5 := Lib.hid h5; have HSS := Lib.hid hs; clear h5 hb hs HC hcon
  go_wp2_with fail
  refine HCC.out.mono ?_
  rintro e w6 ⟨rfl, hrow, hk6⟩
  have h6 := H5.out.away hk6
  have hlow : Low w6 (some ⟨w5.heap.size, 0, none⟩) (na + nb) (na + nb) (la ++ lb) := ⟨SrcB.row hrow (by rw [List.length_append, HS1.out.1.1, HS2.out.1.1]), .inr ⟨_, _, rfl, heap_lt hrow⟩, Nat.le_refl _, by omega⟩
  have H1 := Lib.hid h6; have HLO := Lib.hid hlow
  clear hrow hk6 h6 hlow HCC
  go_wp2_with fail
  refine (sn_new w6 col ls).mono ?_
  rintro e w7 ⟨rfl, h7⟩
  have hcon := one_write ⟨_, h7⟩ _ (na + nb) (na + nb) (la ++ lb) HLO.out (by simp; omega) hc1 (show col ≤ _ by omega)
  have HC := Lib.hid hcon; clear hcon h7
  go_wp2_with fail
  refine HC.out.mono ?_
  rintro e w8 ⟨rfl, h8⟩
  generalize ht : Snk.put _ (la ++ lb) = t at h8
  have hb : w6.heap.size = t.b := by rw [← ht]; rfl
  rw [hb]
  have hs := HSS.out
  have H2 := Lib.hid h8; clear h8 hb HC
  have hc : s.col = t.col := by rw [← hs, ← ht]; show _ = (foldC col ls (la ++ lb)).1; rw [foldC_app]; rfl
  have hll : s.ls = t.ls := by rw [← hs, ← ht]; show _ = (foldC col ls (la ++ lb)).2; rw [foldC_app]; rfl
  have ho : s.out = t.out := by rw [← hs, ← ht]; show ([] ++ la) ++ lb = [] ++ (la ++ lb); simp
  have hlen : t.out.length ≤ 100000000000 := by rw [← ht]; show ([] ++ (la ++ lb)).length ≤ _; have := HS1.out.1.1; have := HS2.out.1.1; simp; omega
  have HC1 := Lib.hid hc; have HL1 := Lib.hid hll; have HO1 := Lib.hid ho
  clear hc hll ho hs ht
  have hq := Two.of H1.out H2.out
  go_wp2_with (first | (go_at_call 13; (with_reducible refine (two_col1 (by assumption) HC1.out).mono ?_); rintro e w' ⟨rfl, rfl⟩) | (go_at_call 13; (with_reducible refine (two_col2 (by assumption) rfl).mono ?_); rintro e w' ⟨rfl, rfl⟩) | (go_at_call 14; (with_reducible refine (two_ls1 (by assumption) HL1.out).mono ?_); rintro e w' ⟨rfl, rfl⟩) | (go_at_call 14; (with_reducible refine (two_ls2 (by assumption) rfl).mono ?_); rintro e w' ⟨rfl, rfl⟩) | (go_at_call 15; (with_reducible refine (two_out1 (by assumption) HO1.out hlen).mono ?_); rintro e w' ⟨rfl, hq1⟩) | (go_at_call 15; (with_reducible refine (two_out2 (by assumption) rfl hlen).mono ?_); rintro e w' ⟨rfl, hq1⟩))
  go_ret
  exact ⟨rfl, HK2.out.trans (Two.kept (by assumption))⟩
end Go.Proofs.YtmoglhggnodkoaaDoor
