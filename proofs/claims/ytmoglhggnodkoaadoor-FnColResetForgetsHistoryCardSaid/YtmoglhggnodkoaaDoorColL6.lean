/-
  n010_113: FnColResetForgetsHistory, walked.
-/
import Derived.Test.YtmoglhggnodkoaaDoorColt
import Derived.Deep.RegionHeld3
namespace Go.Proofs.YtmoglhggnodkoaaDoor
open Go.RowKit

set_option maxRecDepth 100000 in
theorem yes_FnColResetForgetsHistory (w : World) (col : Int) (ls : Bool) (Ap : Option Addr) (np cp : Nat) (col2 : Int) (ls2 : Bool) (Aq : Option Addr) (nq cq : Nat) (Ab : Option Addr) (nb cb : Nat) (h : np + nq + nb ≤ 1048576) :
    Calls Tryd.prog 24 #[.int .i64 col, .bool ls, .slice Ap np cp, .int .i64 col2, .bool ls2, .slice Aq nq cq, .slice Ab nb cb] w fun e w' => e = .returned (.bool true) ∧ w = w' := by
  go_enter Tryd.func24, Tryd.ntmps24
  go_wp2
  go_ret
  exact ⟨rfl, rfl⟩
set_option maxRecDepth 100000 in
theorem no_FnColResetForgetsHistory (w : World) (col : Int) (ls : Bool) (Ap : Option Addr) (np cp : Nat) (col2 : Int) (ls2 : Bool) (Aq : Option Addr) (nq cq : Nat) (Ab : Option Addr) (nb cb : Nat) (h : 1048576 < np + nq + nb) (hm0 : np ≤ 9223372036854775807) (hm1 : nq ≤ 9223372036854775807) (hm2 : nb ≤ 9223372036854775807) :
    Calls Tryd.prog 24 #[.int .i64 col, .bool ls, .slice Ap np cp, .int .i64 col2, .bool ls2, .slice Aq nq cq, .slice Ab nb cb] w fun e w' => e = .returned (.bool false) ∧ w = w' := by
  go_enter Tryd.func24, Tryd.ntmps24
  go_wp2
  all_goals (
    go_ret
    exact ⟨rfl, rfl⟩)
set_option maxRecDepth 100000 in
set_option maxHeartbeats 1600000 in
theorem skip_FnColResetForgetsHistory (w : World) (col : Int) (ls : Bool) (Ap : Option Addr) (np cp : Nat) (col2 : Int) (ls2 : Bool) (Aq : Option Addr) (nq cq : Nat) (Ab : Option Addr) (nb cb : Nat) (h : ¬ (np + nq + nb ≤ 1048576 ∧ np ≤ 4096 ∧ nq ≤ 4096 ∧ 0 ≤ col ∧ col ≤ 1073741824 ∧ 0 ≤ col2 ∧ col2 ≤ 1073741824)) (hm0 : np ≤ 9223372036854775807) (hm1 : nq ≤ 9223372036854775807) (hm2 : nb ≤ 9223372036854775807) :
    Calls Tryd.prog 8 #[.int .i64 col, .bool ls, .slice Ap np cp, .int .i64 col2, .bool ls2, .slice Aq nq cq, .slice Ab nb cb] w fun e w' => e = .returned (.bool true) ∧ w = w' := by
  by_cases h3 : np + nq + nb ≤ 1048576
  · have h4 : 4096 < np ∨ 4096 < nq ∨ col < 0 ∨ 1073741824 < col ∨ col2 < 0 ∨ 1073741824 < col2 := by omega
    clear h
    rcases h4 with h4 | h4 | h4 | h4 | h4 | h4
    all_goals (
      go_enter Tryd.func8, Tryd.ntmps8
      go_wp2_with (go_at_call 24; refine (yes_FnColResetForgetsHistory _ _ _ _ _ _ _ _ _ _ _ _ _ _ h3).mono ?_; rintro e w' ⟨rfl, rfl⟩)
      all_goals (
        go_ret
        exact ⟨rfl, rfl⟩))
  · clear h
    go_enter Tryd.func8, Tryd.ntmps8
    go_wp2_with (go_at_call 24; refine (no_FnColResetForgetsHistory _ _ _ _ _ _ _ _ _ _ _ _ _ _ (by omega) hm0 hm1 hm2).mono ?_; rintro e w' ⟨rfl, rfl⟩)
    go_ret
    exact ⟨rfl, rfl⟩

set_option maxRecDepth 100000 in
set_option maxHeartbeats 1600000 in
theorem ok_FnColResetForgetsHistory (w : World) (col : Int) (ls : Bool) (Ap : Option Addr) (np cp : Nat) (col2 : Int) (ls2 : Bool) (Aq : Option Addr) (nq cq : Nat) (Ab : Option Addr) (nb cb : Nat) (lp lq lb : List UInt8) (hs : SrcB w Ap np lp) (hA : Ap = none → np = 0 ∧ cp = 0) (hsq : SrcB w Aq nq lq) (hAq : Aq = none → nq = 0 ∧ cq = 0) (hsb : SrcB w Ab nb lb) (hAb : Ab = none → nb = 0 ∧ cb = 0) (hn : np + nq + nb ≤ 1048576) (hp : np ≤ 4096) (hq : nq ≤ 4096) (hc1 : 0 ≤ col) (hc2 : col ≤ 1073741824) (hd1 : 0 ≤ col2) (hd2 : col2 ≤ 1073741824) :
    Calls Tryd.prog 8 #[.int .i64 col, .bool ls, .slice Ap np cp, .int .i64 col2, .bool ls2, .slice Aq nq cq, .slice Ab nb cb] w fun e w' => e = .returned (.bool true) ∧ Kept [] w w' := by
  have HS := Lib.hid hs; have HA := Lib.hid hA; have HSq := Lib.hid hsq; have HAq := Lib.hid hAq; have HSb := Lib.hid hsb; have HAb := Lib.hid hAb
  clear hs hA hsb hAb hsq hAq
  go_enter Tryd.func8, Tryd.ntmps8
  go_wp2_with (go_at_call 24; refine (yes_FnColResetForgetsHistory _ _ _ _ _ _ _ _ _ _ _ _ _ _ hn).mono ?_; rintro e w' ⟨rfl, rfl⟩)
  refine (clone_low w Ap np cp lp (by omega) HA.out HS.out).mono ?_
  rintro e w1 ⟨A1, rfl, hs1, hk1⟩
  have hsb1 := HSb.out.kept hk1 (by simp)
  have hsq1 := HSq.out.kept hk1 (by simp)
  have HS1 := Lib.hid hs1; have HK1 := Lib.hid hk1; have HSB := Lib.hid hsb1; have HSQ := Lib.hid hsq1
  clear hs1 hk1 hsb1 hsq1
  go_wp2_with fail
  refine (clone_low w1 Aq nq cq lq (by omega) HAq.out HSQ.out).mono ?_
  rintro e w2 ⟨A2, rfl, hs2, hk2⟩
  have hs1 := HS1.out.kept hk2
  have hsb1 := HSB.out.kept hk2 (by simp)
  have HS1 := Lib.hid hs1; have HS2 := Lib.hid hs2; have HK2 := Lib.hid (HK1.out.trans hk2); have HSB := Lib.hid hsb1
  clear hs2 hk2 hs1 hsb1
  go_wp2_with fail
  refine (clone_low w2 Ab nb cb lb (by omega) HAb.out HSB.out).mono ?_
  rintro e w3 ⟨A3, rfl, hs3, hk3⟩
  have hs1 := HS1.out.kept hk3
  have hs2 := HS2.out.kept hk3
  have HS1 := Lib.hid hs1; have HS2 := Lib.hid hs2; have HS3 := Lib.hid hs3; have HK3 := Lib.hid (HK2.out.trans hk3)
  clear hs1 hs2 hs3 hk3
  go_wp2_with fail
  refine (fr_new w3 col ls).mono ?_
  rintro e w4 ⟨rfl, h4⟩
  have hcon := fr_write h4 A1 np np lp HS1.out (by simp; omega) hc1 (show col ≤ _ by omega)
  have HC := Lib.hid hcon; clear hcon h4
  go_wp2_with fail
  refine HC.out.mono ?_
  rintro e w5 ⟨rfl, h5⟩
  have hcon := fr_reset h5
  have HC := Lib.hid hcon; clear hcon h5
  go_wp2_with fail
  refine HC.out.mono ?_
  rintro e w6 ⟨rfl, h6⟩
  have hcon := one_write h6.one A3 nb nb lb HS3.out (by show ([] : List UInt8).length + nb ≤ _; simp; omega) (show (0 : Int) ≤ 1 by omega) (show (1 : Int) ≤ _ by omega)
  have HC := Lib.hid hcon; clear hcon h6
  go_wp2_with fail
  refine HC.out.mono ?_
  rintro e w7 ⟨rfl, h7⟩
  generalize hs : Snk.put _ lb = s at h7
  have hb : w3.heap.size = s.b := by rw [← hs]; rfl
  rw [hb]
  have HS2 := Lib.hid (HS2.out.kept h7.kept); have HS3 := Lib.hid (HS3.out.kept h7.kept)
  have H1 := Lib.hid h7; have HSS := Lib.hid hs; clear h7 hb hs HC
  go_wp2_with fail
  refine (fr_new w7 col2 ls2).mono ?_
  rintro e w8 ⟨rfl, h8⟩
  have hconv : (convert 28 9 (.slice A2 nq nq)).run Tryd.prog w8 = .ok (.string ⟨lq.toArray⟩) w8 := low_conv HS2.out h8.kept
  have hcon := fr_writeString h8 ⟨lq.toArray⟩ nq lq rfl HS2.out.1.1 (by simp; omega) hd1 (show col2 ≤ _ by omega)
  have HC := Lib.hid hcon; clear hcon h8
  go_wp2_with fail
  refine HC.out.mono ?_
  rintro e w9 ⟨rfl, h9⟩
  have hcon := fr_reset h9
  have HC := Lib.hid hcon; clear hcon h9 hconv
  go_wp2_with fail
  refine HC.out.mono ?_
  rintro e w10 ⟨rfl, h10⟩
  have hcon := fr_reset h10
  have HC := Lib.hid hcon; clear hcon h10
  go_wp2_with fail
  refine HC.out.mono ?_
  rintro e w11 ⟨rfl, h11⟩
  have hcon := one_write h11.one A3 nb nb lb HS3.out (by show ([] : List UInt8).length + nb ≤ _; simp; omega) (show (0 : Int) ≤ 1 by omega) (show (1 : Int) ≤ _ by omega)
  have HC := Lib.hid hcon; clear hcon h11
  go_wp2_with fail
  refine HC.out.mono ?_
  rintro e w12 ⟨rfl, h12⟩
  generalize ht : Snk.put _ lb = t at h12
  have hb : w7.heap.size = t.b := by rw [← ht]; rfl
  rw [hb]
  have hs := HSS.out
  have H2 := Lib.hid h12; clear h12 hb HC
  have hc : s.col = t.col := by rw [← hs, ← ht]; rfl
  have hll : s.ls = t.ls := by rw [← hs, ← ht]; rfl
  have ho : s.out = t.out := by rw [← hs, ← ht]; rfl
  have hlen : t.out.length ≤ 100000000000 := by rw [← ht]; show (([] : List UInt8) ++ lb).length ≤ _; have := HS3.out.1.1; simp; omega
  have HC1 := Lib.hid hc; have HL1 := Lib.hid hll; have HO1 := Lib.hid ho
  clear hc hll ho hs ht
  have hq := Two.of H1.out H2.out
  go_wp2_with (first | (go_at_call 13; (with_reducible refine (two_col1 (by assumption) HC1.out).mono ?_); rintro e w' ⟨rfl, rfl⟩) | (go_at_call 13; (with_reducible refine (two_col2 (by assumption) rfl).mono ?_); rintro e w' ⟨rfl, rfl⟩) | (go_at_call 14; (with_reducible refine (two_ls1 (by assumption) HL1.out).mono ?_); rintro e w' ⟨rfl, rfl⟩) | (go_at_call 14; (with_reducible refine (two_ls2 (by assumption) rfl).mono ?_); rintro e w' ⟨rfl, rfl⟩) | (go_at_call 15; (with_reducible refine (two_out1 (by assumption) HO1.out hlen).mono ?_); rintro e w' ⟨rfl, hq1⟩) | (go_at_call 15; (with_reducible refine (two_out2 (by assumption) rfl hlen).mono ?_); rintro e w' ⟨rfl, hq1⟩))
  go_ret
  exact ⟨rfl, HK3.out.trans (Two.kept (by assumption))⟩
end Go.Proofs.YtmoglhggnodkoaaDoor
