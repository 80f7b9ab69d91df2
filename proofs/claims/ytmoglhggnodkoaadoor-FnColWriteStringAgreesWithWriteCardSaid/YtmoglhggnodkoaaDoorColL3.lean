/-
  n010_113: FnColWriteStringAgreesWithWrite, walked.
-/
import Derived.Test.YtmoglhggnodkoaaDoorColt
import Derived.Deep.RegionHeld3
namespace Go.Proofs.YtmoglhggnodkoaaDoor
open Go.RowKit

set_option maxRecDepth 100000 in
theorem yes_FnColWriteStringAgreesWithWrite (w : World) (col : Int) (ls : Bool) (str : ByteArray) (Ab : Option Addr) (nb cb : Nat) (h : str.size + nb ≤ 1048576) :
    Calls Tryd.prog 19 #[.int .i64 col, .bool ls, .string str, .slice Ab nb cb] w fun e w' => e = .returned (.bool true) ∧ w = w' := by
  go_enter Tryd.func19, Tryd.ntmps19
  go_wp2
  go_ret
  exact ⟨rfl, rfl⟩
set_option maxRecDepth 100000 in
theorem no_FnColWriteStringAgreesWithWrite (w : World) (col : Int) (ls : Bool) (str : ByteArray) (Ab : Option Addr) (nb cb : Nat) (h : 1048576 < str.size + nb) (hm0 : str.size ≤ 9223372036854775807) (hm1 : nb ≤ 9223372036854775807) :
    Calls Tryd.prog 19 #[.int .i64 col, .bool ls, .string str, .slice Ab nb cb] w fun e w' => e = .returned (.bool false) ∧ w = w' := by
  go_enter Tryd.func19, Tryd.ntmps19
  go_wp2
  all_goals (
    go_ret
    exact ⟨rfl, rfl⟩)
set_option maxRecDepth 100000 in
set_option maxHeartbeats 1600000 in
theorem skip_FnColWriteStringAgreesWithWrite (w : World) (col : Int) (ls : Bool) (str : ByteArray) (Ab : Option Addr) (nb cb : Nat) (h : ¬ (str.size + nb ≤ 1048576 ∧ 0 ≤ col ∧ col ≤ 1073741824)) (hm0 : str.size ≤ 9223372036854775807) (hm1 : nb ≤ 9223372036854775807) :
    Calls Tryd.prog 5 #[.int .i64 col, .bool ls, .string str, .slice Ab nb cb] w fun e w' => e = .returned (.bool true) ∧ w = w' := by
  by_cases h3 : str.size + nb ≤ 1048576
  · have h4 : col < 0 ∨ 1073741824 < col := by omega
    clear h
    rcases h4 with h4 | h4
    all_goals (
      go_enter Tryd.func5, Tryd.ntmps5
      go_wp2_with (go_at_call 19; refine (yes_FnColWriteStringAgreesWithWrite _ _ _ _ _ _ _ h3).mono ?_; rintro e w' ⟨rfl, rfl⟩)
      all_goals (
        go_ret
        exact ⟨rfl, rfl⟩))
  · clear h
    go_enter Tryd.func5, Tryd.ntmps5
    go_wp2_with (go_at_call 19; refine (no_FnColWriteStringAgreesWithWrite _ _ _ _ _ _ _ (by omega) hm0 hm1).mono ?_; rintro e w' ⟨rfl, rfl⟩)
    go_ret
    exact ⟨rfl, rfl⟩

set_option maxRecDepth 100000 in
set_option maxHeartbeats 1600000 in
theorem ok_FnColWriteStringAgreesWithWrite (w : World) (col : Int) (ls : Bool) (str : ByteArray) (Ab : Option Addr) (nb cb : Nat) (l : List UInt8) (hsb : SrcB w Ab nb l) (hA : Ab = none → nb = 0 ∧ cb = 0) (hn : str.size + nb ≤ 1048576) (hc1 : 0 ≤ col) (hc2 : col ≤ 1073741824) :
    Calls Tryd.prog 5 #[.int .i64 col, .bool ls, .string str, .slice Ab nb cb] w fun e w' => e = .returned (.bool true) ∧ Kept [] w w' := by
  have HS := Lib.hid hsb; have HA := Lib.hid hA; clear hsb hA
  obtain ⟨p, hp⟩ : ∃ p, p = str.data.toList := ⟨_, rfl⟩
  have hsz : p.length = str.size := by rw [hp]; rfl
  have HP := Lib.hid hp; have HZ := Lib.hid hsz; clear hp hsz
  have hfb := foldC_bound p col ls hc1
  have hfz : p.length ≤ 1048576 := by rw [HZ.out]; omega
  go_enter Tryd.func5, Tryd.ntmps5
  go_wp2_with (go_at_call 19; refine (yes_FnColWriteStringAgreesWithWrite _ _ _ _ _ _ _ hn).mono ?_; rintro e w' ⟨rfl, rfl⟩)
  refine (clone_low w Ab nb cb l (by omega) HA.out HS.out).mono ?_
  rintro e w1 ⟨A1, rfl, hs1, hk1⟩
  have HS1 := Lib.hid hs1; have HK1 := Lib.hid hk1
  clear hs1 hk1
  go_wp2_with fail
  refine (sn_new w1 col ls).mono ?_
  rintro e w2 ⟨rfl, h2⟩
  have hcon := one_writeString ⟨_, h2⟩ str str.size p HP.out HZ.out (by simp; omega) hc1 (show col ≤ _ by omega)
  have HC := Lib.hid hcon; clear hcon h2
  go_wp2_with fail
  refine HC.out.mono ?_
  rintro e w3 ⟨rfl, h3⟩
  have hcon := one_write h3 A1 nb nb l HS1.out (by show ([] ++ p).length + nb ≤ _; simp; omega) (show 0 ≤ (foldC col ls p).1 by omega) (show (foldC col ls p).1 ≤ _ by omega)
  have HC := Lib.hid hcon; clear hcon h3
  go_wp2_with fail
  refine HC.out.mono ?_
  rintro e w4 ⟨rfl, h4⟩
  generalize hs : Snk.put _ l = s at h4
  have hb : w1.heap.size = s.b := by rw [← hs]; rfl
  rw [hb]
  have H1 := Lib.hid h4; have HSS := Lib.hid hs; clear h4 hb hs HC
  go_wp2_with fail
  refine (sn_new w4 col ls).mono ?_
  rintro e w5 ⟨rfl, h5⟩
  have H5 : Hid (One w4 _ w5) := ⟨_, h5⟩
  clear h5
  go_wp2_with (refine wpList_bytesM rfl (.tmp 69) rfl str rfl (by omega) ?_; intro cap w6 hs6 hcap hcap2 hk6 hz6; have HS6 := Lib.hid hs6; have HK6 := Lib.hid hk6; have HZ6 := Lib.hid hz6; clear hs6 hk6 hz6)
  have hcon := one_write_new H5.out HK6.out str.size cap p (HP.out ▸ HS6.out) (by have := HZ6.out; omega) hcap hcap2 (by simp; omega) hc1 (show col ≤ _ by omega)
  refine hcon.mono ?_
  clear hcon
  rintro e w7 ⟨rfl, h7⟩
  have hconv : (convert 28 9 (.slice A1 nb nb)).run Tryd.prog w7 = .ok (.string ⟨l.toArray⟩) w7 := low_conv HS1.out (H1.out.kept.trans h7.kept)
  have hcon := one_writeString h7 ⟨l.toArray⟩ nb l rfl HS1.out.1.1 (by show ([] ++ p).length + nb ≤ _; simp; omega) (show 0 ≤ (foldC col ls p).1 by omega) (show (foldC col ls p).1 ≤ _ by omega)
  have HC := Lib.hid hcon; clear hcon h7
  go_wp2_with fail
  refine HC.out.mono ?_
  rintro e w8 ⟨rfl, h8⟩
  generalize ht : Snk.put _ l = t at h8
  have hb : w4.heap.size = t.b := by rw [← ht]; rfl
  rw [hb]
  have hs := HSS.out
  have H2 := Lib.hid h8; clear h8 hb HC hconv
  have hc : s.col = t.col := by rw [← hs, ← ht]; rfl
  have hll : s.ls = t.ls := by rw [← hs, ← ht]; rfl
  have ho : s.out = t.out := by rw [← hs, ← ht]; rfl
  have hlen : t.out.length ≤ 100000000000 := by rw [← ht]; show (([] ++ p) ++ l).length ≤ _; have := HS1.out.1.1; simp; omega
  have HC1 := Lib.hid hc; have HL1 := Lib.hid hll; have HO1 := Lib.hid ho
  clear hc hll ho hs ht
  have hq := Two.of H1.out H2.out
  go_wp2_with (first | (go_at_call 13; (with_reducible refine (two_col1 (by assumption) HC1.out).mono ?_); rintro e w' ⟨rfl, rfl⟩) | (go_at_call 13; (with_reducible refine (two_col2 (by assumption) rfl).mono ?_); rintro e w' ⟨rfl, rfl⟩) | (go_at_call 14; (with_reducible refine (two_ls1 (by assumption) HL1.out).mono ?_); rintro e w' ⟨rfl, rfl⟩) | (go_at_call 14; (with_reducible refine (two_ls2 (by assumption) rfl).mono ?_); rintro e w' ⟨rfl, rfl⟩) | (go_at_call 15; (with_reducible refine (two_out1 (by assumption) HO1.out hlen).mono ?_); rintro e w' ⟨rfl, hq1⟩) | (go_at_call 15; (with_reducible refine (two_out2 (by assumption) rfl hlen).mono ?_); rintro e w' ⟨rfl, hq1⟩))
  go_ret
  exact ⟨rfl, HK1.out.trans (Two.kept (by assumption))⟩
end Go.Proofs.YtmoglhggnodkoaaDoor
