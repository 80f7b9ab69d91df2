/-
  n010_120: FnWriteStringSplitAnywhere, walked.
-/
import Derived.Test.YtekgjhediaffbaaDoorInz
namespace Go.Proofs.YtekgjhediaffbaaDoor
open Go.RowKit

set_option maxRecDepth 100000 in
theorem yes_FnWriteStringSplitAnywhere (w : World) (base : Int) (s : ByteArray) (k : Int) (h : s.size ≤ 1048576) :
    Calls Tryd.prog 29 #[.int .i64 base, .string s, .int .i64 k] w fun e w' => e = .returned (.bool true) ∧ w = w' := by
  go_enter Tryd.func29, Tryd.ntmps29
  go_wp2
  go_ret
  exact ⟨rfl, rfl⟩
set_option maxRecDepth 100000 in
theorem no_FnWriteStringSplitAnywhere (w : World) (base : Int) (s : ByteArray) (k : Int) (h : 1048576 < s.size) (hm0 : s.size ≤ 9223372036854775807) :
    Calls Tryd.prog 29 #[.int .i64 base, .string s, .int .i64 k] w fun e w' => e = .returned (.bool false) ∧ w = w' := by
  go_enter Tryd.func29, Tryd.ntmps29
  go_wp2
  all_goals (
    go_ret
    exact ⟨rfl, rfl⟩)
set_option maxRecDepth 100000 in
set_option maxHeartbeats 1600000 in
theorem skip_FnWriteStringSplitAnywhere (w : World) (base : Int) (s : ByteArray) (k : Int) (h : ¬ (s.size ≤ 1048576 ∧ s.size ≤ 65536 ∧ 0 ≤ base ∧ base ≤ 65536 ∧ 0 ≤ k ∧ k ≤ (s.size : Int))) (hm0 : s.size ≤ 9223372036854775807) :
    Calls Tryd.prog 8 #[.int .i64 base, .string s, .int .i64 k] w fun e w' => e = .returned (.bool true) ∧ w = w' := by
  by_cases h3 : s.size ≤ 1048576
  · have h4 : 65536 < s.size ∨ base < 0 ∨ 65536 < base ∨ k < 0 ∨ (s.size : Int) < k := by omega
    clear h
    rcases h4 with h4 | h4 | h4 | h4 | h4
    all_goals (
      go_enter Tryd.func8, Tryd.ntmps8
      go_wp2_with (go_at_call 29; refine (yes_FnWriteStringSplitAnywhere _ _ _ _ h3).mono ?_; rintro e w' ⟨rfl, rfl⟩)
      all_goals (
        go_ret
        exact ⟨rfl, rfl⟩))
  · clear h
    go_enter Tryd.func8, Tryd.ntmps8
    go_wp2_with (go_at_call 29; refine (no_FnWriteStringSplitAnywhere _ _ _ _ (by omega) hm0).mono ?_; rintro e w' ⟨rfl, rfl⟩)
    go_ret
    exact ⟨rfl, rfl⟩

set_option maxRecDepth 100000 in
set_option maxHeartbeats 3200000 in
theorem ok_FnWriteStringSplitAnywhere (w : World) (base : Int) (s : ByteArray) (k : Int) (hn : s.size ≤ 65536) (hb1 : 0 ≤ base) (hb2 : base ≤ 65536) (hk1 : 0 ≤ k) (hk2 : k ≤ (s.size : Int)) :
    Calls Tryd.prog 8 #[.int .i64 base, .string s, .int .i64 k] w fun e w' => e = .returned (.bool true) ∧ Kept [] w w' := by
  obtain ⟨k, rfl⟩ := Int.eq_ofNat_of_zero_le hk1
  have hp := prod_bound (a := (s.size : Int) + 1) (b := base + 3) (by omega) (by omega) (by omega) (by omega)
  obtain ⟨hp0, hp1⟩ := hp
  by_cases hP : 67108864 < ((s.size : Int) + 1) * (base + 3)
  · go_enter Tryd.func8, Tryd.ntmps8
    go_wp2_with (go_at_call 29; refine (yes_FnWriteStringSplitAnywhere _ _ _ _ (by omega)).mono ?_; rintro e w' ⟨rfl, rfl⟩)
    all_goals (
      go_ret
      exact ⟨rfl, Kept.refl _ _⟩)
  have hP2 : ((s.size : Int) + 1) * (base + 3) ≤ 67108864 := by omega
  clear hP
  obtain ⟨l, hl⟩ : ∃ l, l = s.data.toList := ⟨_, rfl⟩
  have hll : l.length = s.size := by rw [hl]; rfl
  have hol := out_le hb1 hb2 l (by omega)
  have HL := Lib.hid hl; have HLL := Lib.hid hll
  clear hl hll
  have hz1 : (s.extract 0 k).size = k := by rw [ByteArray.size_extract]; omega
  have hz2 : (s.extract k s.size).size = s.size - k := by rw [ByteArray.size_extract]; omega
  have HZ1 := Lib.hid hz1; have HZ2 := Lib.hid hz2
  clear hz1 hz2
  go_enter Tryd.func8, Tryd.ntmps8
  go_wp2_with (go_at_call 29; refine (yes_FnWriteStringSplitAnywhere _ _ _ _ (by omega)).mono ?_; rintro e w' ⟨rfl, rfl⟩)
  refine (newind _ base).mono ?_
  rintro e w1 ⟨rfl, h1⟩
  have H1 := Lib.hid h1; clear h1
  have hc1 := zwstring H1.out (is0_ok base) hb1 hb2 (s.extract 0 k) (l.take k) (by rw [ext_list, HL.out]; simp) (by have := HZ1.out; omega)
  rw [HZ1.out] at hc1
  have HC1 := Lib.hid hc1; clear hc1
  go_wp2_with fail
  refine HC1.out.mono ?_
  rintro e w2 ⟨rfl, h2⟩
  have hc2 := zwstring h2 (take_ok hb1 l k) hb1 hb2 (s.extract k s.size) (l.drop k) (by rw [ext_list, HL.out, List.take_of_length_le]; simp) (by have := HZ2.out; omega)
  rw [HZ2.out, ← foldI_app, List.take_append_drop, show ((s.size - k : Nat) : Int) = (s.size : Int) - k by omega] at hc2
  have HC2 := Lib.hid hc2; clear hc2 h2
  go_wp2_with fail
  refine HC2.out.mono ?_
  rintro e w3 ⟨rfl, h3⟩
  have H3 := Lib.hid h3; clear h3
  have g0 : ((k : Int) != k) = false := by simp
  have g1 : (((s.size : Int) - k) != ((s.size : Int) - k)) = false := by simp
  have g2 : ((s.size : Int) != s.size) = false := by simp
  go_wp2_with fail
  refine (newind _ base).mono ?_
  rintro e w4 ⟨rfl, h4⟩
  have H4 := Lib.hid h4; clear h4
  go_wp2_with fail
  refine (zwstring H4.out (is0_ok base) hb1 hb2 s l HL.out (by omega)).mono ?_
  rintro e w5 ⟨rfl, h5⟩
  have H5 := Lib.hid (Two.of H3.out h5); clear h5
  go_wp2_with fail
  refine (H5.out.flush1 (by omega)).mono ?_
  rintro e w6 ⟨rfl, h6⟩
  have H6 := Lib.hid h6; clear h6
  go_wp2_with fail
  refine (H6.out.flush2 (by omega)).mono ?_
  rintro e w7 ⟨rfl, h7⟩
  have H7 := Lib.hid h7; clear h7
  go_wp2_with fail
  refine (H7.out.bytes1 (Kept.refl _ _)).mono ?_
  rintro e w8 ⟨A8, c8, rfl, hs8, hk8⟩
  have HS8 := Lib.hid hs8; have HK8 := Lib.hid hk8; clear hs8 hk8
  go_wp2_with fail
  refine (H7.out.bytes2 HK8.out).mono ?_
  rintro e w9 ⟨A9, c9, rfl, hs9, hk9⟩
  have HC := Lib.hid (zeq w9 A8 A9 _ c8 c9 _ (HS8.out.kept hk9 (by simp)) hs9 (by omega))
  have HK9 := Lib.hid hk9; clear hs9 hk9
  go_wp2_with fail
  refine HC.out.mono ?_
  rintro e w10 ⟨rfl, hk10⟩
  have HK10 := Lib.hid hk10; clear hk10
  go_wp2_with fail
  go_ret
  exact ⟨rfl, ((H7.out.kept.trans HK8.out).trans HK9.out).trans HK10.out⟩
end Go.Proofs.YtekgjhediaffbaaDoor
