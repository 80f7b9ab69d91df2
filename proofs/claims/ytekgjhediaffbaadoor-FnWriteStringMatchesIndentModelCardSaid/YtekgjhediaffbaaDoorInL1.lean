/-
  n010_120: FnWriteStringMatchesIndentModel, walked.
-/
import Derived.Test.YtekgjhediaffbaaDoorInx
namespace Go.Proofs.YtekgjhediaffbaaDoor
open Go.RowKit

set_option maxRecDepth 100000 in
theorem yes_FnWriteStringMatchesIndentModel (w : World) (base : Int) (s : ByteArray) (h : s.size ≤ 1048576) :
    Calls Tryd.prog 19 #[.int .i64 base, .string s] w fun e w' => e = .returned (.bool true) ∧ w = w' := by
  go_enter Tryd.func19, Tryd.ntmps19
  go_wp2
  go_ret
  exact ⟨rfl, rfl⟩
set_option maxRecDepth 100000 in
theorem no_FnWriteStringMatchesIndentModel (w : World) (base : Int) (s : ByteArray) (h : 1048576 < s.size) (hm0 : s.size ≤ 9223372036854775807) :
    Calls Tryd.prog 19 #[.int .i64 base, .string s] w fun e w' => e = .returned (.bool false) ∧ w = w' := by
  go_enter Tryd.func19, Tryd.ntmps19
  go_wp2
  all_goals (
    go_ret
    exact ⟨rfl, rfl⟩)
set_option maxRecDepth 100000 in
set_option maxHeartbeats 1600000 in
theorem skip_FnWriteStringMatchesIndentModel (w : World) (base : Int) (s : ByteArray) (h : ¬ (s.size ≤ 1048576 ∧ s.size ≤ 65536 ∧ 0 ≤ base ∧ base ≤ 65536)) (hm0 : s.size ≤ 9223372036854775807) :
    Calls Tryd.prog 4 #[.int .i64 base, .string s] w fun e w' => e = .returned (.bool true) ∧ w = w' := by
  by_cases h3 : s.size ≤ 1048576
  · have h4 : 65536 < s.size ∨ base < 0 ∨ 65536 < base := by omega
    clear h
    rcases h4 with h4 | h4 | h4
    all_goals (
      go_enter Tryd.func4, Tryd.ntmps4
      go_wp2_with (go_at_call 19; refine (yes_FnWriteStringMatchesIndentModel _ _ _ h3).mono ?_; rintro e w' ⟨rfl, rfl⟩)
      all_goals (
        go_ret
        exact ⟨rfl, rfl⟩))
  · clear h
    go_enter Tryd.func4, Tryd.ntmps4
    go_wp2_with (go_at_call 19; refine (no_FnWriteStringMatchesIndentModel _ _ _ (by omega) hm0).mono ?_; rintro e w' ⟨rfl, rfl⟩)
    go_ret
    exact ⟨rfl, rfl⟩

set_option maxRecDepth 100000 in
set_option maxHeartbeats 3200000 in
theorem ok_FnWriteStringMatchesIndentModel (w : World) (base : Int) (s : ByteArray) (hn : s.size ≤ 65536) (hb1 : 0 ≤ base) (hb2 : base ≤ 65536) :
    Calls Tryd.prog 4 #[.int .i64 base, .string s] w fun e w' => e = .returned (.bool true) ∧ Kept [] w w' := by
  have hp := prod_bound (a := (s.size : Int) + 1) (b := base + 3) (by omega) (by omega) (by omega) (by omega)
  obtain ⟨hp0, hp1⟩ := hp
  by_cases hP : 67108864 < ((s.size : Int) + 1) * (base + 3)
  · go_enter Tryd.func4, Tryd.ntmps4
    go_wp2_with (go_at_call 19; refine (yes_FnWriteStringMatchesIndentModel _ _ _ (by omega)).mono ?_; rintro e w' ⟨rfl, rfl⟩)
    all_goals (
      go_ret
      exact ⟨rfl, Kept.refl _ _⟩)
  have hP2 : ((s.size : Int) + 1) * (base + 3) ≤ 67108864 := by omega
  clear hP
  obtain ⟨l, hl⟩ : ∃ l, l = s.data.toList := ⟨_, rfl⟩
  have hll : l.length = s.size := by rw [hl]; rfl
  have hol := out_le hb1 hb2 l (by omega)
  have HL := Lib.hid hl; have HLL := Lib.hid hll
  clear hl hll
  go_enter Tryd.func4, Tryd.ntmps4
  go_wp2_with (go_at_call 19; refine (yes_FnWriteStringMatchesIndentModel _ _ _ (by omega)).mono ?_; rintro e w' ⟨rfl, rfl⟩)
  refine (newind _ base).mono ?_
  rintro e w1 ⟨rfl, h1⟩
  have H1 := Lib.hid h1; clear h1
  go_wp2_with fail
  refine (zwstring H1.out (is0_ok base) hb1 hb2 s l HL.out (by omega)).mono ?_
  rintro e w2 ⟨rfl, h2⟩
  have H2 := Lib.hid h2; clear h2
  have g0 : ((s.size : Int) != s.size) = false := by simp
  go_wp2_with fail
  refine (H2.out.flush (by omega)).mono ?_
  rintro e w3 ⟨rfl, h3⟩
  have H3 := Lib.hid h3; clear h3
  go_wp2_with fail
  refine H3.out.bytes.mono ?_
  rintro e w4 ⟨A4, c4, rfl, hs4, _, _, hk4⟩
  have HS4 := Lib.hid hs4; have HK4 := Lib.hid hk4; clear hs4 hk4
  go_wp2_with (refine wpList_bytesM rfl _ rfl s rfl (by omega) ?_; intro c5 w5 hs5 hc5 hc6 hk5 hz5; have HS5 := Lib.hid hs5; have HK5 := Lib.hid hk5; have HZ5 := Lib.hid hz5; clear hs5 hk5 hz5)
  have hs5 := HS5.out
  rw [← HL.out] at hs5
  refine (mind_of (base := base) hs5 ⟨rfl, by rw [HZ5.out]; simp⟩ hc5 hb1 hb2 (by omega)).mono ?_
  rintro e w6 ⟨B6, c6, rfl, hs6, hk6⟩
  have HC := Lib.hid (zeq w6 A4 B6 _ c4 c6 _ ((HS4.out.kept HK5.out (by simp)).kept hk6 (by simp)) hs6 (by omega))
  have HK6 := Lib.hid hk6
  clear hs5 hs6 hk6
  go_wp2_with fail
  refine HC.out.mono ?_
  rintro e w7 ⟨rfl, hk7⟩
  have HK7 := Lib.hid hk7; clear hk7
  go_wp2_with fail
  go_ret
  exact ⟨rfl, ((((H3.out.inn.kept).trans HK4.out).trans HK5.out).trans HK6.out).trans HK7.out⟩
end Go.Proofs.YtekgjhediaffbaaDoor
