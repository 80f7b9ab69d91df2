/-
  n010_120: FnSinkOfChainIsVerbatim, walked.
-/
import Derived.Test.YtekgjhediaffbaaDoorInz
namespace Go.Proofs.YtekgjhediaffbaaDoor
open Go.RowKit

set_option maxRecDepth 100000 in
theorem yes_FnSinkOfChainIsVerbatim (w : World) (depth : Int) (s : ByteArray) (h : s.size ≤ 1048576) :
    Calls Tryd.prog 22 #[.int .i64 depth, .string s] w fun e w' => e = .returned (.bool true) ∧ w = w' := by
  go_enter Tryd.func22, Tryd.ntmps22
  go_wp2
  go_ret
  exact ⟨rfl, rfl⟩
set_option maxRecDepth 100000 in
theorem no_FnSinkOfChainIsVerbatim (w : World) (depth : Int) (s : ByteArray) (h : 1048576 < s.size) (hm0 : s.size ≤ 9223372036854775807) :
    Calls Tryd.prog 22 #[.int .i64 depth, .string s] w fun e w' => e = .returned (.bool false) ∧ w = w' := by
  go_enter Tryd.func22, Tryd.ntmps22
  go_wp2
  all_goals (
    go_ret
    exact ⟨rfl, rfl⟩)
set_option maxRecDepth 100000 in
set_option maxHeartbeats 1600000 in
theorem skip_FnSinkOfChainIsVerbatim (w : World) (depth : Int) (s : ByteArray) (h : ¬ (s.size ≤ 1048576 ∧ s.size ≤ 1048576 ∧ 1 ≤ depth ∧ depth ≤ 64)) (hm0 : s.size ≤ 9223372036854775807) :
    Calls Tryd.prog 5 #[.int .i64 depth, .string s] w fun e w' => e = .returned (.bool true) ∧ w = w' := by
  by_cases h3 : s.size ≤ 1048576
  · have h4 : 1048576 < s.size ∨ depth < 1 ∨ 64 < depth := by omega
    clear h
    rcases h4 with h4 | h4 | h4
    all_goals (
      go_enter Tryd.func5, Tryd.ntmps5
      go_wp2_with (go_at_call 22; refine (yes_FnSinkOfChainIsVerbatim _ _ _ h3).mono ?_; rintro e w' ⟨rfl, rfl⟩)
      all_goals (
        go_ret
        exact ⟨rfl, rfl⟩))
  · clear h
    go_enter Tryd.func5, Tryd.ntmps5
    go_wp2_with (go_at_call 22; refine (no_FnSinkOfChainIsVerbatim _ _ _ (by omega) hm0).mono ?_; rintro e w' ⟨rfl, rfl⟩)
    go_ret
    exact ⟨rfl, rfl⟩

set_option maxRecDepth 100000 in
set_option maxHeartbeats 3200000 in
theorem ok_FnSinkOfChainIsVerbatim (w : World) (depth : Int) (s : ByteArray) (hn : s.size ≤ 1048576) (hd1 : 1 ≤ depth) (hd2 : depth ≤ 64) :
    Calls Tryd.prog 5 #[.int .i64 depth, .string s] w fun e w' => e = .returned (.bool true) ∧ Kept [] w w' := by
  obtain ⟨dp, rfl⟩ := Int.eq_ofNat_of_zero_le (show 0 ≤ depth by omega)
  obtain ⟨l, hl⟩ : ∃ l, l = s.data.toList := ⟨_, rfl⟩
  have hll : l.length = s.size := by rw [hl]; rfl
  have HL := Lib.hid hl; have HLL := Lib.hid hll
  clear hl hll
  go_enter Tryd.func5, Tryd.ntmps5
  go_wp2_with (go_at_call 22; refine (yes_FnSinkOfChainIsVerbatim _ _ _ (by omega)).mono ?_; rintro e w' ⟨rfl, rfl⟩)
  refine (newind _ 1).mono ?_
  rintro e w1 ⟨rfl, h1⟩
  have H1 := Lib.hid h1; clear h1
  obtain ⟨S0, hx0, hk0, hn0⟩ := H1.out.ixs
  have hlt0 := hx0.lt
  have HX0 := Lib.hid hx0; have HK0 := Lib.hid hk0; have HN0 := Lib.hid hn0; have HLT0 := Lib.hid hlt0
  clear H1 hx0 hk0 hn0 hlt0
  go_wp2_with fail
  have hst : Hid (Chain w1 w1.heap.size (w.heap.size + 3) 0 (w.heap.size + 3) ∧ Kept [] w1 w1) := Lib.hid ⟨rfl, Kept.refl _ _⟩
  go_loopw [8, 9] (fun se sk wr => ∃ d e : Nat, d + 1 ≤ dp ∧ sk = .int .i64 ((d : Int) + 1) ∧ se = .pointer (some ⟨e, 0, none⟩) ∧ Hid (Chain wr w1.heap.size (w.heap.size + 3) d e ∧ Kept [] w1 wr)) (fun _ sk _ => dp - (intOf sk).toNat)
  case atStart => exact ⟨0, _, by omega, rfl, rfl, hst⟩
  case round =>
    clear hst
    obtain ⟨d, e, hd, rfl, rfl, hrel⟩ := hrel
    by_cases hlt : d + 1 < dp
    · have hcon := nested hrel.out.1 hrel.out.2.size ((d : Int) + 1 + 1)
      have HC := Lib.hid hcon; have HKR := Lib.hid hrel.out.2
      clear hcon hrel
      have hltI : (d : Int) + 1 < dp := by omega
      go_wp2_with fail
      refine HC.out.mono ?_
      rintro r w2 ⟨rfl, hc2, hk2⟩
      have HR := Lib.hid (And.intro hc2 (HKR.out.trans hk2))
      clear hc2 hk2 HC
      go_wp2_with fail
      go_roundw
      case rel => exact ⟨d + 1, _, by omega, by go_num, rfl, HR⟩
      case measure => simp [intOf]; omega
    · have hltI : ¬ ((d : Int) + 1 < dp) := by omega
      obtain ⟨wo, rfl⟩ : ∃ wo : World, wo = wr := ⟨_, rfl⟩
      have hcon := sinkwrite (HX0.out.kept hrel.out.2 (by simp)) hrel.out.1 s l HL.out (by simp [is0]; omega)
      have HC := Lib.hid hcon; have HKR := Lib.hid hrel.out.2
      clear hcon hrel
      have g0 : ((s.size : Int) != s.size) = false := by simp
      go_wp2_with fail
      refine HC.out.mono ?_
      rintro r w3 ⟨rfl, S3, hx3, hf3⟩
      have HX3 := Lib.hid hx3; have HF3 := Lib.hid hf3
      clear hx3 hf3 HC
      go_wp2_with fail
      refine (HX3.out.flush (by show (is0.out ++ l).length ≤ _; have := HLL.out; simp [is0]; omega)).mono ?_
      rintro e w4 ⟨rfl, S4, hx4, ⟨row4, hb4⟩, hf4⟩
      have hb4 : Bf w4 TB w.heap.size 0 R0 row4 l := hb4
      have hk4 : Kept [] w w4 := by
        have h3 := (HK0.out.trans HKR.out).trans2 HF3.out.2 (fun x hx => .inr (HN0.out x hx))
        exact h3.trans2 hf4.2 (fun x hx => .inr ((HF3.out.1 x hx).elim (HN0.out x) (fun h => Nat.le_trans (HK0.out.trans HKR.out).size h)))
      have HB4 := Lib.hid hb4; have HK4 := Lib.hid hk4
      clear hx4 hf4 hb4 hk4
      go_wp2_with fail
      refine (buf_bytes HB4.out).mono ?_
      rintro e w5 ⟨A5, c5, rfl, _, _, hs5, hk5⟩
      rw [HLL.out] at hs5 ⊢
      have HS5 := Lib.hid hs5; have HK5 := Lib.hid hk5; clear hs5 hk5
      go_wp2_with (refine wpList_bytesM rfl _ rfl s rfl (by omega) ?_; intro c6 w6 hs6 hc6 hc7 hk6 hz6; have HS6 := Lib.hid hs6; have HK6 := Lib.hid hk6; clear hs6 hk6 hz6)
      have hs6 := HS6.out
      rw [← HL.out] at hs6
      have HC2 := Lib.hid (zeq w6 A5 _ s.size c5 c6 l (HS5.out.kept HK6.out (by simp)) hs6 (by omega))
      clear hs6
      refine HC2.out.mono ?_
      rintro e w7 ⟨rfl, hk7⟩
      have HK7 := Lib.hid hk7; clear hk7
      go_wp2_with fail
      go_ret
      exact ⟨rfl, ((HK4.out.trans HK5.out).trans HK6.out).trans HK7.out⟩
end Go.Proofs.YtekgjhediaffbaaDoor
