/-
  n010_120: FnWriteEscapingTabsMatchesModel, walked.
-/
import Derived.Test.YtekgjhediaffbaaDoorInz
namespace Go.Proofs.YtekgjhediaffbaaDoor
open Go.RowKit

set_option maxRecDepth 100000 in
theorem yes_FnWriteEscapingTabsMatchesModel (w : World) (Al : Option Addr) (nl cl : Nat) (h : nl ≤ 1048576) :
    Calls Tryd.prog 11 #[.slice Al nl cl] w fun e w' => e = .returned (.bool true) ∧ w = w' := by
  go_enter Tryd.func11, Tryd.ntmps11
  go_wp2
  go_ret
  exact ⟨rfl, rfl⟩
set_option maxRecDepth 100000 in
theorem no_FnWriteEscapingTabsMatchesModel (w : World) (Al : Option Addr) (nl cl : Nat) (h : 1048576 < nl) (hm0 : nl ≤ 9223372036854775807) :
    Calls Tryd.prog 11 #[.slice Al nl cl] w fun e w' => e = .returned (.bool false) ∧ w = w' := by
  go_enter Tryd.func11, Tryd.ntmps11
  go_wp2
  all_goals (
    go_ret
    exact ⟨rfl, rfl⟩)
set_option maxRecDepth 100000 in
set_option maxHeartbeats 1600000 in
theorem skip_FnWriteEscapingTabsMatchesModel (w : World) (Al : Option Addr) (nl cl : Nat) (h : ¬ (nl ≤ 1048576)) (hm0 : nl ≤ 9223372036854775807) :
    Calls Tryd.prog 3 #[.slice Al nl cl] w fun e w' => e = .returned (.bool true) ∧ w = w' := by
  by_cases h3 : nl ≤ 1048576
  · exact absurd h3 h
  · clear h
    go_enter Tryd.func3, Tryd.ntmps3
    go_wp2_with (go_at_call 11; refine (no_FnWriteEscapingTabsMatchesModel _ _ _ _ (by omega) hm0).mono ?_; rintro e w' ⟨rfl, rfl⟩)
    go_ret
    exact ⟨rfl, rfl⟩

set_option maxRecDepth 100000 in
set_option maxHeartbeats 3200000 in
theorem ok_FnWriteEscapingTabsMatchesModel (w : World) (Al : Option Addr) (nl cl : Nat) (l : List UInt8) (hs : SrcB w Al nl l) (hA : Al = none → nl = 0 ∧ cl = 0) (hn : nl ≤ 1048576) :
    Calls Tryd.prog 3 #[.slice Al nl cl] w fun e w' => e = .returned (.bool true) ∧ Kept [] w w' := by
  have q1 : ∀ (w : World) (a : Option Addr) (n c n' c' : Nat), (binOp .neq 22 (.slice a n c) (.slice none n' c')).run Tryd.prog w = .ok (.bool (!a.isNone)) w := fun w a n c n' c' => run_neq_slice_nil_any w _ _ a n c n' c' u8_und
  rcases Al with _ | ad
  · obtain ⟨rfl, rfl⟩ := hA rfl
    obtain rfl : l = [] := List.eq_nil_of_length_eq_zero hs.1
    have HLO := Lib.hid (show SrcB w none 0 [] ∧ ((none : Option Addr) = none ∧ 0 = 0 ∧ 0 = 0) from ⟨hs, rfl, rfl, rfl⟩)
    clear hs hA
    go_enter Tryd.func3, Tryd.ntmps3
    go_wp2_with (go_at_call 11; refine (yes_FnWriteEscapingTabsMatchesModel _ _ _ _ (by omega)).mono ?_; rintro e w' ⟨rfl, rfl⟩)
    refine (newind w 0).mono ?_
    rintro e w1 ⟨rfl, h1⟩
    have H1 := Lib.hid h1; clear h1
    go_wp2_with fail
    refine (zwesc H1.out none 0 0 [] HLO.out.1 (by simp) (by have : is0.out.length = 0 := rfl; omega)).mono ?_
    rintro e w2 ⟨rfl, h2⟩
    have hel := escF_len []
    have H2 := Lib.hid h2; clear h2
    have hln : (escF []).1.length ≤ 10000000 := by have := (HLO.out.1).1; omega
    have HEL := Lib.hid hln
    clear hel hln
    go_wp2_with fail
    refine (H2.out.flush (by show ([] ++ (escF []).1).length ≤ _; rw [List.nil_append]; have := HEL.out; omega)).mono ?_
    rintro e w3 ⟨rfl, h3⟩
    have H3 := Lib.hid h3; clear h3
    go_wp2_with fail
    refine H3.out.bytes.mono ?_
    rintro e w4 ⟨A4, c4, rfl, hs4, _, _, hk4⟩
    have hs4 : SrcB w4 A4 (escF []).1.length (escF []).1 := hs4
    rw [show ({ is0 with out := is0.out ++ (escF []).1 } : Is).out = (escF []).1 from rfl]
    have HS4 := Lib.hid hs4; have HK4 := Lib.hid hk4; clear hs4 hk4
    have hkw := H3.out.inn.kept.trans HK4.out
    have hcon := mesc_of (c := 0) (SrcB.kept HLO.out.1 hkw (by simp)) (.inl ⟨rfl, rfl, rfl⟩) (by omega)
    have HCON := Lib.hid hcon; have HKW := Lib.hid hkw
    clear hcon hkw
    go_wp2_with fail
    refine HCON.out.mono ?_
    rintro e w6 ⟨B6, c6, rfl, hs6, hk6⟩
    have HC := Lib.hid (zeq w6 A4 B6 _ c4 c6 _ (HS4.out.kept hk6 (by simp)) hs6 (by have := HEL.out; omega))
    have HK6 := Lib.hid hk6
    clear hs6 hk6
    go_wp2_with fail
    refine HC.out.mono ?_
    rintro e w7 ⟨rfl, hk7⟩
    have HK7 := Lib.hid hk7; clear hk7
    go_wp2_with fail
    go_ret
    exact ⟨rfl, ((Kept.trans (Kept.refl _ _) HKW.out).trans HK6.out).trans HK7.out⟩
  · have HC0 := Lib.hid (zcopy w (some ad) nl cl l (by omega) hs)
    have HLL := Lib.hid hs.1
    clear hs hA
    go_enter Tryd.func3, Tryd.ntmps3
    go_wp2_with (go_at_call 11; refine (yes_FnWriteEscapingTabsMatchesModel _ _ _ _ (by omega)).mono ?_; rintro e w' ⟨rfl, rfl⟩)
    refine HC0.out.mono ?_
    rintro e w0 ⟨rfl, hb0, hk0⟩
    have HB0 := Lib.hid hb0; have HK0 := Lib.hid hk0
    have HS0 := Lib.hid (SrcB.row hb0 HLL.out)
    clear hb0 hk0 HC0
    go_wp2_with fail
    refine (newind w0 0).mono ?_
    rintro e w1 ⟨rfl, h1⟩
    have H1 := Lib.hid h1; clear h1
    go_wp2_with fail
    refine (zwesc H1.out (some ⟨w.heap.size, 0, none⟩) nl nl l HS0.out (by intro a ha; cases ha; exact heap_lt HB0.out) (by have : is0.out.length = 0 := rfl; omega)).mono ?_
    rintro e w2 ⟨rfl, h2⟩
    have hel := escF_len l
    have H2 := Lib.hid h2; clear h2
    have hln : (escF l).1.length ≤ 10000000 := by have := (HS0.out).1; omega
    have HEL := Lib.hid hln
    clear hel hln
    go_wp2_with fail
    refine (H2.out.flush (by show ([] ++ (escF l).1).length ≤ _; rw [List.nil_append]; have := HEL.out; omega)).mono ?_
    rintro e w3 ⟨rfl, h3⟩
    have H3 := Lib.hid h3; clear h3
    go_wp2_with fail
    refine H3.out.bytes.mono ?_
    rintro e w4 ⟨A4, c4, rfl, hs4, _, _, hk4⟩
    have hs4 : SrcB w4 A4 (escF l).1.length (escF l).1 := hs4
    rw [show ({ is0 with out := is0.out ++ (escF l).1 } : Is).out = (escF l).1 from rfl]
    have HS4 := Lib.hid hs4; have HK4 := Lib.hid hk4; clear hs4 hk4
    have hkw := H3.out.inn.kept.trans HK4.out
    have hcon := mesc_of (c := nl) (SrcB.kept HS0.out hkw (by simp)) (.inr ⟨_, _, rfl⟩) (by omega)
    have HCON := Lib.hid hcon; have HKW := Lib.hid hkw
    clear hcon hkw
    go_wp2_with fail
    refine HCON.out.mono ?_
    rintro e w6 ⟨B6, c6, rfl, hs6, hk6⟩
    have HC := Lib.hid (zeq w6 A4 B6 _ c4 c6 _ (HS4.out.kept hk6 (by simp)) hs6 (by have := HEL.out; omega))
    have HK6 := Lib.hid hk6
    clear hs6 hk6
    go_wp2_with fail
    refine HC.out.mono ?_
    rintro e w7 ⟨rfl, hk7⟩
    have HK7 := Lib.hid hk7; clear hk7
    go_wp2_with fail
    go_ret
    exact ⟨rfl, ((Kept.trans HK0.out HKW.out).trans HK6.out).trans HK7.out⟩
end Go.Proofs.YtekgjhediaffbaaDoor
