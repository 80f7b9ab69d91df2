/-
  n010_120: FnWriteEscapingTabsEscapesEveryTab, walked.
-/
import Derived.Test.YtekgjhediaffbaaDoorInz
namespace Go.Proofs.YtekgjhediaffbaaDoor
open Go.RowKit

set_option maxRecDepth 100000 in
theorem yes_FnWriteEscapingTabsEscapesEveryTab (w : World) (Al : Option Addr) (nl cl : Nat) (h : nl ≤ 1048576) :
    Calls Tryd.prog 27 #[.slice Al nl cl] w fun e w' => e = .returned (.bool true) ∧ w = w' := by
  go_enter Tryd.func27, Tryd.ntmps27
  go_wp2
  go_ret
  exact ⟨rfl, rfl⟩
set_option maxRecDepth 100000 in
theorem no_FnWriteEscapingTabsEscapesEveryTab (w : World) (Al : Option Addr) (nl cl : Nat) (h : 1048576 < nl) (hm0 : nl ≤ 9223372036854775807) :
    Calls Tryd.prog 27 #[.slice Al nl cl] w fun e w' => e = .returned (.bool false) ∧ w = w' := by
  go_enter Tryd.func27, Tryd.ntmps27
  go_wp2
  all_goals (
    go_ret
    exact ⟨rfl, rfl⟩)
set_option maxRecDepth 100000 in
set_option maxHeartbeats 1600000 in
theorem skip_FnWriteEscapingTabsEscapesEveryTab (w : World) (Al : Option Addr) (nl cl : Nat) (h : ¬ (nl ≤ 1048576)) (hm0 : nl ≤ 9223372036854775807) :
    Calls Tryd.prog 7 #[.slice Al nl cl] w fun e w' => e = .returned (.bool true) ∧ w = w' := by
  by_cases h3 : nl ≤ 1048576
  · exact absurd h3 h
  · clear h
    go_enter Tryd.func7, Tryd.ntmps7
    go_wp2_with (go_at_call 27; refine (no_FnWriteEscapingTabsEscapesEveryTab _ _ _ _ (by omega) hm0).mono ?_; rintro e w' ⟨rfl, rfl⟩)
    go_ret
    exact ⟨rfl, rfl⟩

set_option maxRecDepth 100000 in
set_option maxHeartbeats 3200000 in
theorem ok_FnWriteEscapingTabsEscapesEveryTab (w : World) (Al : Option Addr) (nl cl : Nat) (l : List UInt8) (hs : SrcB w Al nl l) (hA : Al = none → nl = 0 ∧ cl = 0) (hn : nl ≤ 1048576) :
    Calls Tryd.prog 7 #[.slice Al nl cl] w fun e w' => e = .returned (.bool true) ∧ Kept [] w w' := by
  have q1 : ∀ (w : World) (a : Option Addr) (n c n' c' : Nat), (binOp .neq 22 (.slice a n c) (.slice none n' c')).run Tryd.prog w = .ok (.bool (!a.isNone)) w := fun w a n c n' c' => run_neq_slice_nil_any w _ _ a n c n' c' u8_und
  rcases Al with _ | ad
  · obtain ⟨rfl, rfl⟩ := hA rfl
    obtain rfl : l = [] := List.eq_nil_of_length_eq_zero hs.1
    have HLO := Lib.hid (show SrcB w none 0 [] ∧ ((none : Option Addr) = none ∧ 0 = 0 ∧ 0 = 0) from ⟨hs, rfl, rfl, rfl⟩)
    clear hs hA
    go_enter Tryd.func7, Tryd.ntmps7
    go_wp2_with (go_at_call 27; refine (yes_FnWriteEscapingTabsEscapesEveryTab _ _ _ _ (by omega)).mono ?_; rintro e w' ⟨rfl, rfl⟩)
    refine (newind w 0).mono ?_
    rintro e w1 ⟨rfl, h1⟩
    have H1 := Lib.hid h1; clear h1
    go_wp2_with fail
    refine (zwesc H1.out none 0 0 [] HLO.out.1 (by simp) (by have : is0.out.length = 0 := rfl; omega)).mono ?_
    rintro e w2 ⟨rfl, h2⟩
    have hel := escF_len []
    have H2 := Lib.hid h2; clear h2
    have hln : (escF []).1.length ≤ 10000000 := by have := (HLO.out.1).1; omega
    have HEL := Lib.hid hln
    clear hel hln
    go_wp2_with fail
    refine (H2.out.flush (by show ([] ++ (escF []).1).length ≤ _; rw [List.nil_append]; have := HEL.out; omega)).mono ?_
    rintro e w3 ⟨rfl, h3⟩
    have H3 := Lib.hid h3; clear h3
    go_wp2_with fail
    refine H3.out.bytes.mono ?_
    rintro e w4 ⟨A4, c4, rfl, hs4, _, _, hk4⟩
    have hs4 : SrcB w4 A4 (escF []).1.length (escF []).1 := hs4
    rw [show ({ is0 with out := is0.out ++ (escF []).1 } : Is).out = (escF []).1 from rfl]
    have HS4 := Lib.hid hs4; have HK4 := Lib.hid hk4; clear hs4 hk4
    have hshut := (esc_shut [] [].length (Nat.le_refl _)).1.2
    have hfil := (esc_shut [] [].length (Nat.le_refl _)).2
    rw [List.take_of_length_le (Nat.le_refl _)] at hshut hfil
    obtain ⟨O, hO⟩ : ∃ O, O = (escF []).1 := ⟨_, rfl⟩
    rw [← hO] at hshut hfil HS4 HEL ⊢
    have HSH := Lib.hid hshut; have HFI := Lib.hid hfil
    have hkw := H3.out.inn.kept.trans HK4.out
    have HKW := Lib.hid hkw
    obtain ⟨N, hN⟩ : ∃ N, N = O.length := ⟨_, rfl⟩
    rw [← hN] at HS4 HEL ⊢
    have hNb : N ≤ 10000000 := HEL.out
    clear hshut hfil hkw hO
    have HNE := Lib.hid hN; clear hN
    go_wp2_with fail
    have hst : Hid (Kept [] w4 w4) := Lib.hid (Kept.refl _ _)
    go_loopw [7, 8] (fun s7 s8 wr => ∃ (k : Nat) (b7 : Bool), k ≤ N ∧ s8 = .int .i64 k ∧ s7 = .bool b7 ∧ Hid (b7 = tog (O.take k)) ∧ Hid (Kept [] w4 wr)) (fun _ s8 _ => N - (intOf s8).toNat)
    case atStart => exact ⟨0, false, Nat.zero_le _, rfl, rfl, Lib.hid rfl, hst⟩
    case round =>
      clear hst
      obtain ⟨k, b7, hk, rfl, rfl, hb7, hrel⟩ := hrel
      by_cases hlt : k < N
      · obtain ⟨x, hx⟩ : ∃ x, O[k]? = some x := ⟨O[k]'(by have := HNE.out; omega), List.getElem?_eq_getElem _⟩
        obtain ⟨g, o, hA4, hg, hcc⟩ := HS4.out.2 (by omega)
        subst hA4
        have hcs : wr.cell? ⟨g, o + k, none⟩ = some (.int .u8 x.toNat) := (hrel.out.cell (p := ⟨g, o + k, none⟩) hg (by simp)).trans (hcc k x hx)
        have hxl := x.toNat_lt
        have htk := tog_take hx
        have hsh := HSH.out k
        rw [hx] at hsh
        have hB := hb7.out
        clear hcc hb7
        by_cases h255 : x.toNat = 255
        · rw [h255] at hcs
          have hN2 : (!b7) = tog (O.take (k + 1)) := by rw [htk, if_pos h255, hB]
          have HN2 := Lib.hid hN2
          clear hN2 htk hsh hB hx h255
          go_wp2_with fail
          go_roundw
          case rel => exact ⟨k + 1, !b7, by omega, by go_num, rfl, HN2, hrel⟩
          case measure => simp [intOf]; omega
        · have g1 : ((x.toNat : Int) == 255) = false := by simp; omega
          have hN2 : b7 = tog (O.take (k + 1)) := by rw [htk, if_neg h255, hB]
          have HN2 := Lib.hid hN2
          by_cases h9 : x.toNat = 9
          · have hbt : b7 = true := by rw [hB]; exact hsh (by rw [UInt8.toNat_inj.1 (show x.toNat = (9 : UInt8).toNat from h9)])
            subst hbt
            rw [h9] at hcs
            clear hN2 htk hsh hB hx h255 h9 g1
            go_wp2_with fail
            go_roundw
            case rel => exact ⟨k + 1, true, by omega, by go_num, rfl, HN2, hrel⟩
            case measure => simp [intOf]; omega
          · have g2 : ((x.toNat : Int) == 9) = false := by simp; omega
            clear hN2 htk hsh hB hx h255 h9
            go_wp2_with fail
            go_roundw
            case rel => exact ⟨k + 1, b7, by omega, by go_num, rfl, HN2, hrel⟩
            case measure => simp [intOf]; omega
      · have hc1 := zstrip wr A4 N c4 O (by omega) (HS4.out.kept hrel.out (by simp))
        have HC1 := Lib.hid hc1; clear hc1
        go_wp2_with fail
        refine HC1.out.mono ?_
        rintro e w5 ⟨B5, c5, rfl, hs5, hk5⟩
        rw [HFI.out] at hs5 ⊢
        have hk45 := (HKW.out.trans hrel.out).trans hk5
        have hc2 := zstrip w5 none 0 0 [] (by omega) (SrcB.kept HLO.out.1 hk45 (by simp))
        have HC2 := Lib.hid hc2; have HS5 := Lib.hid hs5; have HK45 := Lib.hid hk45
        clear hc2 hs5 hk5 hk45
        go_wp2_with fail
        refine HC2.out.mono ?_
        rintro e w6 ⟨B6, c6, rfl, hs6, hk6⟩
        have hfl : ([].filter notEsc).length ≤ 2000000 := by have := List.length_filter_le notEsc []; have := (HLO.out.1).1; omega
        have HC := Lib.hid (zeq w6 B5 B6 _ c5 c6 _ (HS5.out.kept hk6 (by simp)) hs6 (by omega))
        have HK6 := Lib.hid hk6
        clear hs6 hk6 hfl
        go_wp2_with fail
        refine HC.out.mono ?_
        rintro e w7 ⟨rfl, hk7⟩
        have HK7 := Lib.hid hk7; clear hk7
        go_wp2_with fail
        go_ret
        exact ⟨rfl, ((Kept.trans (Kept.refl _ _) HK45.out).trans HK6.out).trans HK7.out⟩
  · have HC0 := Lib.hid (zcopy w (some ad) nl cl l (by omega) hs)
    have HLL := Lib.hid hs.1
    clear hs hA
    go_enter Tryd.func7, Tryd.ntmps7
    go_wp2_with (go_at_call 27; refine (yes_FnWriteEscapingTabsEscapesEveryTab _ _ _ _ (by omega)).mono ?_; rintro e w' ⟨rfl, rfl⟩)
    refine HC0.out.mono ?_
    rintro e w0 ⟨rfl, hb0, hk0⟩
    have HB0 := Lib.hid hb0; have HK0 := Lib.hid hk0
    have HS0 := Lib.hid (SrcB.row hb0 HLL.out)
    clear hb0 hk0 HC0
    go_wp2_with fail
    refine (newind w0 0).mono ?_
    rintro e w1 ⟨rfl, h1⟩
    have H1 := Lib.hid h1; clear h1
    go_wp2_with fail
    refine (zwesc H1.out (some ⟨w.heap.size, 0, none⟩) nl nl l HS0.out (by intro a ha; cases ha; exact heap_lt HB0.out) (by have : is0.out.length = 0 := rfl; omega)).mono ?_
    rintro e w2 ⟨rfl, h2⟩
    have hel := escF_len l
    have H2 := Lib.hid h2; clear h2
    have hln : (escF l).1.length ≤ 10000000 := by have := (HS0.out).1; omega
    have HEL := Lib.hid hln
    clear hel hln
    go_wp2_with fail
    refine (H2.out.flush (by show ([] ++ (escF l).1).length ≤ _; rw [List.nil_append]; have := HEL.out; omega)).mono ?_
    rintro e w3 ⟨rfl, h3⟩
    have H3 := Lib.hid h3; clear h3
    go_wp2_with fail
    refine H3.out.bytes.mono ?_
    rintro e w4 ⟨A4, c4, rfl, hs4, _, _, hk4⟩
    have hs4 : SrcB w4 A4 (escF l).1.length (escF l).1 := hs4
    rw [show ({ is0 with out := is0.out ++ (escF l).1 } : Is).out = (escF l).1 from rfl]
    have HS4 := Lib.hid hs4; have HK4 := Lib.hid hk4; clear hs4 hk4
    have hshut := (esc_shut l l.length (Nat.le_refl _)).1.2
    have hfil := (esc_shut l l.length (Nat.le_refl _)).2
    rw [List.take_of_length_le (Nat.le_refl _)] at hshut hfil
    obtain ⟨O, hO⟩ : ∃ O, O = (escF l).1 := ⟨_, rfl⟩
    rw [← hO] at hshut hfil HS4 HEL ⊢
    have HSH := Lib.hid hshut; have HFI := Lib.hid hfil
    have hkw := H3.out.inn.kept.trans HK4.out
    have HKW := Lib.hid hkw
    obtain ⟨N, hN⟩ : ∃ N, N = O.length := ⟨_, rfl⟩
    rw [← hN] at HS4 HEL ⊢
    have hNb : N ≤ 10000000 := HEL.out
    clear hshut hfil hkw hO
    have HNE := Lib.hid hN; clear hN
    go_wp2_with fail
    have hst : Hid (Kept [] w4 w4) := Lib.hid (Kept.refl _ _)
    go_loopw [7, 8] (fun s7 s8 wr => ∃ (k : Nat) (b7 : Bool), k ≤ N ∧ s8 = .int .i64 k ∧ s7 = .bool b7 ∧ Hid (b7 = tog (O.take k)) ∧ Hid (Kept [] w4 wr)) (fun _ s8 _ => N - (intOf s8).toNat)
    case atStart => exact ⟨0, false, Nat.zero_le _, rfl, rfl, Lib.hid rfl, hst⟩
    case round =>
      clear hst
      obtain ⟨k, b7, hk, rfl, rfl, hb7, hrel⟩ := hrel
      by_cases hlt : k < N
      · obtain ⟨x, hx⟩ : ∃ x, O[k]? = some x := ⟨O[k]'(by have := HNE.out; omega), List.getElem?_eq_getElem _⟩
        obtain ⟨g, o, hA4, hg, hcc⟩ := HS4.out.2 (by omega)
        subst hA4
        have hcs : wr.cell? ⟨g, o + k, none⟩ = some (.int .u8 x.toNat) := (hrel.out.cell (p := ⟨g, o + k, none⟩) hg (by simp)).trans (hcc k x hx)
        have hxl := x.toNat_lt
        have htk := tog_take hx
        have hsh := HSH.out k
        rw [hx] at hsh
        have hB := hb7.out
        clear hcc hb7
        by_cases h255 : x.toNat = 255
        · rw [h255] at hcs
          have hN2 : (!b7) = tog (O.take (k + 1)) := by rw [htk, if_pos h255, hB]
          have HN2 := Lib.hid hN2
          clear hN2 htk hsh hB hx h255
          go_wp2_with fail
          go_roundw
          case rel => exact ⟨k + 1, !b7, by omega, by go_num, rfl, HN2, hrel⟩
          case measure => simp [intOf]; omega
        · have g1 : ((x.toNat : Int) == 255) = false := by simp; omega
          have hN2 : b7 = tog (O.take (k + 1)) := by rw [htk, if_neg h255, hB]
          have HN2 := Lib.hid hN2
          by_cases h9 : x.toNat = 9
          · have hbt : b7 = true := by rw [hB]; exact hsh (by rw [UInt8.toNat_inj.1 (show x.toNat = (9 : UInt8).toNat from h9)])
            subst hbt
            rw [h9] at hcs
            clear hN2 htk hsh hB hx h255 h9 g1
            go_wp2_with fail
            go_roundw
            case rel => exact ⟨k + 1, true, by omega, by go_num, rfl, HN2, hrel⟩
            case measure => simp [intOf]; omega
          · have g2 : ((x.toNat : Int) == 9) = false := by simp; omega
            clear hN2 htk hsh hB hx h255 h9
            go_wp2_with fail
            go_roundw
            case rel => exact ⟨k + 1, b7, by omega, by go_num, rfl, HN2, hrel⟩
            case measure => simp [intOf]; omega
      · have hc1 := zstrip wr A4 N c4 O (by omega) (HS4.out.kept hrel.out (by simp))
        have HC1 := Lib.hid hc1; clear hc1
        go_wp2_with fail
        refine HC1.out.mono ?_
        rintro e w5 ⟨B5, c5, rfl, hs5, hk5⟩
        rw [HFI.out] at hs5 ⊢
        have hk45 := (HKW.out.trans hrel.out).trans hk5
        have hc2 := zstrip w5 (some ⟨w.heap.size, 0, none⟩) nl nl l (by omega) (SrcB.kept HS0.out hk45 (by simp))
        have HC2 := Lib.hid hc2; have HS5 := Lib.hid hs5; have HK45 := Lib.hid hk45
        clear hc2 hs5 hk5 hk45
        go_wp2_with fail
        refine HC2.out.mono ?_
        rintro e w6 ⟨B6, c6, rfl, hs6, hk6⟩
        have hfl : (l.filter notEsc).length ≤ 2000000 := by have := List.length_filter_le notEsc l; have := (HS0.out).1; omega
        have HC := Lib.hid (zeq w6 B5 B6 _ c5 c6 _ (HS5.out.kept hk6 (by simp)) hs6 (by omega))
        have HK6 := Lib.hid hk6
        clear hs6 hk6 hfl
        go_wp2_with fail
        refine HC.out.mono ?_
        rintro e w7 ⟨rfl, hk7⟩
        have HK7 := Lib.hid hk7; clear hk7
        go_wp2_with fail
        go_ret
        exact ⟨rfl, ((Kept.trans HK0.out HK45.out).trans HK6.out).trans HK7.out⟩
end Go.Proofs.YtekgjhediaffbaaDoor
