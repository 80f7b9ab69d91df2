/-
  FnQuotedHdocWordMatchesLineScan: every input.
-/
import Derived.Test.YtnjaeooblfihbaaFmtVr
import Derived.Test.YtnjaeooblfihbaaFmtVn
namespace Go.Proofs.YtnjaeooblfihbaaFmt
open Go.RowKit

set_option maxRecDepth 100000 in
theorem zb_scan (w : World) (A1 A2 : Option Addr) (n c m d : Nat) (hn : n ≤ 9223372036854775807) (hm : m ≤ 9223372036854775807) :
    Calls Tryf.prog 6 #[.slice A1 n c, .slice A2 m d] w fun e w' => SayP (n + m ≤ 1048576) w w' e := by
  by_cases h1 : (1048576 : Int) < n
  · go_enter Tryf.func6, Tryf.ntmps6
    go_wp2
    go_ret
    exact SayP.no (Kept.refl _ _)
  by_cases h2 : (1048576 : Int) < m
  · go_enter Tryf.func6, Tryf.ntmps6
    go_wp2
    go_ret
    exact SayP.no (Kept.refl _ _)
  by_cases h3 : (1048576 : Int) < n + m
  · go_enter Tryf.func6, Tryf.ntmps6
    go_wp2
    go_ret
    exact SayP.no (Kept.refl _ _)
  · have hs := Lib.hid (show n + m ≤ 1048576 by omega)
    go_enter Tryf.func6, Tryf.ntmps6
    go_wp2
    go_ret
    exact SayP.yes (Kept.refl _ _) hs.out

theorem SrcB.keep {w w' : World} {A : Option Addr} {n : Nat} {l : List UInt8} (h : SrcB w A n l) (k : Kept [] w w') : SrcB w' A n l := ⟨h.1, fun h0 => by
  obtain ⟨g, o, e, hg, hc⟩ := h.2 h0
  exact ⟨g, o, e, Nat.lt_of_lt_of_le hg k.size, fun j x hj => (k.cell (p := ⟨g, o + j, none⟩) hg (by simp)).trans (hc j x hj)⟩⟩
theorem SrcB.take {w : World} {A : Option Addr} {n b : Nat} {l : List UInt8} (h : SrcB w A n l) (hb : b ≤ n) : SrcB w A b (l.take b) := ⟨by have := h.1; simp; omega, fun h0 => by
  obtain ⟨g, o, e, hg, hc⟩ := h.2 (by omega)
  exact ⟨g, o, e, hg, fun j x hj => by
    rw [List.getElem?_take] at hj
    split at hj
    · exact hc j x hj
    · cases hj⟩⟩

set_option maxRecDepth 100000 in
set_option maxHeartbeats 3200000 in
theorem law_FnQuotedHdocWordMatchesLineScan {w : World} {A1 A2 : Option Addr} {n c m d : Nat} {s stop : List UInt8} {ea : Addr} (h1 : SrcB w A1 n s) (h2 : SrcB w A2 m stop) (hA1 : A1 = none → n = 0 ∧ c = 0) (hn : n ≤ 9223372036854775807) (hm : m ≤ 9223372036854775807) (hg : w.cell? ⟨0, 0, none⟩ = some (EOFv ea)) (hT : Tabs w) :
    Calls Tryf.prog 3 #[.slice A1 n c, .slice A2 m d] w fun e w' => e = .returned (.bool true) ∧ Kept [] w w' := by
  have HZ := Lib.hid (zb_scan w A1 A2 n c m d hn hm)
  have H1 := Lib.hid h1; have H2 := Lib.hid h2; have HA1 := Lib.hid hA1; have HG := Lib.hid hg; have HT := Lib.hid hT
  clear h1 h2 hA1 hg hT hn hm
  by_cases hnm : n + m ≤ 1048576
  · go_enter Tryf.func3, Tryf.ntmps3
    go_wp2_with (first
      | (go_at_call 6; refine HZ.out.mono ?_; rintro e w1 ⟨b, rfl, k1, hb⟩; have K1 := Lib.hid k1; clear k1 hb; cases b)
      | (go_at_call 7; refine (zlexable (H1.out.keep K1.out) (by omega)).mono ?_; rintro e w2 ⟨b, rfl, k2, hb⟩; have K2 := Lib.hid (K1.out.trans k2); have HX := Lib.hid hb; clear k2 hb; cases b)
      | (go_at_call 8; refine (zstop (H2.out.keep K2.out)).mono ?_; rintro e w3 ⟨b, rfl, k3, hb⟩; have K3 := Lib.hid (K2.out.trans k3); have HO := Lib.hid hb; clear k3 hb; cases b)
      | (go_at_call 9; refine (zclone (H1.out.keep K3.out) (by omega) HA1.out).mono ?_; rintro e w4 ⟨A', rfl, hs4, k4⟩; have S4 := Lib.hid hs4; have K4 := Lib.hid (K3.out.trans k4); clear hs4 k4)
      | (go_at_call 10; refine (nnclone (H2.out.keep K4.out) (by omega)).mono ?_; rintro e w5 ⟨rfl, hr5, k5⟩; have R5 := Lib.hid hr5; have K45 := Lib.hid k5; have K5 := Lib.hid (K4.out.trans k5); clear hr5 k5)
      | fail)
    all_goals first
      | (go_ret; exact ⟨rfl, by first | exact K3.out | exact K2.out | exact K1.out⟩)
      | skip
    have hmm := H2.out.1
    subst hmm
    have hvd := HX.out (by simp)
    have hso := HO.out (by simp)
    have S5 := Lib.hid (S4.out.keep K45.out)
    have hb5 : ∀ j x, stop[j]? = some x → w5.cell? ⟨w4.heap.size, j, none⟩ = some (By x) := fun j x hj => by
      rw [row_cell R5.out, Bys, List.getElem?_map, hj]; rfl
    have hgl : 0 < w.heap.size := block_lt_of_cell HG.out
    have HQ := Lib.hid (zz_qh (d := stop.length) S5.out (by omega) (Nat.le_refl _) hb5 (heap_lt R5.out) ((K5.out.cell (p := ⟨0, 0, none⟩) hgl (by simp)).trans HG.out) (HT.out.kept K5.out (by simp)) hvd.1 hvd.2 hso)
    have R6 := Lib.hid (SrcB.row R5.out rfl)
    have h20 : n ≤ 10000000 := by omega
    have h21 : stop.length ≤ 10000000 := by omega
    have h22 : n ≤ 9223372036854775807 := by omega
    clear hvd hso hb5 HX HO
    go_wp2_with (first
      | (go_at_call 11; refine HQ.out.mono ?_; rintro e w6 ⟨k6, ⟨b, hf, rfl⟩ | ⟨hno, rfl⟩⟩; rcases Nat.eq_zero_or_pos b with hb0 | hb0; subst hb0; rotate_left; (rw [show decide (0 < b) = true from decide_eq_true hb0, show (if 0 < b then s.take b else []) = s.take b from if_pos hb0]); rotate_right)
      | fail)
    · have HF := Lib.hid hf; have K6 := Lib.hid k6
      clear hf k6
      have HM := Lib.hid (zmodel (d := stop.length) (S5.out.keep K6.out) (R6.out.keep K6.out) h20 h21 (Nat.le_refl n) h22)
      go_wp2_with (go_at_call 12; refine HM.out.mono ?_; rintro e w7 ⟨k7, hcase⟩; obtain ⟨b2, hf2, rfl⟩ : ∃ b : Nat, First s stop b ∧ e = .returned (.tuple #[.bool (decide (0 < b)), .int .i64 b, .bool true]) := hcase.elim id (fun h => absurd HF.out.1 (h.1 0)); obtain rfl := first_one HF.out hf2; have K7 := Lib.hid k7; clear k7 hcase hf2)
      go_ret
      exact ⟨rfl, (K5.out.trans K6.out).trans K7.out⟩
    · have HF := Lib.hid hf; have K6 := Lib.hid k6
      have hbn : b < n := by have := hf.1.1; rw [S5.out.1] at this; exact this
      clear hf k6
      have HM := Lib.hid (zmodel (d := stop.length) (S5.out.keep K6.out) (R6.out.keep K6.out) h20 h21 (Nat.le_refl n) h22)
      have hbn2 : (b : Int) ≤ n := by omega
      have hd : decide (0 < b) = true := decide_eq_true hb0
      have HCV := Lib.hid (fun (W : World) (kW : Kept [] w5 W) => (conv_src (c := n) ((S5.out.keep kW).take (by omega : b ≤ n))))
      go_wp2_with (go_at_call 12; refine HM.out.mono ?_; rintro e w7 ⟨k7, hcase⟩; obtain ⟨b2, hf2, rfl⟩ : ∃ b : Nat, First s stop b ∧ e = .returned (.tuple #[.bool (decide (0 < b)), .int .i64 b, .bool true]) := hcase.elim id (fun h => absurd HF.out.1 (h.1 b)); obtain rfl := first_one HF.out hf2; rw [hd]; have K7 := Lib.hid k7; have hcv := HCV.out _ (K6.out.trans k7); have hcvd := (fun n => HCV.out (w7.drewN n) ((K6.out.trans k7).drewN n)); clear k7 hcase hf2)
      go_ret
      exact ⟨rfl, (K5.out.trans K6.out).trans K7.out⟩
    · have HNO := Lib.hid hno; have K6 := Lib.hid k6
      clear hno k6
      have HM := Lib.hid (zmodel (d := stop.length) (S5.out.keep K6.out) (R6.out.keep K6.out) h20 h21 (Nat.le_refl n) h22)
      go_wp2_with (go_at_call 12; refine HM.out.mono ?_; rintro e w7 ⟨k7, hcase⟩; obtain rfl : e = .returned (.tuple #[.bool false, .int .i64 0, .bool false]) := hcase.elim (fun h => absurd h.choose_spec.1.1 (HNO.out _)) (fun h => h.2); have K7 := Lib.hid k7; clear k7 hcase)
      go_ret
      exact ⟨rfl, (K5.out.trans K6.out).trans K7.out⟩
  · go_enter Tryf.func3, Tryf.ntmps3
    go_wp2_with (go_at_call 6; refine HZ.out.mono ?_; rintro e w1 ⟨b, rfl, k1, hb⟩; have K1 := Lib.hid k1; have hbf : b = false := (by cases b; rfl; exact absurd (hb rfl) hnm); subst hbf; clear k1 hb)
    go_ret
    exact ⟨rfl, K1.out⟩
end Go.Proofs.YtnjaeooblfihbaaFmt
