/-
  n010_39: FnColWriteByteExact, walked.
-/
import Derived.Test.YtegeodimjjhceaaDoorKcol
namespace Go.Proofs.YtegeodimjjhceaaDoor
open Go.RowKit

set_option maxRecDepth 100000 in
theorem yes_FnColWriteByteExact (w : World) (col : Int) (ls : Bool) (Al : Option Addr) (nl cl : Nat) (h : nl ≤ 1048576) :
    Calls Tryd.prog 4 #[.int .i64 col, .bool ls, .slice Al nl cl] w fun e w' => e = .returned (.bool true) ∧ w = w' := by
  go_enter Tryd.func4, Tryd.ntmps4
  go_wp2
  go_ret
  exact ⟨rfl, rfl⟩
set_option maxRecDepth 100000 in
theorem no_FnColWriteByteExact (w : World) (col : Int) (ls : Bool) (Al : Option Addr) (nl cl : Nat) (h : 1048576 < nl) (hm0 : nl ≤ 9223372036854775807) :
    Calls Tryd.prog 4 #[.int .i64 col, .bool ls, .slice Al nl cl] w fun e w' => e = .returned (.bool false) ∧ w = w' := by
  go_enter Tryd.func4, Tryd.ntmps4
  go_wp2
  all_goals (
    go_ret
    exact ⟨rfl, rfl⟩)
set_option maxRecDepth 100000 in
set_option maxHeartbeats 1600000 in
theorem skip_FnColWriteByteExact (w : World) (col : Int) (ls : Bool) (Al : Option Addr) (nl cl : Nat) (h : ¬ (nl ≤ 1048576 ∧ -1073741824 ≤ col ∧ col ≤ 1073741824)) (hm0 : nl ≤ 9223372036854775807) :
    Calls Tryd.prog 3 #[.int .i64 col, .bool ls, .slice Al nl cl] w fun e w' => e = .returned (.bool true) ∧ w = w' := by
  by_cases h3 : nl ≤ 1048576
  · have h4 : col < -1073741824 ∨ 1073741824 < col := by omega
    clear h
    rcases h4 with h4 | h4
    all_goals (
      go_enter Tryd.func3, Tryd.ntmps3
      go_wp2_with (go_at_call 4; refine (yes_FnColWriteByteExact _ _ _ _ _ _ h3).mono ?_; rintro e w' ⟨rfl, rfl⟩)
      all_goals (
        go_ret
        exact ⟨rfl, rfl⟩))
  · clear h
    go_enter Tryd.func3, Tryd.ntmps3
    go_wp2_with (go_at_call 4; refine (no_FnColWriteByteExact _ _ _ _ _ _ (by omega) hm0).mono ?_; rintro e w' ⟨rfl, rfl⟩)
    go_ret
    exact ⟨rfl, rfl⟩

set_option maxRecDepth 100000 in
set_option maxHeartbeats 3200000 in
theorem ok_FnColWriteByteExact (w : World) (col : Int) (ls : Bool) (Al : Option Addr) (nl cl : Nat) (l : List UInt8) (hs : SrcB w Al nl l) (hA : Al = none → nl = 0 ∧ cl = 0) (hn : nl ≤ 1048576) (hc1 : -1073741824 ≤ col) (hc2 : col ≤ 1073741824) :
    Calls Tryd.prog 3 #[.int .i64 col, .bool ls, .slice Al nl cl] w fun e w' => e = .returned (.bool true) ∧ Kept [] w w' := by
  have HCL := Lib.hid (clone2 w Al nl cl l (by omega) hA hs)
  have HLL := Lib.hid hs.1
  clear hs hA
  go_enter Tryd.func3, Tryd.ntmps3
  go_wp2_with (go_at_call 4; refine (yes_FnColWriteByteExact _ _ _ _ _ _ (by omega)).mono ?_; rintro e w' ⟨rfl, rfl⟩)
  refine HCL.out.mono ?_
  rintro e w1 ⟨A1, rfl, hs1, hk1, ha1⟩
  have HS1 := Lib.hid hs1; have HK1 := Lib.hid hk1
  clear hs1 hk1 ha1 HCL
  go_wp2_with fail
  have hbn := heap_alloc_new w1 (.cells [Value.slice none 0 0].toArray TK)
  refine (znew _ w1.heap.size hbn w1 ((Kept.refl _ _).alloc _) (Nat.le_refl _) col ls).mono ?_
  rintro e w2 ⟨rfl, h2⟩
  have hst : Hid (Cn w1 w2 (w1.heap.size + 1 + 2) (w1.heap.size + 1 + 1) (w1.heap.size + 1) w1.heap.size (foldC col ls (l.take 0)).1 (foldC col ls (l.take 0)).2 (l.take 0)) := Lib.hid (by simpa [foldC] using h2)
  rw [show (w1.alloc (.cells [Value.slice none 0 0].toArray TK)).heap.size = w1.heap.size + 1 by simp]
  clear h2 hbn
  generalize hcb : w1.heap.size + 1 + 2 = cb at *
  generalize hwb : w1.heap.size + 1 + 1 = wb at *
  generalize hrb : w1.heap.size + 1 = rb at *
  clear hcb hwb hrb
  go_wp2_with fail
  go_loopw [9] (fun s9 wr => ∃ k : Nat, k ≤ nl ∧ s9 = .int .i64 k ∧ Hid (Cn w1 wr cb wb rb w1.heap.size (foldC col ls (l.take k)).1 (foldC col ls (l.take k)).2 (l.take k))) (fun s9 _ => nl - (intOf s9).toNat)
  case atStart => exact ⟨0, Nat.zero_le _, rfl, hst⟩
  case round =>
    clear hst
    obtain ⟨k, hk, rfl, hrel⟩ := hrel
    by_cases hlt : k < nl
    · obtain ⟨x, hx⟩ : ∃ x, l[k]? = some x := ⟨l[k]'(by have := HLL.out; omega), List.getElem?_eq_getElem _⟩
      obtain ⟨g, o, hA1, hg, hcc⟩ := HS1.out.2 (by omega)
      subst hA1
      have hcs : wr.cell? ⟨g, o + k, none⟩ = some (.int .u8 x.toNat) := (hrel.out.kept.cell (p := ⟨g, o + k, none⟩) hg (by simp)).trans (hcc k x hx)
      have hbd := foldC_bd (l.take k) col ls hc1
      have hbl : (l.take k).length ≤ k := by simp; omega
      have hcon := zcolbyte hrel.out x (by omega) (by omega) (by omega)
      rw [show stepC ((foldC col ls (l.take k)).1, (foldC col ls (l.take k)).2) x = foldC col ls (l.take (k + 1)) by rw [take_snoc hx, foldC_snoc], ← take_snoc hx] at hcon
      have HC := Lib.hid hcon
      clear hcon hrel hcc hx hbd hbl
      go_wp2_with fail
      refine HC.out.mono ?_
      rintro e w3 ⟨rfl, h3⟩
      have H3 := Lib.hid h3; clear h3
      go_wp2_with fail
      go_roundw
      case rel => exact ⟨k + 1, by omega, by go_num, H3⟩
      case measure => simp [intOf]; omega
    · have hkn : k = nl := by omega
      subst hkn
      have hR := hrel.out
      rw [List.take_of_length_le (by have := HLL.out; omega)] at hR
      have HC := Lib.hid (zflush hR (by have := HLL.out; omega))
      clear hR hrel
      go_wp2_with fail
      refine HC.out.mono ?_
      rintro e w3 ⟨rfl, ⟨row3, hb3⟩, hc3, hl3, hcb3, hk3⟩
      have HM := Lib.hid (model w3 A1 k k l (HS1.out.kept hk3 (by simp)) (by omega) col ls hc1 hc2)
      obtain ⟨rc, hrc⟩ : ∃ r, r = (foldC col ls l).1 := ⟨_, rfl⟩
      obtain ⟨rl, hrl⟩ : ∃ r, r = (foldC col ls l).2 := ⟨_, rfl⟩
      rw [← hrc] at hc3 HM
      rw [← hrl] at hl3 HM
      obtain ⟨cv, hb4, ho4, _, _, _, _⟩ := hb3
      obtain ⟨Bv, cvc, rfl⟩ : ∃ A c, cv = .slice A l.length c := by
        rcases ho4.2 with ⟨h1, h2⟩ | ⟨g, cap, cur, h1, _⟩
        · exact ⟨none, 0, by rw [h1, h2]⟩
        · exact ⟨_, cap, h1⟩
      have c0 : w3.cell? ⟨w1.heap.size, 0, none⟩ = some (.slice Bv l.length cvc) := row_cell hb4 0
      rw [HLL.out] at c0 ho4
      have hs4 := ho4.src.1
      have HQ := Lib.hid (zeq w3 Bv A1 k cvc k l hs4 (HS1.out.kept hk3 (by simp)) (by omega))
      have HK3 := Lib.hid hk3; have HC3 := Lib.hid hc3; have HL3 := Lib.hid hl3
      clear hb4 ho4 hs4 hk3 hc3 hl3 hrc hrl HC
      have g1 : (rc == rc) = true := by simp
      have g2 : (rl == rl) = true := by simp
      go_wp2_with fail
      refine HM.out.mono ?_
      rintro e w' ⟨rfl, rfl⟩
      go_wp2_with fail
      refine HQ.out.mono ?_
      rintro e w4 ⟨rfl, hk4⟩
      have d1 : w4.cell? ⟨cb, 1, none⟩ = some (.int .i64 rc) := (hk4.cell (p := ⟨cb, 1, none⟩) hcb3 (by simp)).trans HC3.out
      have d2 : w4.cell? ⟨cb, 2, none⟩ = some (.bool rl) := (hk4.cell (p := ⟨cb, 2, none⟩) hcb3 (by simp)).trans HL3.out
      have HK4 := Lib.hid hk4; clear hk4
      go_wp2_with fail
      refine (zcolC d1).mono ?_
      rintro e w' ⟨rfl, rfl⟩
      go_wp2_with fail
      refine (zcolL d2).mono ?_
      rintro e w' ⟨rfl, rfl⟩
      go_wp2_with fail
      go_ret
      exact ⟨rfl, (HK1.out.trans HK3.out).trans HK4.out⟩
end Go.Proofs.YtegeodimjjhceaaDoor
