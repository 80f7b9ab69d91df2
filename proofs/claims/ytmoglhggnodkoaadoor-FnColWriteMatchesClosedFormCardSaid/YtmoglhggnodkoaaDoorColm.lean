/-
  n010_113's model functions, walked, and the closed form: the column and the flag after a write.
-/
import Derived.Test.YtmoglhggnodkoaaDoorColw
namespace Go.Proofs.YtmoglhggnodkoaaDoor
open Go.RowKit

def blankB (x : UInt8) : Bool := x.toNat == 9 || x.toNat == 32 || x.toNat == 255
/-- k is the place of the last newline of l, or -1. -/
def LastNl (l : List UInt8) (k : Int) : Prop := (k = -1 ∧ ∀ x ∈ l, x.toNat ≠ 10) ∨ ∃ j : Nat, k = j ∧ (∃ x, l[j]? = some x ∧ x.toNat = 10) ∧ ∀ x ∈ l.drop (j + 1), x.toNat ≠ 10

theorem foldC_plain (l : List UInt8) : ∀ (c : Int) (ls : Bool), (∀ x ∈ l, x.toNat ≠ 10) → foldC c ls l = (c + l.length, ls && l.all blankB) := by
  induction l with
  | nil => intro c ls _; simp [foldC]
  | cons x l ih =>
    intro c ls h
    have e : foldC c ls (x :: l) = foldC (stepC (c, ls) x).1 (stepC (c, ls) x).2 l := by simp [foldC]
    have hx : x.toNat ≠ 10 := h x (by simp)
    have e2 : stepC (c, ls) x = (c + 1, ls && blankB x) := by simp [stepC, blankB, hx]
    rw [e, e2, ih _ _ (fun y hy => h y (by simp [hy]))]
    simp only [List.length_cons, List.all_cons, Bool.and_assoc]
    congr 1
    omega
theorem foldC_nl (l : List UInt8) (c : Int) (ls : Bool) (j : Nat) (x : UInt8) (hx : l[j]? = some x) (h10 : x.toNat = 10) : foldC c ls (l.take (j + 1)) = (1, true) := by
  rw [take_snoc hx, foldC_snoc]
  simp [stepC, h10]
/-- THE CLOSED FORM. -/
theorem foldC_closed (l : List UInt8) (c : Int) (ls : Bool) (k : Int) (h : LastNl l k) :
    foldC c ls l = ((if 0 ≤ k then (l.length : Int) - k else c + l.length), (ls || decide (0 ≤ k)) && (l.drop (k + 1).toNat).all blankB) := by
  rcases h with ⟨rfl, h⟩ | ⟨j, rfl, ⟨x, hx, h10⟩, h⟩
  · rw [foldC_plain l c ls h]; simp
  · have hlt : j < l.length := (List.getElem?_eq_some_iff.1 hx).1
    have e : l = l.take (j + 1) ++ l.drop (j + 1) := (List.take_append_drop _ _).symm
    have e1 : ((j : Int) + 1).toNat = j + 1 := by omega
    rw [e1]
    conv => lhs; rw [e]
    rw [foldC_app, foldC_nl l c ls j x hx h10, foldC_plain _ _ _ h]
    simp
    omega

set_option maxRecDepth 100000 in
theorem lastnl (w : World) (A : Option Addr) (n c : Nat) (l : List UInt8) (hs : SrcB w A n l) (hn : n ≤ 1000000000) :
    Calls Tryd.prog 27 #[.slice A n c] w fun e w' => (∃ k : Int, e = .returned (.int .i64 k) ∧ LastNl l k ∧ -1 ≤ k ∧ k < n) ∧ w' = w := by
  have HS := Lib.hid hs; clear hs
  go_enter Tryd.func27, Tryd.ntmps27
  go_wp2_with fail
  have hw0 : Hid (w = w) := rfl
  go_loopw [3] (fun i wr => ∃ k : Nat, k ≤ n ∧ i = .int .i64 ((k : Int) - 1) ∧ Hid (wr = w) ∧ Hid (∀ x ∈ l.drop k, x.toNat ≠ 10)) (fun i _ => (intOf i + 1).toNat)
  case atStart => exact ⟨n, Nat.le_refl _, rfl, hw0, by show ∀ x ∈ l.drop n, _; rw [List.drop_of_length_le (by have := HS.out.1; omega)]; simp⟩
  case round =>
    obtain ⟨k, hk, rfl, hwr, hrel⟩ := hrel
    by_cases h0 : 0 < k
    · obtain ⟨x, hx⟩ : ∃ x, l[k - 1]? = some x := ⟨l[k - 1]'(by have := HS.out.1; omega), List.getElem?_eq_getElem _⟩
      obtain ⟨g, o, hA, hgl, hcc⟩ := HS.out.2 (by omega)
      subst hA
      have hcs : wr.cell? ⟨g, o + (k - 1), none⟩ = some (.int .u8 x.toNat) := by rw [hwr.out]; exact hcc _ x hx
      have e1 : ((k : Int) - 1).toNat = k - 1 := by omega
      have e2 : (0 : Int) ≤ (k : Int) - 1 := by omega
      have e3 : (k : Int) - 1 < n := by omega
      by_cases h10 : x.toNat = 10
      · have HX := Lib.hid hx; have H10 := Lib.hid h10; have HCC := Lib.hid hcc
        rw [h10] at hcs
        clear hx h10 hcc
        go_wp2_with fail
        go_ret
        refine ⟨⟨_, rfl, .inr ⟨k - 1, by omega, ⟨x, HX.out, H10.out⟩, ?_⟩, by omega, by omega⟩, hwr.out⟩
        rw [show k - 1 + 1 = k by omega]
        exact hrel.out
      · have HX := Lib.hid hx; have H10 := Lib.hid h10; have HCC := Lib.hid hcc
        have g1 : ((x.toNat : Int) == 10) = false := by simp; omega
        clear hx h10 hcc
        go_wp2_with fail
        go_roundw
        case rel =>
          refine ⟨k - 1, by omega, by congr 1; omega, hwr, ?_⟩
          intro y hy
          have hlt : k - 1 < l.length := (List.getElem?_eq_some_iff.1 HX.out).1
          rw [List.drop_eq_getElem_cons hlt, show k - 1 + 1 = k by omega] at hy
          rcases List.mem_cons.1 hy with e | e
          · rw [e, (List.getElem?_eq_some_iff.1 HX.out).2]; exact H10.out
          · exact hrel.out y e
        case measure => simp [intOf]; omega
    · have hk0 : k = 0 := by omega
      subst hk0
      go_wp2_with fail
      go_ret
      exact ⟨⟨-1, rfl, .inl ⟨rfl, by simpa using hrel.out⟩, by omega, by omega⟩, hwr.out⟩

set_option maxRecDepth 100000 in
theorem isblank (w : World) (x : UInt8) : Calls Tryd.prog 28 #[.int .u8 x.toNat] w fun e w' => e = .returned (.bool (blankB x)) ∧ w = w' := by
  have hx := x.toNat_lt
  by_cases hbl : x.toNat = 9 ∨ x.toNat = 32 ∨ x.toNat = 255
  · have e : blankB x = true := by unfold blankB; rcases hbl with h | h | h <;> simp [h]
    rw [e]
    rcases hbl with h | h | h <;> rw [h] <;> clear e h
    all_goals (
      go_enter Tryd.func28, Tryd.ntmps28
      go_wp2
      go_ret
      exact ⟨rfl, rfl⟩)
  · have e : blankB x = false := by unfold blankB; simp; omega
    rw [e]
    have g2 : ((x.toNat : Int) == 9) = false := by simp; omega
    have g3 : ((x.toNat : Int) == 32) = false := by simp; omega
    have g4 : ((x.toNat : Int) == 255) = false := by simp; omega
    clear e hbl
    go_enter Tryd.func28, Tryd.ntmps28
    go_wp2
    go_ret
    exact ⟨rfl, rfl⟩

set_option maxRecDepth 100000 in
set_option maxHeartbeats 800000 in
theorem modelcols (w : World) (A : Option Addr) (n c : Nat) (l : List UInt8) (hs : SrcB w A n l) (hn : n ≤ 1000000000) (col : Int) (ls : Bool) (hc1 : 0 ≤ col) (hc2 : col ≤ 1000000000000) :
    Calls Tryd.prog 12 #[.int .i64 col, .bool ls, .slice A n c] w fun e w' => e = .returned (.tuple #[.int .i64 (foldC col ls l).1, .bool (foldC col ls l).2]) ∧ w = w' := by
  have HS := Lib.hid hs
  have HC := Lib.hid (lastnl w A n c l hs hn); clear hs
  go_enter Tryd.func12, Tryd.ntmps12
  go_wp2_with fail
  refine HC.out.mono ?_
  rintro e w' ⟨⟨k, rfl, hl, hk1, hk2⟩, rfl⟩
  have HL := Lib.hid hl
  clear hl HC
  obtain ⟨m, hm⟩ : ∃ m : Nat, (m : Int) = k + 1 := ⟨(k + 1).toNat, by omega⟩
  have hmn : m ≤ n := by omega
  have hfin : ∀ b2 : Bool, b2 = ((ls || decide (0 ≤ k)) && (l.drop m).all blankB) → foldC col ls l = ((if 0 ≤ k then (n : Int) - k else col + n), b2) := fun b2 hb => by
    rw [foldC_closed l col ls k HL.out, hb, HS.out.1, show (k + 1).toNat = m by omega]
  have HF := Lib.hid hfin
  have HM := Lib.hid hm
  clear hfin
  clear hm
  by_cases h0 : 0 ≤ k
  · cases ls with
    | true =>
      go_wp2_with fail
      go_loopw [10, 11] (fun s10 s11 wr => ∃ i : Nat, m ≤ i ∧ i ≤ n ∧ s11 = .int .i64 i ∧ s10 = .bool (true && ((l.drop m).take (i - m)).all blankB) ∧ Hid (wr = w')) (fun _ i _ => n - (intOf i).toNat)
      case atStart => exact ⟨m, Nat.le_refl _, hmn, by rw [HM.out], by first | (simp; done) | (simp; omega), rfl⟩
      case round =>
        obtain ⟨i, hi1, hi2, rfl, rfl, hwr⟩ := hrel
        by_cases hlt : i < n
        · obtain ⟨x, hx⟩ : ∃ x, l[i]? = some x := ⟨l[i]'(by have := HS.out.1; omega), List.getElem?_eq_getElem _⟩
          obtain ⟨g, o, hA, hgl, hcc⟩ := HS.out.2 (by omega)
          subst hA
          have hcs : wr.cell? ⟨g, o + i, none⟩ = some (.int .u8 x.toNat) := by rw [hwr.out]; exact hcc _ x hx
          have hstep : ((l.drop m).take (i + 1 - m)).all blankB = (((l.drop m).take (i - m)).all blankB && blankB x) := by
            rw [show i + 1 - m = (i - m) + 1 by omega, List.take_add_one, List.getElem?_drop, show m + (i - m) = i by omega, hx]
            simp
          have HST := Lib.hid hstep; have HX := Lib.hid hx; have HCC := Lib.hid hcc
          clear hstep hx hcc
          go_wp2_with fail
          refine (isblank _ x).mono ?_
          rintro e w'' ⟨rfl, rfl⟩
          cases hbx : blankB x with
          | true =>
            go_wp2_with fail
            go_roundw
            case rel =>
              refine ⟨i + 1, by omega, by omega, by go_num, ?_, hwr⟩
              simp [HST.out, hbx]
            case measure => simp [intOf]; omega
          | false =>
            go_wp2_with fail
            go_roundw
            case rel =>
              refine ⟨i + 1, by omega, by omega, by go_num, ?_, hwr⟩
              simp [HST.out, hbx]
            case measure => simp [intOf]; omega
        · go_wp2_with fail
          go_ret2
          have hin : i = n := by omega
          have hall : (l.drop m).take (i - m) = l.drop m := List.take_of_length_le (by rw [List.length_drop, HS.out.1]; omega)
          rw [HF.out _ rfl]
          refine ⟨?_, hwr.out.symm⟩
          first | (simp [hall, h0]; done) | (simp [hall, h0]; omega)
    | false =>
      go_wp2_with fail
      go_loopw [10, 11] (fun s10 s11 wr => ∃ i : Nat, m ≤ i ∧ i ≤ n ∧ s11 = .int .i64 i ∧ s10 = .bool (true && ((l.drop m).take (i - m)).all blankB) ∧ Hid (wr = w')) (fun _ i _ => n - (intOf i).toNat)
      case atStart => exact ⟨m, Nat.le_refl _, hmn, by rw [HM.out], by first | (simp; done) | (simp; omega), rfl⟩
      case round =>
        obtain ⟨i, hi1, hi2, rfl, rfl, hwr⟩ := hrel
        by_cases hlt : i < n
        · obtain ⟨x, hx⟩ : ∃ x, l[i]? = some x := ⟨l[i]'(by have := HS.out.1; omega), List.getElem?_eq_getElem _⟩
          obtain ⟨g, o, hA, hgl, hcc⟩ := HS.out.2 (by omega)
          subst hA
          have hcs : wr.cell? ⟨g, o + i, none⟩ = some (.int .u8 x.toNat) := by rw [hwr.out]; exact hcc _ x hx
          have hstep : ((l.drop m).take (i + 1 - m)).all blankB = (((l.drop m).take (i - m)).all blankB && blankB x) := by
            rw [show i + 1 - m = (i - m) + 1 by omega, List.take_add_one, List.getElem?_drop, show m + (i - m) = i by omega, hx]
            simp
          have HST := Lib.hid hstep; have HX := Lib.hid hx; have HCC := Lib.hid hcc
          clear hstep hx hcc
          go_wp2_with fail
          refine (isblank _ x).mono ?_
          rintro e w'' ⟨rfl, rfl⟩
          cases hbx : blankB x with
          | true =>
            go_wp2_with fail
            go_roundw
            case rel =>
              refine ⟨i + 1, by omega, by omega, by go_num, ?_, hwr⟩
              simp [HST.out, hbx]
            case measure => simp [intOf]; omega
          | false =>
            go_wp2_with fail
            go_roundw
            case rel =>
              refine ⟨i + 1, by omega, by omega, by go_num, ?_, hwr⟩
              simp [HST.out, hbx]
            case measure => simp [intOf]; omega
        · go_wp2_with fail
          go_ret2
          have hin : i = n := by omega
          have hall : (l.drop m).take (i - m) = l.drop m := List.take_of_length_le (by rw [List.length_drop, HS.out.1]; omega)
          rw [HF.out _ rfl]
          refine ⟨?_, hwr.out.symm⟩
          first | (simp [hall, h0]; done) | (simp [hall, h0]; omega)
  · cases ls with
    | true =>
      go_wp2_with fail
      go_loopw [10, 11] (fun s10 s11 wr => ∃ i : Nat, m ≤ i ∧ i ≤ n ∧ s11 = .int .i64 i ∧ s10 = .bool (true && ((l.drop m).take (i - m)).all blankB) ∧ Hid (wr = w')) (fun _ i _ => n - (intOf i).toNat)
      case atStart => exact ⟨m, Nat.le_refl _, hmn, by rw [HM.out], by first | (simp; done) | (simp; omega), rfl⟩
      case round =>
        obtain ⟨i, hi1, hi2, rfl, rfl, hwr⟩ := hrel
        by_cases hlt : i < n
        · obtain ⟨x, hx⟩ : ∃ x, l[i]? = some x := ⟨l[i]'(by have := HS.out.1; omega), List.getElem?_eq_getElem _⟩
          obtain ⟨g, o, hA, hgl, hcc⟩ := HS.out.2 (by omega)
          subst hA
          have hcs : wr.cell? ⟨g, o + i, none⟩ = some (.int .u8 x.toNat) := by rw [hwr.out]; exact hcc _ x hx
          have hstep : ((l.drop m).take (i + 1 - m)).all blankB = (((l.drop m).take (i - m)).all blankB && blankB x) := by
            rw [show i + 1 - m = (i - m) + 1 by omega, List.take_add_one, List.getElem?_drop, show m + (i - m) = i by omega, hx]
            simp
          have HST := Lib.hid hstep; have HX := Lib.hid hx; have HCC := Lib.hid hcc
          clear hstep hx hcc
          go_wp2_with fail
          refine (isblank _ x).mono ?_
          rintro e w'' ⟨rfl, rfl⟩
          cases hbx : blankB x with
          | true =>
            go_wp2_with fail
            go_roundw
            case rel =>
              refine ⟨i + 1, by omega, by omega, by go_num, ?_, hwr⟩
              simp [HST.out, hbx]
            case measure => simp [intOf]; omega
          | false =>
            go_wp2_with fail
            go_roundw
            case rel =>
              refine ⟨i + 1, by omega, by omega, by go_num, ?_, hwr⟩
              simp [HST.out, hbx]
            case measure => simp [intOf]; omega
        · go_wp2_with fail
          go_ret2
          have hin : i = n := by omega
          have hall : (l.drop m).take (i - m) = l.drop m := List.take_of_length_le (by rw [List.length_drop, HS.out.1]; omega)
          rw [HF.out _ rfl]
          refine ⟨?_, hwr.out.symm⟩
          first | (simp [hall]; done) | (simp [hall]; omega)
    | false =>
      go_wp2_with fail
      go_loopw [10, 11] (fun s10 s11 wr => ∃ i : Nat, m ≤ i ∧ i ≤ n ∧ s11 = .int .i64 i ∧ s10 = .bool (false && ((l.drop m).take (i - m)).all blankB) ∧ Hid (wr = w')) (fun _ i _ => n - (intOf i).toNat)
      case atStart => exact ⟨m, Nat.le_refl _, hmn, by rw [HM.out], by first | (simp; done) | (simp; omega), rfl⟩
      case round =>
        obtain ⟨i, hi1, hi2, rfl, rfl, hwr⟩ := hrel
        by_cases hlt : i < n
        · obtain ⟨x, hx⟩ : ∃ x, l[i]? = some x := ⟨l[i]'(by have := HS.out.1; omega), List.getElem?_eq_getElem _⟩
          obtain ⟨g, o, hA, hgl, hcc⟩ := HS.out.2 (by omega)
          subst hA
          have hcs : wr.cell? ⟨g, o + i, none⟩ = some (.int .u8 x.toNat) := by rw [hwr.out]; exact hcc _ x hx
          have hstep : ((l.drop m).take (i + 1 - m)).all blankB = (((l.drop m).take (i - m)).all blankB && blankB x) := by
            rw [show i + 1 - m = (i - m) + 1 by omega, List.take_add_one, List.getElem?_drop, show m + (i - m) = i by omega, hx]
            simp
          have HST := Lib.hid hstep; have HX := Lib.hid hx; have HCC := Lib.hid hcc
          clear hstep hx hcc
          go_wp2_with fail
          refine (isblank _ x).mono ?_
          rintro e w'' ⟨rfl, rfl⟩
          cases hbx : blankB x with
          | true =>
            go_wp2_with fail
            go_roundw
            case rel =>
              refine ⟨i + 1, by omega, by omega, by go_num, ?_, hwr⟩
              simp [HST.out, hbx]
            case measure => simp [intOf]; omega
          | false =>
            go_wp2_with fail
            go_roundw
            case rel =>
              refine ⟨i + 1, by omega, by omega, by go_num, ?_, hwr⟩
              simp [HST.out, hbx]
            case measure => simp [intOf]; omega
        · go_wp2_with fail
          go_ret2
          have hin : i = n := by omega
          have hall : (l.drop m).take (i - m) = l.drop m := List.take_of_length_le (by rw [List.length_drop, HS.out.1]; omega)
          rw [HF.out _ rfl]
          refine ⟨?_, hwr.out.symm⟩
          first | (simp [hall]; done) | (simp [hall]; omega)
end Go.Proofs.YtmoglhggnodkoaaDoor
