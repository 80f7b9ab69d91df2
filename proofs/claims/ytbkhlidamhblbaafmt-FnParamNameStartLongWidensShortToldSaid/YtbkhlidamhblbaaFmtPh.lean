/-
  n010_56: FnParamNameStartLongWidensShort on plain bytes.
-/
import Derived.Test.YtbkhlidamhblbaaFmtPg
namespace Go.Proofs.YtbkhlidamhblbaaFmt
open Go.RowKit

theorem zz_yes {w : World} {s : ByteArray} {x y : UInt8} {t : List UInt8} {ea : Addr} (sh : Bool) (ho : okP y.toNat sh = true) (hst : s.data.toList = x :: y :: t) (hs : s.size < 10000000) (hg : w.cell? ⟨0, 0, none⟩ = some (EOFv ea)) (hx : 32 ≤ x.toNat ∧ x.toNat < 127 ∧ x.toNat ≠ 92) (hy : 32 ≤ y.toNat ∧ y.toNat < 127 ∧ y.toNat ≠ 92) :
    Calls Tryf.prog 8 #[.string s, .bool sh] w fun e w' => e = .returned (.tuple #[.bool true, .int .i32 y.toNat]) ∧ Kept [] w w' :=
  (zz_any sh hst hs hg hx hy).mono (by rintro e w' ⟨rfl, h⟩; rw [ho]; exact ⟨rfl, h⟩)

theorem zz_no {w : World} {s : ByteArray} {x y : UInt8} {t : List UInt8} {ea : Addr} (sh : Bool) (ho : okP y.toNat sh = false) (hst : s.data.toList = x :: y :: t) (hs : s.size < 10000000) (hg : w.cell? ⟨0, 0, none⟩ = some (EOFv ea)) (hx : 32 ≤ x.toNat ∧ x.toNat < 127 ∧ x.toNat ≠ 92) (hy : 32 ≤ y.toNat ∧ y.toNat < 127 ∧ y.toNat ≠ 92) :
    Calls Tryf.prog 8 #[.string s, .bool sh] w fun e w' => e = .returned (.tuple #[.bool false, .int .i32 x.toNat]) ∧ Kept [] w w' :=
  (zz_any sh hst hs hg hx hy).mono (by rintro e w' ⟨rfl, h⟩; rw [ho]; exact ⟨rfl, h⟩)


set_option maxRecDepth 100000 in
set_option maxHeartbeats 800000 in
theorem long_dq (w : World) (xv : Int) (s s2 : ByteArray) (hx1 : 32 ≤ xv) (hx2 : xv < 127) (h2 : s.size ≤ 65536)
    (HB : Hid (∀ w, Calls Tryf.prog 4 #[.int .u8 xv, .int .u8 34, .string s] w fun e w' => e = .returned (.bool true) ∧ w = w'))
    (HX : Hid (∀ w, Calls Tryf.prog 5 #[.int .u8 xv] w fun e w' => e = .returned (.bool true) ∧ w = w'))
    (HY : Hid (∀ w, Calls Tryf.prog 5 #[.int .u8 34] w fun e w' => e = .returned (.bool true) ∧ w = w'))
    (HS : Hid (∀ w, Calls Tryf.prog 6 #[.string s] w fun e w' => e = .returned (.bool true) ∧ w = w'))
    (HJ : Hid (∀ w, Calls Tryf.prog 7 #[.int .u8 xv, .int .u8 34, .string s] w fun e w' => e = .returned (.string s2) ∧ Kept [] w w'))
    (HT : Hid (∀ w', Kept [] w w' → Calls Tryf.prog 8 #[.string s2, .bool true] w' fun e w'' => e = .returned (.tuple #[.bool false, .int .i32 xv]) ∧ Kept [] w' w''))
    (HF : Hid (∀ w', Kept [] w w' → Calls Tryf.prog 8 #[.string s2, .bool false] w' fun e w'' => e = .returned (.tuple #[.bool true, .int .i32 34]) ∧ Kept [] w' w'')) :
    Calls Tryf.prog 3 #[.int .u8 xv, .int .u8 34, .string s] w fun e w' => e = .returned (.bool true) ∧ Kept [] w w' := by
    have q1 : IntKind.i32.wrap xv = xv := IntWalk.i32_in _ (by omega)
    go_enter Tryf.func3, Tryf.ntmps3
    go_wp2_with (first | (go_at_call 4; refine (HB.out _).mono ?_; rintro e w' ⟨rfl, rfl⟩) | (go_at_call_of 5 (Value.int .u8 xv); refine (HX.out _).mono ?_; rintro e w' ⟨rfl, rfl⟩) | (go_at_call_of 5 (Value.int .u8 34); refine (HY.out _).mono ?_; rintro e w' ⟨rfl, rfl⟩) | (go_at_call 6; refine (HS.out _).mono ?_; rintro e w' ⟨rfl, rfl⟩) | (go_at_call 7; refine (HJ.out _).mono ?_; rintro e w1 ⟨rfl, hk1⟩; have HK1 := Lib.hid hk1; clear hk1) | (go_at_call_of 8 (Value.bool true); refine (HT.out _ HK1.out).mono ?_; rintro e w2 ⟨rfl, hk2⟩; have HK2 := Lib.hid (HK1.out.trans hk2); clear hk2) | (go_at_call_of 8 (Value.bool false); refine (HF.out _ HK2.out).mono ?_; rintro e w3 ⟨rfl, hk3⟩; have HK3 := Lib.hid (HK2.out.trans hk3); clear hk3))
    go_ret
    exact ⟨by simp, HK3.out⟩

set_option maxRecDepth 100000 in
set_option maxHeartbeats 800000 in
theorem long_both (w : World) (xv : Int) (s s2 : ByteArray) (hx1 : 32 ≤ xv) (hx2 : xv < 127) (yv : Int) (hy1 : 32 ≤ yv) (hy2 : yv < 127) (g1 : (yv == 34) = false) (g2 : (yv != 34) = true) (h2 : s.size ≤ 65536)
    (HB : Hid (∀ w, Calls Tryf.prog 4 #[.int .u8 xv, .int .u8 yv, .string s] w fun e w' => e = .returned (.bool true) ∧ w = w'))
    (HX : Hid (∀ w, Calls Tryf.prog 5 #[.int .u8 xv] w fun e w' => e = .returned (.bool true) ∧ w = w'))
    (HY : Hid (∀ w, Calls Tryf.prog 5 #[.int .u8 yv] w fun e w' => e = .returned (.bool true) ∧ w = w'))
    (HS : Hid (∀ w, Calls Tryf.prog 6 #[.string s] w fun e w' => e = .returned (.bool true) ∧ w = w'))
    (HJ : Hid (∀ w, Calls Tryf.prog 7 #[.int .u8 xv, .int .u8 yv, .string s] w fun e w' => e = .returned (.string s2) ∧ Kept [] w w'))
    (HT : Hid (∀ w', Kept [] w w' → Calls Tryf.prog 8 #[.string s2, .bool true] w' fun e w'' => e = .returned (.tuple #[.bool true, .int .i32 yv]) ∧ Kept [] w' w''))
    (HF : Hid (∀ w', Kept [] w w' → Calls Tryf.prog 8 #[.string s2, .bool false] w' fun e w'' => e = .returned (.tuple #[.bool true, .int .i32 yv]) ∧ Kept [] w' w'')) :
    Calls Tryf.prog 3 #[.int .u8 xv, .int .u8 yv, .string s] w fun e w' => e = .returned (.bool true) ∧ Kept [] w w' := by
    have q1 : IntKind.i32.wrap xv = xv := IntWalk.i32_in _ (by omega)
    have q2 : IntKind.i32.wrap yv = yv := IntWalk.i32_in _ (by omega)
    go_enter Tryf.func3, Tryf.ntmps3
    go_wp2_with (first | (go_at_call 4; refine (HB.out _).mono ?_; rintro e w' ⟨rfl, rfl⟩) | (go_at_call_of 5 (Value.int .u8 xv); refine (HX.out _).mono ?_; rintro e w' ⟨rfl, rfl⟩) | (go_at_call_of 5 (Value.int .u8 yv); refine (HY.out _).mono ?_; rintro e w' ⟨rfl, rfl⟩) | (go_at_call 6; refine (HS.out _).mono ?_; rintro e w' ⟨rfl, rfl⟩) | (go_at_call 7; refine (HJ.out _).mono ?_; rintro e w1 ⟨rfl, hk1⟩; have HK1 := Lib.hid hk1; clear hk1) | (go_at_call_of 8 (Value.bool true); refine (HT.out _ HK1.out).mono ?_; rintro e w2 ⟨rfl, hk2⟩; have HK2 := Lib.hid (HK1.out.trans hk2); clear hk2) | (go_at_call_of 8 (Value.bool false); refine (HF.out _ HK2.out).mono ?_; rintro e w3 ⟨rfl, hk3⟩; have HK3 := Lib.hid (HK2.out.trans hk3); clear hk3))
    go_ret
    exact ⟨by simp, HK3.out⟩

set_option maxRecDepth 100000 in
set_option maxHeartbeats 800000 in
theorem long_none (w : World) (xv : Int) (s s2 : ByteArray) (hx1 : 32 ≤ xv) (hx2 : xv < 127) (yv : Int) (hy1 : 32 ≤ yv) (hy2 : yv < 127) (g1 : (yv == 34) = false) (g2 : (yv != 34) = true) (h2 : s.size ≤ 65536)
    (HB : Hid (∀ w, Calls Tryf.prog 4 #[.int .u8 xv, .int .u8 yv, .string s] w fun e w' => e = .returned (.bool true) ∧ w = w'))
    (HX : Hid (∀ w, Calls Tryf.prog 5 #[.int .u8 xv] w fun e w' => e = .returned (.bool true) ∧ w = w'))
    (HY : Hid (∀ w, Calls Tryf.prog 5 #[.int .u8 yv] w fun e w' => e = .returned (.bool true) ∧ w = w'))
    (HS : Hid (∀ w, Calls Tryf.prog 6 #[.string s] w fun e w' => e = .returned (.bool true) ∧ w = w'))
    (HJ : Hid (∀ w, Calls Tryf.prog 7 #[.int .u8 xv, .int .u8 yv, .string s] w fun e w' => e = .returned (.string s2) ∧ Kept [] w w'))
    (HT : Hid (∀ w', Kept [] w w' → Calls Tryf.prog 8 #[.string s2, .bool true] w' fun e w'' => e = .returned (.tuple #[.bool false, .int .i32 xv]) ∧ Kept [] w' w''))
    (HF : Hid (∀ w', Kept [] w w' → Calls Tryf.prog 8 #[.string s2, .bool false] w' fun e w'' => e = .returned (.tuple #[.bool false, .int .i32 xv]) ∧ Kept [] w' w'')) :
    Calls Tryf.prog 3 #[.int .u8 xv, .int .u8 yv, .string s] w fun e w' => e = .returned (.bool true) ∧ Kept [] w w' := by
    have q1 : IntKind.i32.wrap xv = xv := IntWalk.i32_in _ (by omega)
    have q2 : IntKind.i32.wrap yv = yv := IntWalk.i32_in _ (by omega)
    go_enter Tryf.func3, Tryf.ntmps3
    go_wp2_with (first | (go_at_call 4; refine (HB.out _).mono ?_; rintro e w' ⟨rfl, rfl⟩) | (go_at_call_of 5 (Value.int .u8 xv); refine (HX.out _).mono ?_; rintro e w' ⟨rfl, rfl⟩) | (go_at_call_of 5 (Value.int .u8 yv); refine (HY.out _).mono ?_; rintro e w' ⟨rfl, rfl⟩) | (go_at_call 6; refine (HS.out _).mono ?_; rintro e w' ⟨rfl, rfl⟩) | (go_at_call 7; refine (HJ.out _).mono ?_; rintro e w1 ⟨rfl, hk1⟩; have HK1 := Lib.hid hk1; clear hk1) | (go_at_call_of 8 (Value.bool true); refine (HT.out _ HK1.out).mono ?_; rintro e w2 ⟨rfl, hk2⟩; have HK2 := Lib.hid (HK1.out.trans hk2); clear hk2) | (go_at_call_of 8 (Value.bool false); refine (HF.out _ HK2.out).mono ?_; rintro e w3 ⟨rfl, hk3⟩; have HK3 := Lib.hid (HK2.out.trans hk3); clear hk3))
    go_ret
    exact ⟨by simp, HK3.out⟩

theorem long_ok (w : World) (x y : UInt8) (s : ByteArray) (ea : Addr) (h2 : s.size ≤ 65536) (hx : plainB x.toNat = true) (hy : plainB y.toNat = true) (hs : plainS s.data.toList = true) (hg : w.cell? ⟨0, 0, none⟩ = some (EOFv ea)) :
    Calls Tryf.prog 3 #[.int .u8 x.toNat, .int .u8 y.toNat, .string s] w fun e w' => e = .returned (.bool true) ∧ Kept [] w w' := by
  have HB := Lib.hid (zb_long x.toNat y.toNat s true (by simp; omega) (by omega))
  have HX := Lib.hid (zplain x.toNat); have HY := Lib.hid (zplain y.toNat); have HS := Lib.hid (fun w => zplainstr s w (by omega))
  rw [hx] at HX; rw [hy] at HY; rw [hs] at HS
  have px : 32 ≤ (x.toNat : Int) ∧ (x.toNat : Int) ≤ 126 ∧ (x.toNat : Int) ≠ 92 := of_decide_eq_true hx
  have py : 32 ≤ (y.toNat : Int) ∧ (y.toNat : Int) ≤ 126 ∧ (y.toNat : Int) ≠ 92 := of_decide_eq_true hy
  have hgl : 0 < w.heap.size := block_lt_of_cell hg
  have hsz : (⟨(x :: y :: s.data.toList).toArray⟩ : ByteArray).size < 10000000 := by
    have e : s.data.toList.length = s.size := rfl
    show (x :: y :: s.data.toList).length < _
    simp only [List.length_cons]; omega
  have HJ := Lib.hid (fun w => zjoin x y s w (by omega))
  have hG : ∀ (w' : World), Kept [] w w' → w'.cell? ⟨0, 0, none⟩ = some (EOFv ea) := fun w' k => (k.cell (p := ⟨0, 0, none⟩) hgl (by simp)).trans hg
  have Y : ∀ (sh : Bool), okP y.toNat sh = true → Hid (∀ w', Kept [] w w' → Calls Tryf.prog 8 #[.string ⟨(x :: y :: s.data.toList).toArray⟩, .bool sh] w' fun e w'' => e = .returned (.tuple #[.bool true, .int .i32 y.toNat]) ∧ Kept [] w' w'') := fun sh ho => Lib.hid (fun w' k => zz_yes (x := x) (y := y) (t := s.data.toList) sh ho (by simp) hsz (hG w' k) (by omega) (by omega))
  have N : ∀ (sh : Bool), okP y.toNat sh = false → Hid (∀ w', Kept [] w w' → Calls Tryf.prog 8 #[.string ⟨(x :: y :: s.data.toList).toArray⟩, .bool sh] w' fun e w'' => e = .returned (.tuple #[.bool false, .int .i32 x.toNat]) ∧ Kept [] w' w'') := fun sh ho => Lib.hid (fun w' k => zz_no (x := x) (y := y) (t := s.data.toList) sh ho (by simp) hsz (hG w' k) (by omega) (by omega))
  by_cases hq : (y.toNat : Int) = 34
  · have e1 := N true (by rw [hq]; rfl); have e2 := Y false (by rw [hq]; rfl)
    rw [hq] at HB HY HJ e2 ⊢
    exact long_dq w x.toNat s _ (by omega) (by omega) h2 HB HX HY HS HJ e1 e2
  · have hne : okP y.toNat false = okP y.toNat true := by simp [okP, hq]
    cases hT : okP y.toNat true with
    | true => exact long_both w x.toNat s _ (by omega) (by omega) y.toNat (by omega) (by omega) (by simpa using hq) (by simpa using hq) h2 HB HX HY HS HJ (Y true hT) (Y false (hne.trans hT))
    | false => exact long_none w x.toNat s _ (by omega) (by omega) y.toNat (by omega) (by omega) (by simpa using hq) (by simpa using hq) h2 HB HX HY HS HJ (N true hT) (N false (hne.trans hT))

theorem law_long (w : World) (x y : UInt8) (s : ByteArray) (ea : Addr) (hs : s.size ≤ 9223372036854775807) (hg : w.cell? ⟨0, 0, none⟩ = some (EOFv ea)) :
    Calls Tryf.prog 3 #[.int .u8 x.toNat, .int .u8 y.toNat, .string s] w fun e w' => e = .returned (.bool true) ∧ Kept [] w w' := by
  have sk : (65536 < s.size ∨ plainB x.toNat = false ∨ plainB y.toNat = false ∨ plainS s.data.toList = false) → Calls Tryf.prog 3 #[.int .u8 x.toNat, .int .u8 y.toNat, .string s] w fun e w' => e = .returned (.bool true) ∧ Kept [] w w' := fun h =>
    (long_skip w x y s hs h).mono (by rintro e w' ⟨rfl, rfl⟩; exact ⟨rfl, Kept.refl _ _⟩)
  by_cases h2 : s.size ≤ 65536
  case neg => exact sk (.inl (by omega))
  cases hx : plainB x.toNat with
  | false => exact sk (.inr (.inl hx))
  | true =>
    cases hy : plainB y.toNat with
    | false => exact sk (.inr (.inr (.inl hy)))
    | true =>
      cases hp : plainS s.data.toList with
      | false => exact sk (.inr (.inr (.inr hp)))
      | true => exact long_ok w x y s ea h2 hx hy hp hg
end Go.Proofs.YtbkhlidamhblbaaFmt
