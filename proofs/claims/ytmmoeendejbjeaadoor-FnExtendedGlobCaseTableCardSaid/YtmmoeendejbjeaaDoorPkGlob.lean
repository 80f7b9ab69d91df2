/-
  n010_87: extendedGlob.
-/
import Derived.Test.YtmmoeendejbjeaaDoorPkLaws
namespace Go.Proofs.YtmmoeendejbjeaaDoor
open Go.RowKit

theorem MidS.lang {w : World} {B pb rb : Nat} {ea : Addr} {lang val : Value} {stream : List UInt8} (h : MidS w B pb rb ea lang val stream) : w.cell? ⟨pb, 20, none⟩ = some lang := by
  obtain ⟨p, win, rest, bsp, r, offs, h⟩ := h
  rw [h.lx.hpb.c_lang, h.hlang]
theorem MidS.val {w : World} {B pb rb : Nat} {ea : Addr} {lang val : Value} {stream : List UInt8} (h : MidS w B pb rb ea lang val stream) : w.cell? ⟨pb, 11, none⟩ = some val := by
  obtain ⟨p, win, rest, bsp, r, offs, h⟩ := h
  rw [h.lx.hpb.c_val, h.hval]

/-- The five resolved variants. -/
def IsLang (L : Int) : Prop := L = 1 ∨ L = 2 ∨ L = 4 ∨ L = 8 ∨ L = 16

theorem in_zsh (w : World) (L : Int) (h : IsLang L) :
    Calls Tryd.prog 28 #[.int .i64 L, .int .i64 16] w fun e w' => e = .returned (.bool (L == 16)) ∧ w = w' := by
  rcases h with rfl | rfl | rfl | rfl | rfl
  all_goals
    go_enter Tryd.func28, Tryd.ntmps28
    go_wp2
    go_ret
    exact ⟨rfl, rfl⟩


set_option maxRecDepth 100000 in
set_option maxHeartbeats 400000 in
theorem eg_zsh {w : World} {B pb rb : Nat} {ea : Addr} {val : Value} {stream : List UInt8} (h : MidS w B pb rb ea (.int .i64 16) val stream) :
    Calls Tryd.prog 26 #[.pointer (some ⟨pb, 0, none⟩)] w fun e w' => e = .returned (.bool false) ∧ w = w' := by
  have c20 := h.lang
  clear h
  go_enter Tryd.func26, Tryd.ntmps26
  go_wp2_with (go_at_call 28; refine (in_zsh _ 16 (by simp [IsLang])).mono ?_; rintro e w' ⟨rfl, rfl⟩)
  go_ret
  exact ⟨rfl, rfl⟩

set_option maxRecDepth 100000 in
set_option maxHeartbeats 400000 in
theorem eg_fn {w : World} {B pb rb : Nat} {ea : Addr} {L : Int} {val : ByteArray} {stream : List UInt8} (h : MidS w B pb rb ea (.int .i64 L) (.string val) stream) (hL : IsLang L) (h16 : (L == 16) = false) (hv : (val.toList == [102, 117, 110, 99, 116, 105, 111, 110]) = true) :
    Calls Tryd.prog 26 #[.pointer (some ⟨pb, 0, none⟩)] w fun e w' => e = .returned (.bool false) ∧ w = w' := by
  have c20 := h.lang
  have c11 := h.val
  clear h
  go_enter Tryd.func26, Tryd.ntmps26
  go_wp2_with (go_at_call 28; refine (in_zsh _ L hL).mono ?_; rintro e w' ⟨rfl, rfl⟩)
  go_ret
  exact ⟨rfl, rfl⟩

set_option maxRecDepth 100000 in
set_option maxHeartbeats 400000 in
theorem eg_else {w : World} {B pb rb : Nat} {ea : Addr} {L : Int} {val : ByteArray} {stream : List UInt8} (h : MidS w B pb rb ea (.int .i64 L) (.string val) stream) (hL : IsLang L) (h16 : (L == 16) = false) (hv : (val.toList == [102, 117, 110, 99, 116, 105, 111, 110]) = false) :
    Calls Tryd.prog 26 #[.pointer (some ⟨pb, 0, none⟩)] w fun e w' => e = .returned (.bool ((((atD stream 0).toNat : Int) == 40) && (((atD stream 1).toNat : Int) != 41))) ∧ Kept [rb, pb] w w' ∧ MidS w' B pb rb ea (.int .i64 L) (.string val) stream := by
  have c20 := h.lang
  have c11 := h.val
  have HM := Lib.hid h
  clear h
  go_enter Tryd.func26, Tryd.ntmps26
  go_wp2_with (go_at_call 28; refine (in_zsh _ L hL).mono ?_; rintro e w' ⟨rfl, rfl⟩)
  refine (peek_spec HM.out).mono ?_
  rintro e w1 ⟨rfl, hk, hm⟩
  have HM1 := Lib.hid hm; have HK1 := Lib.hid hk; clear hk hm
  rw [hd2_at0]
  unfold By
  by_cases h0 : (((atD stream 0).toNat : Int) == 40) = true
  · go_wp2_with fail
    refine (peek2_spec HM1.out).mono ?_
    rintro e w2 ⟨rfl, hk, hm⟩
    have HM2 := Lib.hid hm; have HK2 := Lib.hid (HK1.out.trans hk); clear hk hm
    rw [hd2_at0, hd2_at1]
    unfold By
    go_wp2_with fail
    go_ret
    exact ⟨by rw [h0]; rfl, HK2.out, HM2.out⟩
  · have h0' : (((atD stream 0).toNat : Int) == 40) = false := by simpa using h0
    clear h0
    go_wp2_with fail
    go_ret
    exact ⟨by rw [h0']; rfl, HK1.out, HM1.out⟩

/-- What extendedGlob answers. -/
def egB (L : Int) (val : ByteArray) (s : List UInt8) : Bool := !(L == 16) && !(val.toList == [102, 117, 110, 99, 116, 105, 111, 110]) && ((((atD s 0).toNat : Int) == 40) && (((atD s 1).toNat : Int) != 41))

theorem eg_spec {w : World} {B pb rb : Nat} {ea : Addr} {L : Int} {val : ByteArray} {stream : List UInt8} (h : MidS w B pb rb ea (.int .i64 L) (.string val) stream) (hL : IsLang L) :
    Calls Tryd.prog 26 #[.pointer (some ⟨pb, 0, none⟩)] w fun e w' => e = .returned (.bool (egB L val stream)) ∧ Kept [rb, pb] w w' ∧ MidS w' B pb rb ea (.int .i64 L) (.string val) stream := by
  by_cases h16 : L = 16
  · subst h16
    refine (eg_zsh h).mono ?_
    rintro e w' ⟨rfl, rfl⟩
    exact ⟨rfl, Kept.refl _ _, h⟩
  · have h16' : (L == 16) = false := by simpa using h16
    cases hv : (val.toList == [102, 117, 110, 99, 116, 105, 111, 110]) with
    | true =>
      refine (eg_fn h hL h16' hv).mono ?_
      rintro e w' ⟨rfl, rfl⟩
      exact ⟨by simp only [egB, hv]; simp, Kept.refl _ _, h⟩
    | false =>
      refine (eg_else h hL h16' hv).mono ?_
      rintro e w' ⟨rfl, hk, hm⟩
      exact ⟨by simp only [egB, hv, h16']; rfl, hk, hm⟩

theorem zeg {w : World} {B pb rb : Nat} {ea : Addr} {L : Int} {val : ByteArray} {stream : List UInt8} (h : MidS w B pb rb ea (.int .i64 L) (.string val) stream) (hL : IsLang L) :
    Calls Tryd.prog 18 #[.pointer (some ⟨pb, 0, none⟩)] w fun e w' => e = .returned (.bool (egB L val stream)) ∧ Kept [rb, pb] w w' ∧ MidS w' B pb rb ea (.int .i64 L) (.string val) stream := by
  have H := Lib.hid h; clear h
  go_enter Tryd.func18, Tryd.ntmps18
  go_wp2_with fail
  refine (eg_spec H.out hL).mono ?_
  rintro e w1 ⟨rfl, hk, hm⟩
  have HK := Lib.hid hk; have HM := Lib.hid hm; clear hk hm
  go_wp2_with fail
  go_ret
  exact ⟨rfl, HK.out, HM.out⟩

def langOf (i : Int) : Int := if i = 0 then 1 else if i = 1 then 2 else if i = 2 then 4 else if i = 3 then 8 else 16
theorem langOf_is (i : Int) : IsLang (langOf i) := by unfold langOf IsLang; split <;> (try split) <;> (try split) <;> (try split) <;> simp
theorem lang_at (w : World) (i : Int) (h0 : 0 ≤ i) (h4 : i ≤ 4) : Calls Tryd.prog 17 #[.int .i64 i] w fun e w' => e = .returned (.int .i64 (langOf i)) ∧ w = w' := by
  have hi : i = 0 ∨ i = 1 ∨ i = 2 ∨ i = 3 ∨ i = 4 := by omega
  rcases hi with rfl | rfl | rfl | rfl | rfl
  all_goals
    go_enter Tryd.func17, Tryd.ntmps17
    go_wp2
    go_ret
    exact ⟨rfl, rfl⟩
end Go.Proofs.YtmmoeendejbjeaaDoor
