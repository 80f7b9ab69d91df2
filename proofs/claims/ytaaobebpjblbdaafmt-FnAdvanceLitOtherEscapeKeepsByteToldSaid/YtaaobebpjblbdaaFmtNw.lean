/-
  n010_42: the escape law walked.
-/
import Derived.Test.YtaaobebpjblbdaaFmtNv
import Derived.Laws.Runes
namespace Go.Proofs.YtaaobebpjblbdaaFmt
open Go.RowKit


theorem zb_FnAdvanceLitOtherEscapeKeepsByte (c : UInt8) (s : ByteArray) (st : Int) (z : Bool) (b : Bool) (hb : decide (s.size ≤ 1048576) = b) (h2 : s.size ≤ 9223372036854775807) (w : World) : Calls Tryf.prog 9 #[.int .u8 c.toNat, .string s, .int .i64 st, .bool z] w fun e w' => e = .returned (.bool b) ∧ w = w' := by
  cases b with
  | true =>
    have h1 : s.size ≤ 1048576 := of_decide_eq_true hb
    clear hb
    go_enter Tryf.func9, Tryf.ntmps9
    go_wp2
    go_ret
    exact ⟨rfl, rfl⟩
  | false =>
    have h1 : ¬ s.size ≤ 1048576 := of_decide_eq_false hb
    have h3 : 1048576 < s.size := by omega
    clear hb h1
    go_enter Tryf.func9, Tryf.ntmps9
    go_wp2
    go_ret
    exact ⟨rfl, rfl⟩

set_option maxRecDepth 100000 in
theorem skip1_FnAdvanceLitOtherEscapeKeepsByte (w : World) (c : UInt8) (s : ByteArray) (st : Int) (z : Bool) (h : ¬ s.size ≤ 1048576) (h2 : s.size ≤ 9223372036854775807) : Calls Tryf.prog 4 #[.int .u8 c.toNat, .string s, .int .i64 st, .bool z] w fun e w' => e = .returned (.bool true) ∧ w = w' := by
  have HB := Lib.hid (zb_FnAdvanceLitOtherEscapeKeepsByte c s st z false (by simp; omega) h2)
  clear h h2
  go_enter Tryf.func4, Tryf.ntmps4
  go_wp2_with (first | (go_at_call 9; refine (HB.out _).mono ?_; rintro e w' ⟨rfl, rfl⟩))
  go_ret
  exact ⟨rfl, rfl⟩

set_option maxRecDepth 100000 in
theorem skip2_FnAdvanceLitOtherEscapeKeepsByte (w : World) (c : UInt8) (s : ByteArray) (st : Int) (z : Bool) (h : s.size ≤ 1048576) (h2 : 65536 < s.size) : Calls Tryf.prog 4 #[.int .u8 c.toNat, .string s, .int .i64 st, .bool z] w fun e w' => e = .returned (.bool true) ∧ w = w' := by
  have HB := Lib.hid (zb_FnAdvanceLitOtherEscapeKeepsByte c s st z true (by simp; omega) (by omega))
  clear h
  go_enter Tryf.func4, Tryf.ntmps4
  go_wp2_with (first | (go_at_call 9; refine (HB.out _).mono ?_; rintro e w' ⟨rfl, rfl⟩))
  go_ret
  exact ⟨rfl, rfl⟩

set_option maxRecDepth 100000 in
theorem skip3_FnAdvanceLitOtherEscapeKeepsByte (w : World) (c : UInt8) (s : ByteArray) (st : Int) (z : Bool) (h : s.size ≤ 65536) (h2 : st < 0) : Calls Tryf.prog 4 #[.int .u8 c.toNat, .string s, .int .i64 st, .bool z] w fun e w' => e = .returned (.bool true) ∧ w = w' := by
  have HB := Lib.hid (zb_FnAdvanceLitOtherEscapeKeepsByte c s st z true (by simp; omega) (by omega))
  go_enter Tryf.func4, Tryf.ntmps4
  go_wp2_with (first | (go_at_call 9; refine (HB.out _).mono ?_; rintro e w' ⟨rfl, rfl⟩))
  go_ret
  exact ⟨rfl, rfl⟩

set_option maxRecDepth 100000 in
theorem skip4_FnAdvanceLitOtherEscapeKeepsByte (w : World) (c : UInt8) (s : ByteArray) (st : Int) (z : Bool) (h : s.size ≤ 65536) (h2 : 0 ≤ st) (h3 : 3 < st) : Calls Tryf.prog 4 #[.int .u8 c.toNat, .string s, .int .i64 st, .bool z] w fun e w' => e = .returned (.bool true) ∧ w = w' := by
  have HB := Lib.hid (zb_FnAdvanceLitOtherEscapeKeepsByte c s st z true (by simp; omega) (by omega))
  go_enter Tryf.func4, Tryf.ntmps4
  go_wp2_with (first | (go_at_call 9; refine (HB.out _).mono ?_; rintro e w' ⟨rfl, rfl⟩))
  go_ret
  exact ⟨rfl, rfl⟩

set_option maxRecDepth 100000 in
theorem skip5_FnAdvanceLitOtherEscapeKeepsByte (w : World) (c : UInt8) (s : ByteArray) (st : Int) (z : Bool) (h : s.size ≤ 65536) (h2 : 0 ≤ st) (h3 : st ≤ 3) (hc : c.toNat = 0) : Calls Tryf.prog 4 #[.int .u8 c.toNat, .string s, .int .i64 st, .bool z] w fun e w' => e = .returned (.bool true) ∧ w = w' := by
  have HB := Lib.hid (zb_FnAdvanceLitOtherEscapeKeepsByte c s st z true (by simp; omega) (by omega))
  rw [hc] at HB ⊢
  clear hc
  go_enter Tryf.func4, Tryf.ntmps4
  go_wp2_with (first | (go_at_call 9; refine (HB.out _).mono ?_; rintro e w' ⟨rfl, rfl⟩))
  go_ret
  exact ⟨rfl, rfl⟩

set_option maxRecDepth 100000 in
theorem skip7_FnAdvanceLitOtherEscapeKeepsByte (w : World) (c : UInt8) (s : ByteArray) (st : Int) (z : Bool) (h : s.size ≤ 65536) (h2 : 0 ≤ st) (h3 : st ≤ 3) (hc : c.toNat = 10) : Calls Tryf.prog 4 #[.int .u8 c.toNat, .string s, .int .i64 st, .bool z] w fun e w' => e = .returned (.bool true) ∧ w = w' := by
  have HB := Lib.hid (zb_FnAdvanceLitOtherEscapeKeepsByte c s st z true (by simp; omega) (by omega))
  rw [hc] at HB ⊢
  clear hc
  go_enter Tryf.func4, Tryf.ntmps4
  go_wp2_with (first | (go_at_call 9; refine (HB.out _).mono ?_; rintro e w' ⟨rfl, rfl⟩))
  go_ret
  exact ⟨rfl, rfl⟩

set_option maxRecDepth 100000 in
theorem skip8_FnAdvanceLitOtherEscapeKeepsByte (w : World) (c : UInt8) (s : ByteArray) (st : Int) (z : Bool) (h : s.size ≤ 65536) (h2 : 0 ≤ st) (h3 : st ≤ 3) (hc : c.toNat = 13) : Calls Tryf.prog 4 #[.int .u8 c.toNat, .string s, .int .i64 st, .bool z] w fun e w' => e = .returned (.bool true) ∧ w = w' := by
  have HB := Lib.hid (zb_FnAdvanceLitOtherEscapeKeepsByte c s st z true (by simp; omega) (by omega))
  rw [hc] at HB ⊢
  clear hc
  go_enter Tryf.func4, Tryf.ntmps4
  go_wp2_with (first | (go_at_call 9; refine (HB.out _).mono ?_; rintro e w' ⟨rfl, rfl⟩))
  go_ret
  exact ⟨rfl, rfl⟩

set_option maxRecDepth 100000 in
theorem skip9_FnAdvanceLitOtherEscapeKeepsByte (w : World) (c : UInt8) (s : ByteArray) (st : Int) (z : Bool) (h : s.size ≤ 65536) (h2 : 0 ≤ st) (h3 : st ≤ 3) (hc : 128 ≤ c.toNat) : Calls Tryf.prog 4 #[.int .u8 c.toNat, .string s, .int .i64 st, .bool z] w fun e w' => e = .returned (.bool true) ∧ w = w' := by
  have HB := Lib.hid (zb_FnAdvanceLitOtherEscapeKeepsByte c s st z true (by simp; omega) (by omega))
  have g0 : ((c.toNat : Int) == 0) = false := by simp; omega
  go_enter Tryf.func4, Tryf.ntmps4
  go_wp2_with (first | (go_at_call 9; refine (HB.out _).mono ?_; rintro e w' ⟨rfl, rfl⟩))
  go_ret
  exact ⟨rfl, rfl⟩

set_option maxRecDepth 100000 in
theorem skip6_FnAdvanceLitOtherEscapeKeepsByte (w : World) (c : UInt8) (s : ByteArray) (st : Int) (z : Bool) (h : s.size ≤ 65536) (h2 : 0 ≤ st) (h3 : st ≤ 3) (hc : c.toNat < 128 ∧ c.toNat ≠ 0 ∧ c.toNat ≠ 13 ∧ c.toNat ≠ 10) (hp : s.data.toList.all plainLB = false) : Calls Tryf.prog 4 #[.int .u8 c.toNat, .string s, .int .i64 st, .bool z] w fun e w' => e = .returned (.bool true) ∧ w = w' := by
  have HB := Lib.hid (zb_FnAdvanceLitOtherEscapeKeepsByte c s st z true (by simp; omega) (by omega))
  have HP := Lib.hid (fun w => (plainin_any s w (by omega)).mono (R' := fun e w' => e = .returned (.bool false) ∧ w = w') (fun e w' h => by rw [hp] at h; exact h))
  have g0 : ((c.toNat : Int) == 0) = false := by simp; omega
  have g1 : ((c.toNat : Int) == 10) = false := by simp; omega
  have g2 : ((c.toNat : Int) == 13) = false := by simp; omega
  have g3 : ¬ (128 : Int) ≤ c.toNat := by omega
  clear hp hc
  go_enter Tryf.func4, Tryf.ntmps4
  go_wp2_with (first | (go_at_call 9; refine (HB.out _).mono ?_; rintro e w' ⟨rfl, rfl⟩) | (go_at_call 6; refine (HP.out _).mono ?_; rintro e w' ⟨rfl, rfl⟩))
  go_ret
  exact ⟨rfl, rfl⟩

theorem enc_table : ((List.range 128).all fun n => (Utf8.encode (n : Int)).data.toList == [UInt8.ofNat n]) = true := by kernel_rfl
theorem enc_byte (c : UInt8) (hc : c.toNat < 128) : Utf8.encode (c.toNat : Int) = ⟨#[c]⟩ := by
  have h := enc_table
  rw [List.all_eq_true] at h
  have h2 := eq_of_beq (h c.toNat (List.mem_range.2 hc))
  apply ByteArray.ext
  apply Array.toList_inj.1
  rw [h2]
  simp

set_option maxRecDepth 100000 in
set_option maxHeartbeats 800000 in
theorem ok_FnAdvanceLitOtherEscapeKeepsByte (w : World) (c : UInt8) (s : ByteArray) (st : Int) (z : Bool) (ea : Addr) (h : s.size ≤ 65536) (h2 : 0 ≤ st) (h3 : st ≤ 3) (hc : c.toNat < 128 ∧ c.toNat ≠ 0 ∧ c.toNat ≠ 13 ∧ c.toNat ≠ 10) (hp : s.data.toList.all plainLB = true) (hg : w.cell? ⟨0, 0, none⟩ = some (EOFv ea)) : Calls Tryf.prog 4 #[.int .u8 c.toNat, .string s, .int .i64 st, .bool z] w fun e w' => e = .returned (.bool true) ∧ Kept [] w w' := by
  have HB := Lib.hid (zb_FnAdvanceLitOtherEscapeKeepsByte c s st z true (by simp; omega) (by omega))
  have HP := Lib.hid (fun w => (plainin_any s w (by omega)).mono (R' := fun e w' => e = .returned (.bool true) ∧ w = w') (fun e w' h => by rw [hp] at h; exact h))
  have g0 : ((c.toNat : Int) == 0) = false := by simp; omega
  have g1 : ((c.toNat : Int) == 10) = false := by simp; omega
  have g2 : ((c.toNat : Int) == 13) = false := by simp; omega
  have g3 : ¬ (128 : Int) ≤ c.toNat := by omega
  have hpl : ∀ y ∈ s.data.toList, plainB y := fun y hy => (plainLB_iff y).1 (List.all_eq_true.1 hp y hy)
  have HE := Lib.hid (fun w => expected_any s st h2 h3 z w (by omega) hpl)
  have hlist : (((⟨#[92]⟩ : ByteArray) ++ ⟨#[c]⟩) ++ s).data.toList = 92 :: c :: s.data.toList := by simp
  have hx := lex_esc w (((⟨#[92]⟩ : ByteArray) ++ ⟨#[c]⟩) ++ s) st h2 h3 z ea c s.data.toList hlist ⟨hc.1, hc.2.1, hc.2.2.1⟩ hc.2.2.2 hpl (by simp only [ByteArray.size_append]; show 1 + 1 + s.size < _; omega) hg
  have hT2 : (⟨([92, c] ++ s.data.toList.takeWhile (goO st.toNat z)).toArray⟩ : ByteArray) = ((⟨#[92]⟩ : ByteArray) ++ ⟨#[c]⟩) ++ ⟨(s.data.toList.takeWhile (goO st.toNat z)).toArray⟩ := by
    apply ByteArray.ext
    simp
  rw [hT2] at hx
  have hen := enc_byte c hc.1
  obtain ⟨X, hX⟩ : ∃ X : ByteArray, X = ⟨#[c]⟩ := ⟨_, rfl⟩
  have hxs : X.size ≤ 1 := by rw [hX]; show 1 ≤ 1; omega
  rw [← hX] at hx hen
  have HX := Lib.hid hx
  obtain ⟨T, hT⟩ : ∃ T : ByteArray, T = ⟨(s.data.toList.takeWhile (goO st.toNat z)).toArray⟩ := ⟨_, rfl⟩
  obtain ⟨D, hD⟩ : ∃ D, D = s.data.toList.dropWhile (goO st.toNat z) := ⟨_, rfl⟩
  rw [← hT, ← hD] at HE HX
  obtain ⟨d1, hd1⟩ : ∃ d, d = endT D := ⟨_, rfl⟩
  obtain ⟨d2, hd2⟩ : ∃ d, d = endR D := ⟨_, rfl⟩
  rw [← hd1, ← hd2] at HE HX
  have hcv : ∀ w, (convert 21 9 (.int .i32 (c.toNat : Int))).run Tryf.prog w = .ok (.string X) w := fun w => by rw [run_convert_int_string w _ _ _ _ (by kernel_rfl) (by kernel_rfl), hen]
  have hwr := rune_u8 c
  have htn : T.size ≤ 65536 := by
    have h1 := (List.takeWhile_prefix (goO st.toNat z) (l := s.data.toList)).length_le
    have e : s.data.toList.length = s.size := rfl
    rw [hT]; show List.length _ ≤ _; simp; omega
  clear hp hpl hg hT hD hd1 hd2 hc hx hT2 hlist hX hen
  go_enter Tryf.func4, Tryf.ntmps4
  go_wp2_with (first | (go_at_call 9; refine (HB.out _).mono ?_; rintro e w' ⟨rfl, rfl⟩) | (go_at_call 6; refine (HP.out _).mono ?_; rintro e w' ⟨rfl, rfl⟩) | (go_at_call 7; refine HX.out.mono ?_; rintro e w1 ⟨rfl, hk1⟩; have HK1 := Lib.hid hk1; clear hk1) | (go_at_call 8; refine (HE.out _).mono ?_; rintro e w2 ⟨rfl, hk2⟩; have HK2 := Lib.hid hk2; clear hk2))
  go_ret
  exact ⟨by simp, HK1.out.trans HK2.out⟩

theorem law_FnAdvanceLitOtherEscapeKeepsByte (w : World) (c : UInt8) (s : ByteArray) (st : Int) (z : Bool) (ea : Addr) (hs : s.size ≤ 9223372036854775807) (hg : w.cell? ⟨0, 0, none⟩ = some (EOFv ea)) : Calls Tryf.prog 4 #[.int .u8 c.toNat, .string s, .int .i64 st, .bool z] w fun e w' => e = .returned (.bool true) ∧ Kept [] w w' := by
  have up : ∀ {e w'}, e = Ending.returned (.bool true) ∧ w = w' → e = .returned (.bool true) ∧ Kept [] w w' := fun h => ⟨h.1, h.2 ▸ Kept.refl _ _⟩
  by_cases h1 : s.size ≤ 1048576
  case neg => exact (skip1_FnAdvanceLitOtherEscapeKeepsByte w c s st z h1 hs).mono fun _ _ => up
  by_cases h2 : s.size ≤ 65536
  case neg => exact (skip2_FnAdvanceLitOtherEscapeKeepsByte w c s st z h1 (by omega)).mono fun _ _ => up
  by_cases h3 : 0 ≤ st
  case neg => exact (skip3_FnAdvanceLitOtherEscapeKeepsByte w c s st z h2 (by omega)).mono fun _ _ => up
  by_cases h4 : st ≤ 3
  case neg => exact (skip4_FnAdvanceLitOtherEscapeKeepsByte w c s st z h2 h3 (by omega)).mono fun _ _ => up
  by_cases h5 : c.toNat = 0
  case pos => exact (skip5_FnAdvanceLitOtherEscapeKeepsByte w c s st z h2 h3 h4 h5).mono fun _ _ => up
  by_cases h6 : c.toNat = 10
  case pos => exact (skip7_FnAdvanceLitOtherEscapeKeepsByte w c s st z h2 h3 h4 h6).mono fun _ _ => up
  by_cases h7 : c.toNat = 13
  case pos => exact (skip8_FnAdvanceLitOtherEscapeKeepsByte w c s st z h2 h3 h4 h7).mono fun _ _ => up
  by_cases h8 : 128 ≤ c.toNat
  case pos => exact (skip9_FnAdvanceLitOtherEscapeKeepsByte w c s st z h2 h3 h4 h8).mono fun _ _ => up
  cases hp : s.data.toList.all plainLB with
  | false => exact (skip6_FnAdvanceLitOtherEscapeKeepsByte w c s st z h2 h3 h4 ⟨by omega, h5, h7, h6⟩ hp).mono fun _ _ => up
  | true => exact ok_FnAdvanceLitOtherEscapeKeepsByte w c s st z ea h2 h3 h4 ⟨by omega, h5, h7, h6⟩ hp hg
end Go.Proofs.YtaaobebpjblbdaaFmt
