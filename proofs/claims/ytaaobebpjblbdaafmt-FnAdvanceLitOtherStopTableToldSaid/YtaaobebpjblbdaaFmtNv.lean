/-
  n010_42: lexOther over an escaped byte and a plain source; the two laws walked.
-/
import Derived.Test.YtaaobebpjblbdaaFmtNu
namespace Go.Proofs.YtaaobebpjblbdaaFmt
open Go.RowKit

set_option maxRecDepth 100000 in
set_option maxHeartbeats 800000 in
theorem lex_esc (w : World) (s : ByteArray) (st : Int) (h1 : 0 ≤ st) (h2 : st ≤ 3) (z : Bool) (ea : Addr) (c : UInt8) (u : List UInt8) (hs : s.data.toList = 92 :: c :: u) (hx : c.toNat < 128 ∧ c.toNat ≠ 0 ∧ c.toNat ≠ 13) (hx10 : c.toNat ≠ 10) (hu : ∀ y ∈ u, plainB y) (hn : s.size < 10000000) (hg : w.cell? ⟨0, 0, none⟩ = some (EOFv ea)) :
    Calls Tryf.prog 7 #[.string s, .int .i64 st, .bool z] w fun e w' => e = .returned (.tuple #[.int .u32 (endT (u.dropWhile (goO st.toNat z))), .string ⟨([92, c] ++ u.takeWhile (goO st.toNat z)).toArray⟩, .int .i32 (endR (u.dropWhile (goO st.toNat z)))]) ∧ Kept [] w w' := by
  have HQ := Lib.hid (litQuote_any st h1 h2); have HL := Lib.hid (litLang_any z)
  have HG := Lib.hid hg; have HS := Lib.hid hs; have HX := Lib.hid hx; have HU := Lib.hid hu
  have hnx : Nx 0 (92 :: c :: u) 92 1 [92] (c :: u) 0 := .other (c :: u) (by decide) (by intro h; simp at h; rw [h] at hx10; exact hx10 rfl) (by rintro ⟨h, _⟩; simp at h; have := hx.2.2; rw [h] at this; exact this rfl)
  have HNX := Lib.hid hnx
  clear hg hs hx hu hx10 hnx
  go_enter Tryf.func7, Tryf.ntmps7
  go_wp2_with (first | (refine wpList_bytes rfl _ rfl s rfl ?_; intro A cap w1 hsrc hcap hk1 hA; have HSRC := Lib.hid hsrc; have HCAP := Lib.hid hcap; have HK1 := Lib.hid hk1; clear hsrc hcap hk1 hA) | (go_at_call 12; refine (HQ.out _).mono ?_; rintro e w' ⟨rfl, rfl⟩) | (go_at_call 13; refine (HL.out _).mono ?_; rintro e w' ⟨rfl, rfl⟩))
  have hg1 : w1.cell? ⟨0, 0, none⟩ = some (EOFv ea) := (HK1.out.cell (p := ⟨0, 0, none⟩) (block_lt_of_cell HG.out) (by simp)).trans HG.out
  have HB := Lib.hid (show 0 < w1.heap.size + 2 by have h : 0 < w1.heap.size := block_lt_of_cell hg1; omega)
  have HNL := Lib.hid (newlexer w1 A s.size cap s.data.toList ea (qvOf st.toNat) (lvOf z) HSRC.out hn HCAP.out hg1)
  clear hg1
  have hul : u.length + 1 ≤ 100000000 := by have := congrArg List.length HS.out; have e : s.data.toList.length = s.size := rfl; simp at this; omega
  go_wp2_with (first | (go_at_call 11; refine HNL.out.mono ?_; rintro e w2 ⟨rfl, hl, hk2⟩; rw [HS.out] at hl; have HL2 := Lib.hid hl; have HK2 := Lib.hid hk2; clear hl hk2) | (go_at_call 14; refine zrune (rune_s HL2.out (by decide) HB.out (by decide) HNX.out) ?_; intro w3 h3; dsimp only; have H3 := Lib.hid h3; clear h3) | (go_at_call 15; refine zadv (adv_other_esc H3.out.1 (by decide) HB.out (asks_ok st.toNat z) rfl rfl HX.out HU.out hul) ?_; intro w4 h4; dsimp only; obtain ⟨hk4, p4, hp4, ht4, hv4, hr4⟩ := h4.out; have HT := Lib.hid (ztokval hp4 _ _ _ ht4 hv4 hr4); have HK4 := Lib.hid hk4; clear h4 hk4 hp4 ht4 hv4 hr4) | (go_at_call 16; refine HT.out.mono ?_; rintro e w5 ⟨rfl, hk5⟩; have HK5 := Lib.hid hk5; clear hk5))
  go_ret3
  obtain ⟨S3, k3, s3⟩ := H3.out.2
  obtain ⟨S4, k4, s4⟩ := HK4.out
  have hz := HK1.out.size
  refine ⟨rfl, (((HK1.out.trans HK2.out).weaken (S' := S3 ++ S4) (by simp)).trans ((k3.weaken (S' := S3 ++ S4) (fun k hk => .inl (List.mem_append.2 (.inl hk)))).trans ((k4.weaken (S' := S3 ++ S4) (fun k hk => .inl (List.mem_append.2 (.inr hk)))).trans (HK5.out.weaken (by simp))))).weaken (fun k hk => .inr ?_)⟩
  rcases List.mem_append.1 hk with h | h
  · rcases s3 k h with h | h | h <;> omega
  · rcases s4 k h with h | h | h <;> omega

theorem zb_FnAdvanceLitOtherStopTable (s : ByteArray) (st : Int) (z : Bool) (b : Bool) (hb : decide (s.size ≤ 1048576) = b) (h2 : s.size ≤ 9223372036854775807) (w : World) : Calls Tryf.prog 5 #[.string s, .int .i64 st, .bool z] w fun e w' => e = .returned (.bool b) ∧ w = w' := by
  cases b with
  | true =>
    have h1 : s.size ≤ 1048576 := of_decide_eq_true hb
    clear hb
    go_enter Tryf.func5, Tryf.ntmps5
    go_wp2
    go_ret
    exact ⟨rfl, rfl⟩
  | false =>
    have h1 : ¬ s.size ≤ 1048576 := of_decide_eq_false hb
    have h3 : 1048576 < s.size := by omega
    clear hb h1
    go_enter Tryf.func5, Tryf.ntmps5
    go_wp2
    go_ret
    exact ⟨rfl, rfl⟩

set_option maxRecDepth 100000 in
theorem skip1_FnAdvanceLitOtherStopTable (w : World) (s : ByteArray) (st : Int) (z : Bool) (h : ¬ s.size ≤ 1048576) (h2 : s.size ≤ 9223372036854775807) : Calls Tryf.prog 3 #[.string s, .int .i64 st, .bool z] w fun e w' => e = .returned (.bool true) ∧ w = w' := by
  have HB := Lib.hid (zb_FnAdvanceLitOtherStopTable s st z false (by simp; omega) h2)
  clear h h2
  go_enter Tryf.func3, Tryf.ntmps3
  go_wp2_with (first | (go_at_call 5; refine (HB.out _).mono ?_; rintro e w' ⟨rfl, rfl⟩))
  go_ret
  exact ⟨rfl, rfl⟩

set_option maxRecDepth 100000 in
theorem skip2_FnAdvanceLitOtherStopTable (w : World) (s : ByteArray) (st : Int) (z : Bool) (h : s.size ≤ 1048576) (h2 : 65536 < s.size) : Calls Tryf.prog 3 #[.string s, .int .i64 st, .bool z] w fun e w' => e = .returned (.bool true) ∧ w = w' := by
  have HB := Lib.hid (zb_FnAdvanceLitOtherStopTable s st z true (by simp; omega) (by omega))
  clear h
  go_enter Tryf.func3, Tryf.ntmps3
  go_wp2_with (first | (go_at_call 5; refine (HB.out _).mono ?_; rintro e w' ⟨rfl, rfl⟩))
  go_ret
  exact ⟨rfl, rfl⟩

set_option maxRecDepth 100000 in
theorem skip3_FnAdvanceLitOtherStopTable (w : World) (s : ByteArray) (st : Int) (z : Bool) (h : s.size ≤ 65536) (h2 : st < 0) : Calls Tryf.prog 3 #[.string s, .int .i64 st, .bool z] w fun e w' => e = .returned (.bool true) ∧ w = w' := by
  have HB := Lib.hid (zb_FnAdvanceLitOtherStopTable s st z true (by simp; omega) (by omega))
  go_enter Tryf.func3, Tryf.ntmps3
  go_wp2_with (first | (go_at_call 5; refine (HB.out _).mono ?_; rintro e w' ⟨rfl, rfl⟩))
  go_ret
  exact ⟨rfl, rfl⟩

set_option maxRecDepth 100000 in
theorem skip4_FnAdvanceLitOtherStopTable (w : World) (s : ByteArray) (st : Int) (z : Bool) (h : s.size ≤ 65536) (h2 : 0 ≤ st) (h3 : 3 < st) : Calls Tryf.prog 3 #[.string s, .int .i64 st, .bool z] w fun e w' => e = .returned (.bool true) ∧ w = w' := by
  have HB := Lib.hid (zb_FnAdvanceLitOtherStopTable s st z true (by simp; omega) (by omega))
  go_enter Tryf.func3, Tryf.ntmps3
  go_wp2_with (first | (go_at_call 5; refine (HB.out _).mono ?_; rintro e w' ⟨rfl, rfl⟩))
  go_ret
  exact ⟨rfl, rfl⟩

set_option maxRecDepth 100000 in
theorem skip5_FnAdvanceLitOtherStopTable (w : World) (s : ByteArray) (st : Int) (z : Bool) (h : s.size = 0) (h2 : 0 ≤ st) (h3 : st ≤ 3) : Calls Tryf.prog 3 #[.string s, .int .i64 st, .bool z] w fun e w' => e = .returned (.bool true) ∧ w = w' := by
  obtain rfl : s = ⟨#[]⟩ := by cases s with | mk d => congr 1; exact Array.eq_empty_of_size_eq_zero h
  have HB := Lib.hid (zb_FnAdvanceLitOtherStopTable ⟨#[]⟩ st z true rfl (by decide))
  clear h
  go_enter Tryf.func3, Tryf.ntmps3
  go_wp2_with (first | (go_at_call 5; refine (HB.out _).mono ?_; rintro e w' ⟨rfl, rfl⟩))
  go_ret
  exact ⟨rfl, rfl⟩

set_option maxRecDepth 100000 in
theorem skip6_FnAdvanceLitOtherStopTable (w : World) (s : ByteArray) (st : Int) (z : Bool) (h : s.size ≤ 65536) (h0 : 0 < s.size) (h2 : 0 ≤ st) (h3 : st ≤ 3) (hp : s.data.toList.all plainLB = false) : Calls Tryf.prog 3 #[.string s, .int .i64 st, .bool z] w fun e w' => e = .returned (.bool true) ∧ w = w' := by
  have g0 : ((s.size : Int) == 0) = false := by rw [beq_eq_false_iff_ne]; omega
  have HB := Lib.hid (zb_FnAdvanceLitOtherStopTable s st z true (by simp; omega) (by omega))
  have HP := Lib.hid (fun w => (plainin_any s w (by omega)).mono (R' := fun e w' => e = .returned (.bool false) ∧ w = w') (fun e w' h => by rw [hp] at h; exact h))
  clear hp
  go_enter Tryf.func3, Tryf.ntmps3
  go_wp2_with (first | (go_at_call 5; refine (HB.out _).mono ?_; rintro e w' ⟨rfl, rfl⟩) | (go_at_call 6; refine (HP.out _).mono ?_; rintro e w' ⟨rfl, rfl⟩))
  go_ret
  exact ⟨rfl, rfl⟩

set_option maxRecDepth 100000 in
set_option maxHeartbeats 800000 in
theorem ok_FnAdvanceLitOtherStopTable (w : World) (s : ByteArray) (st : Int) (z : Bool) (ea : Addr) (h : s.size ≤ 65536) (h0 : 0 < s.size) (h2 : 0 ≤ st) (h3 : st ≤ 3) (hp : s.data.toList.all plainLB = true) (hg : w.cell? ⟨0, 0, none⟩ = some (EOFv ea)) : Calls Tryf.prog 3 #[.string s, .int .i64 st, .bool z] w fun e w' => e = .returned (.bool true) ∧ Kept [] w w' := by
  have g0 : ((s.size : Int) == 0) = false := by rw [beq_eq_false_iff_ne]; omega
  have HB := Lib.hid (zb_FnAdvanceLitOtherStopTable s st z true (by simp; omega) (by omega))
  have HP := Lib.hid (fun w => (plainin_any s w (by omega)).mono (R' := fun e w' => e = .returned (.bool true) ∧ w = w') (fun e w' h => by rw [hp] at h; exact h))
  have hpl : ∀ y ∈ s.data.toList, plainB y := fun y hy => (plainLB_iff y).1 (List.all_eq_true.1 hp y hy)
  have HE := Lib.hid (fun w => expected_any s st h2 h3 z w (by omega) hpl)
  obtain ⟨x, u, hs⟩ : ∃ x u, s.data.toList = x :: u := by
    cases hq : s.data.toList with
    | nil => have e : s.data.toList.length = s.size := rfl; rw [hq] at e; simp at e; omega
    | cons x u => exact ⟨x, u, rfl⟩
  rw [hs] at HE
  have HX := Lib.hid (lex_plain w s st h2 h3 z ea x u hs (hpl x (by rw [hs]; simp)) (fun y hy => hpl y (by rw [hs]; simp [hy])) (by omega) hg)
  obtain ⟨T, hT⟩ : ∃ T : ByteArray, T = ⟨((x :: u).takeWhile (goO st.toNat z)).toArray⟩ := ⟨_, rfl⟩
  obtain ⟨D, hD⟩ : ∃ D, D = (x :: u).dropWhile (goO st.toNat z) := ⟨_, rfl⟩
  rw [← hT, ← hD] at HE HX
  obtain ⟨d1, hd1⟩ : ∃ d, d = endT D := ⟨_, rfl⟩
  obtain ⟨d2, hd2⟩ : ∃ d, d = endR D := ⟨_, rfl⟩
  rw [← hd1, ← hd2] at HE HX
  clear hp hpl hs hg hT hD hd1 hd2
  go_enter Tryf.func3, Tryf.ntmps3
  go_wp2_with (first | (go_at_call 5; refine (HB.out _).mono ?_; rintro e w' ⟨rfl, rfl⟩) | (go_at_call 6; refine (HP.out _).mono ?_; rintro e w' ⟨rfl, rfl⟩) | (go_at_call 7; refine HX.out.mono ?_; rintro e w1 ⟨rfl, hk1⟩; have HK1 := Lib.hid hk1; clear hk1) | (go_at_call 8; refine (HE.out _).mono ?_; rintro e w2 ⟨rfl, hk2⟩; have HK2 := Lib.hid hk2; clear hk2))
  go_ret
  exact ⟨by simp, HK1.out.trans HK2.out⟩

theorem law_FnAdvanceLitOtherStopTable (w : World) (s : ByteArray) (st : Int) (z : Bool) (ea : Addr) (hs : s.size ≤ 9223372036854775807) (hg : w.cell? ⟨0, 0, none⟩ = some (EOFv ea)) : Calls Tryf.prog 3 #[.string s, .int .i64 st, .bool z] w fun e w' => e = .returned (.bool true) ∧ Kept [] w w' := by
  have up : ∀ {e w'}, e = Ending.returned (.bool true) ∧ w = w' → e = .returned (.bool true) ∧ Kept [] w w' := fun h => ⟨h.1, h.2 ▸ Kept.refl _ _⟩
  by_cases h1 : s.size ≤ 1048576
  case neg => exact (skip1_FnAdvanceLitOtherStopTable w s st z h1 hs).mono fun _ _ => up
  by_cases h2 : s.size ≤ 65536
  case neg => exact (skip2_FnAdvanceLitOtherStopTable w s st z h1 (by omega)).mono fun _ _ => up
  by_cases h3 : 0 ≤ st
  case neg => exact (skip3_FnAdvanceLitOtherStopTable w s st z h2 (by omega)).mono fun _ _ => up
  by_cases h4 : st ≤ 3
  case neg => exact (skip4_FnAdvanceLitOtherStopTable w s st z h2 h3 (by omega)).mono fun _ _ => up
  by_cases h5 : s.size = 0
  case pos => exact (skip5_FnAdvanceLitOtherStopTable w s st z h5 h3 h4).mono fun _ _ => up
  cases hp : s.data.toList.all plainLB with
  | false => exact (skip6_FnAdvanceLitOtherStopTable w s st z h2 (by omega) h3 h4 hp).mono fun _ _ => up
  | true => exact ok_FnAdvanceLitOtherStopTable w s st z ea h2 (by omega) h3 h4 hp hg
end Go.Proofs.YtaaobebpjblbdaaFmt
