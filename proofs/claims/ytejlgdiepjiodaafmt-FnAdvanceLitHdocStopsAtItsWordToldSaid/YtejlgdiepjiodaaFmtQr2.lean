/-
  n010_145: FnAdvanceLitHdocStopsAtItsWord: a body that does not end in a line's end, or in which the word stands; and what is left.
-/
import Derived.Test.YtejlgdiepjiodaaFmtQr
namespace Go.Proofs.YtejlgdiepjiodaaFmt
open Go.RowKit

theorem hbz_no {s : ByteArray} {c : Int} (h : hbz s c = false) : ∀ y ∈ s.data.toList, y ≠ UInt8.ofNat c.toNat := hasB_no h

theorem cat_x (b st x : ByteArray) : (b ++ st ++ ⟨#[10]⟩ ++ x).data.toList = b.data.toList ++ st.data.toList ++ 10 :: x.data.toList := by
  simp [ByteArray.data_append]

set_option maxRecDepth 100000 in
set_option maxHeartbeats 8000000 in
theorem skip9_hs (w : World) (b st x y : ByteArray) (h : (acc 0 [b.size, st.size, x.size, y.size]).isSome = true) (g0 : allZ b = true) (g1 : allZ st = true) (g2 : hbz b 36 = false) (g3 : hbz b 96 = false) (g4 : hbz st 36 = false) (g5 : hbz st 96 = false) (g6 : hbz st 10 = false) {m : Nat} (hm : b.size = m + 1) (hlt : m < b.size) (hl : ((b[m]).toNat : Int) ≠ 10) : Calls Tryf.prog 8 #[.string b, .string st, .string x, .string y] w fun e w' => e = .returned (.bool true) ∧ Kept [] w w' := by
  obtain ⟨h1, h2, h3, h4, h5⟩ := acc_four h
  have HB := Lib.hid (fun w => zb_FnAdvanceLitHdocStopsAtItsWord (w := w) b st x y (by omega) (by omega) (by omega) (by omega))
  rw [h] at HB
  have gi : ((b.size : Int) - 1) = m := by omega
  have gp : 0 < b.size := by omega
  clear hm
  have gl : (((b[m]).toNat : Int) != 10) = true := by simpa using hl
  clear h
  go_enter Tryf.func8, Tryf.ntmps8
  go_wp2_with (first | (go_at_call 23; refine (HB.out _).mono ?_; rintro e w' ⟨rfl, rfl⟩) | (go_at_call 20; refine (alz _ (by omega) _).mono ?_; rintro e w' ⟨rfl, rfl⟩) | (go_at_call 24; refine (hbz_run _ (by omega) _ (by decide) (by decide) _).mono ?_; rintro e w' ⟨rfl, rfl⟩))
  go_ret
  exact ⟨rfl, Kept.refl _ _⟩
set_option maxRecDepth 100000 in
set_option maxHeartbeats 8000000 in
theorem skip10_hs (w : World) (b st x y : ByteArray) (h : (acc 0 [b.size, st.size, x.size, y.size]).isSome = true) (g0 : allZ b = true) (g1 : allZ st = true) (g2 : hbz b 36 = false) (g3 : hbz b 96 = false) (g4 : hbz st 36 = false) (g5 : hbz st 96 = false) (g6 : hbz st 10 = false) {m : Nat} (hm : b.size = m + 1) (hlt : m < b.size) (hl : ((b[m]).toNat : Int) = 10) (gs : slz b st = true) : Calls Tryf.prog 8 #[.string b, .string st, .string x, .string y] w fun e w' => e = .returned (.bool true) ∧ Kept [] w w' := by
  obtain ⟨h1, h2, h3, h4, h5⟩ := acc_four h
  have HB := Lib.hid (fun w => zb_FnAdvanceLitHdocStopsAtItsWord (w := w) b st x y (by omega) (by omega) (by omega) (by omega))
  rw [h] at HB
  have gi : ((b.size : Int) - 1) = m := by omega
  have gp : 0 < b.size := by omega
  clear hm
  clear h
  go_enter Tryf.func8, Tryf.ntmps8
  go_wp2_with (first | (go_at_call 23; refine (HB.out _).mono ?_; rintro e w' ⟨rfl, rfl⟩) | (go_at_call 20; refine (alz _ (by omega) _).mono ?_; rintro e w' ⟨rfl, rfl⟩) | (go_at_call 24; refine (hbz_run _ (by omega) _ (by decide) (by decide) _).mono ?_; rintro e w' ⟨rfl, rfl⟩) | (go_at_call 25; refine (slz_run _ _ (by omega) _).mono ?_; rintro e w' ⟨rfl, rfl⟩))
  go_ret
  exact ⟨rfl, Kept.refl _ _⟩
set_option maxRecDepth 100000 in
set_option maxHeartbeats 8000000 in
theorem skip11_hs (w : World) (b st x y : ByteArray) (h : (acc 0 [b.size, st.size, x.size, y.size]).isSome = true) (g0 : allZ b = true) (g1 : allZ st = true) (g2 : hbz b 36 = false) (g3 : hbz b 96 = false) (g4 : hbz st 36 = false) (g5 : hbz st 96 = false) (g6 : hbz st 10 = false) (hm : b.size = 0) (gs : slz b st = true) : Calls Tryf.prog 8 #[.string b, .string st, .string x, .string y] w fun e w' => e = .returned (.bool true) ∧ Kept [] w w' := by
  obtain ⟨h1, h2, h3, h4, h5⟩ := acc_four h
  have HB := Lib.hid (fun w => zb_FnAdvanceLitHdocStopsAtItsWord (w := w) b st x y (by omega) (by omega) (by omega) (by omega))
  rw [h] at HB
  clear h
  go_enter Tryf.func8, Tryf.ntmps8
  go_wp2_with (first | (go_at_call 23; refine (HB.out _).mono ?_; rintro e w' ⟨rfl, rfl⟩) | (go_at_call 20; refine (alz _ (by omega) _).mono ?_; rintro e w' ⟨rfl, rfl⟩) | (go_at_call 24; refine (hbz_run _ (by omega) _ (by decide) (by decide) _).mono ?_; rintro e w' ⟨rfl, rfl⟩) | (go_at_call 25; refine (slz_run _ _ (by omega) _).mono ?_; rintro e w' ⟨rfl, rfl⟩))
  go_ret
  exact ⟨rfl, Kept.refl _ _⟩
set_option maxRecDepth 100000 in
set_option maxHeartbeats 8000000 in
theorem ok1_hs (w : World) (b st x y : ByteArray) (h : (acc 0 [b.size, st.size, x.size, y.size]).isSome = true) (g0 : allZ b = true) (g1 : allZ st = true) (g2 : hbz b 36 = false) (g3 : hbz b 96 = false) (g4 : hbz st 36 = false) (g5 : hbz st 96 = false) (g6 : hbz st 10 = false) {m : Nat} (hm : b.size = m + 1) (hlt : m < b.size) (hl : ((b[m]).toNat : Int) = 10) (gs : slz b st = false) (hb : b.toList.isEmpty = false) (h6 : Calls Tryf.prog 21 #[.string (b ++ st ++ ⟨#[10]⟩ ++ x), .string st] w fun e w' => e = .returned (.tuple #[.int .u32 4, .string b, .int .i32 10, .bool true]) ∧ Kept [] w w') (h7 : ∀ w1, Kept [] w w1 → Calls Tryf.prog 21 #[.string (b ++ st ++ ⟨#[10]⟩ ++ y), .string st] w1 fun e w' => e = .returned (.tuple #[.int .u32 4, .string b, .int .i32 10, .bool true]) ∧ Kept [] w1 w') : Calls Tryf.prog 8 #[.string b, .string st, .string x, .string y] w fun e w' => e = .returned (.bool true) ∧ Kept [] w w' := by
  obtain ⟨h1, h2, h3, h4, h5⟩ := acc_four h
  have HB := Lib.hid (fun w => zb_FnAdvanceLitHdocStopsAtItsWord (w := w) b st x y (by omega) (by omega) (by omega) (by omega))
  rw [h] at HB
  have gi : ((b.size : Int) - 1) = m := by omega
  have gp : 0 < b.size := by omega
  clear hm
  have H1 := Lib.hid h6
  have H2 := Lib.hid h7
  clear h6 h7
  clear h
  go_enter Tryf.func8, Tryf.ntmps8
  go_wp2_with (first | (go_at_call 23; refine (HB.out _).mono ?_; rintro e w' ⟨rfl, rfl⟩) | (go_at_call 20; refine (alz _ (by omega) _).mono ?_; rintro e w' ⟨rfl, rfl⟩) | (go_at_call 24; refine (hbz_run _ (by omega) _ (by decide) (by decide) _).mono ?_; rintro e w' ⟨rfl, rfl⟩) | (go_at_call 25; refine (slz_run _ _ (by omega) _).mono ?_; rintro e w' ⟨rfl, rfl⟩) | (go_at_call 21; first | (refine (H2.out _ HK1.out).mono ?_; rintro e w2 ⟨rfl, hk2⟩; have HK2 := Lib.hid hk2; clear hk2) | (refine H1.out.mono ?_; rintro e w1 ⟨rfl, hk1⟩; have HK1 := Lib.hid hk1; clear hk1)))
  go_ret
  exact ⟨rfl, HK1.out.trans HK2.out⟩
set_option maxRecDepth 100000 in
set_option maxHeartbeats 8000000 in
theorem ok0_hs (w : World) (b st x y : ByteArray) (h : (acc 0 [b.size, st.size, x.size, y.size]).isSome = true) (g0 : allZ b = true) (g1 : allZ st = true) (g2 : hbz b 36 = false) (g3 : hbz b 96 = false) (g4 : hbz st 36 = false) (g5 : hbz st 96 = false) (g6 : hbz st 10 = false) (hm : b.size = 0) (gs : slz b st = false) (hb : b.toList.isEmpty = true) (h6 : Calls Tryf.prog 21 #[.string (b ++ st ++ ⟨#[10]⟩ ++ x), .string st] w fun e w' => e = .returned (.tuple #[.int .u32 2, .string b, .int .i32 10, .bool true]) ∧ Kept [] w w') (h7 : ∀ w1, Kept [] w w1 → Calls Tryf.prog 21 #[.string (b ++ st ++ ⟨#[10]⟩ ++ y), .string st] w1 fun e w' => e = .returned (.tuple #[.int .u32 2, .string b, .int .i32 10, .bool true]) ∧ Kept [] w1 w') : Calls Tryf.prog 8 #[.string b, .string st, .string x, .string y] w fun e w' => e = .returned (.bool true) ∧ Kept [] w w' := by
  obtain ⟨h1, h2, h3, h4, h5⟩ := acc_four h
  have HB := Lib.hid (fun w => zb_FnAdvanceLitHdocStopsAtItsWord (w := w) b st x y (by omega) (by omega) (by omega) (by omega))
  rw [h] at HB
  have H1 := Lib.hid h6
  have H2 := Lib.hid h7
  clear h6 h7
  clear h
  go_enter Tryf.func8, Tryf.ntmps8
  go_wp2_with (first | (go_at_call 23; refine (HB.out _).mono ?_; rintro e w' ⟨rfl, rfl⟩) | (go_at_call 20; refine (alz _ (by omega) _).mono ?_; rintro e w' ⟨rfl, rfl⟩) | (go_at_call 24; refine (hbz_run _ (by omega) _ (by decide) (by decide) _).mono ?_; rintro e w' ⟨rfl, rfl⟩) | (go_at_call 25; refine (slz_run _ _ (by omega) _).mono ?_; rintro e w' ⟨rfl, rfl⟩) | (go_at_call 21; first | (refine (H2.out _ HK1.out).mono ?_; rintro e w2 ⟨rfl, hk2⟩; have HK2 := Lib.hid hk2; clear hk2) | (refine H1.out.mono ?_; rintro e w1 ⟨rfl, hk1⟩; have HK1 := Lib.hid hk1; clear hk1)))
  go_ret
  exact ⟨rfl, HK1.out.trans HK2.out⟩
end Go.Proofs.YtejlgdiepjiodaaFmt
