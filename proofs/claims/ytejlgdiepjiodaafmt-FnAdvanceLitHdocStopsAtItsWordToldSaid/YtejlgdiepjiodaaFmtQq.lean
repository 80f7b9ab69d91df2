/-
  n010_145: FnAdvanceLitHdocStopsAtItsWord, walked.
-/
import Derived.Test.YtejlgdiepjiodaaFmtQp
namespace Go.Proofs.YtejlgdiepjiodaaFmt
open Go.RowKit

set_option maxRecDepth 100000 in
set_option maxHeartbeats 1600000 in
theorem zb_FnAdvanceLitHdocStopsAtItsWord {w : World} (p0 : ByteArray) (p1 : ByteArray) (p2 : ByteArray) (p3 : ByteArray) (s0 : p0.size ≤ 9223372036854775807) (s1 : p1.size ≤ 9223372036854775807) (s2 : p2.size ≤ 9223372036854775807) (s3 : p3.size ≤ 9223372036854775807) : Calls Tryf.prog 23 #[.string p0, .string p1, .string p2, .string p3] w fun e w' => e = .returned (.bool (acc 0 (p0.size :: (p1.size :: (p2.size :: (p3.size :: []))))).isSome) ∧ w = w' := by
  obtain ⟨bv, hbv⟩ : ∃ b, b = (acc 0 (p0.size :: (p1.size :: (p2.size :: (p3.size :: []))))).isSome := ⟨_, rfl⟩
  rw [← hbv]
  have HBV := Lib.hid hbv
  clear hbv
  go_enter Tryf.func23, Tryf.ntmps23
  by_cases g0 : 1048576 < p0.size
  · go_wp2_with fail
    go_ret
    rw [HBV.out]
    have e : acc 0 (p0.size :: (p1.size :: (p2.size :: (p3.size :: [])))) = none := by
      simp only [acc, Nat.zero_add]
      repeat' split
      all_goals first | rfl | omega
    rw [e]
    exact ⟨rfl, rfl⟩
  by_cases g1 : 1048576 < p1.size
  · go_wp2_with fail
    go_ret
    rw [HBV.out]
    have e : acc 0 (p0.size :: (p1.size :: (p2.size :: (p3.size :: [])))) = none := by
      simp only [acc, Nat.zero_add]
      repeat' split
      all_goals first | rfl | omega
    rw [e]
    exact ⟨rfl, rfl⟩
  by_cases g2 : 1048576 < p0.size + p1.size
  · go_wp2_with fail
    go_ret
    rw [HBV.out]
    have e : acc 0 (p0.size :: (p1.size :: (p2.size :: (p3.size :: [])))) = none := by
      simp only [acc, Nat.zero_add]
      repeat' split
      all_goals first | rfl | omega
    rw [e]
    exact ⟨rfl, rfl⟩
  by_cases g3 : 1048576 < p2.size
  · go_wp2_with fail
    go_ret
    rw [HBV.out]
    have e : acc 0 (p0.size :: (p1.size :: (p2.size :: (p3.size :: [])))) = none := by
      simp only [acc, Nat.zero_add]
      repeat' split
      all_goals first | rfl | omega
    rw [e]
    exact ⟨rfl, rfl⟩
  by_cases g4 : 1048576 < p0.size + p1.size + p2.size
  · go_wp2_with fail
    go_ret
    rw [HBV.out]
    have e : acc 0 (p0.size :: (p1.size :: (p2.size :: (p3.size :: [])))) = none := by
      simp only [acc, Nat.zero_add]
      repeat' split
      all_goals first | rfl | omega
    rw [e]
    exact ⟨rfl, rfl⟩
  by_cases g5 : 1048576 < p3.size
  · go_wp2_with fail
    go_ret
    rw [HBV.out]
    have e : acc 0 (p0.size :: (p1.size :: (p2.size :: (p3.size :: [])))) = none := by
      simp only [acc, Nat.zero_add]
      repeat' split
      all_goals first | rfl | omega
    rw [e]
    exact ⟨rfl, rfl⟩
  by_cases g6 : 1048576 < p0.size + p1.size + p2.size + p3.size
  · go_wp2_with fail
    go_ret
    rw [HBV.out]
    have e : acc 0 (p0.size :: (p1.size :: (p2.size :: (p3.size :: [])))) = none := by
      simp only [acc, Nat.zero_add]
      repeat' split
      all_goals first | rfl | omega
    rw [e]
    exact ⟨rfl, rfl⟩
  go_wp2_with fail
  go_ret
  rw [HBV.out]
  have e : (acc 0 (p0.size :: (p1.size :: (p2.size :: (p3.size :: []))))).isSome = true := by
    simp only [acc, Nat.zero_add]
    repeat' split
    all_goals first | rfl | omega
  rw [e]
  exact ⟨rfl, rfl⟩

def allZ (s : ByteArray) : Bool := allH s.data.toList
def hbz (s : ByteArray) (c : Int) : Bool := hasB (UInt8.ofNat c.toNat) s.data.toList
def slz (s st : ByteArray) : Bool := someL st.data.toList [] s.data.toList
theorem alz (s : ByteArray) (hs : s.size ≤ 10000000) (w : World) : Calls Tryf.prog 20 #[.string s] w fun e w' => e = .returned (.bool (allZ s)) ∧ w = w' := hdalpha s w hs
theorem hbz_run (s : ByteArray) (hs : s.size ≤ 10000000) (c : Int) (h0 : 0 ≤ c) (h1 : c < 256) (w : World) : Calls Tryf.prog 24 #[.string s, .int .u8 c] w fun e w' => e = .returned (.bool (hbz s c)) ∧ w = w' :=
  hasbyte s _ w hs c (by rw [UInt8.toNat_ofNat', Nat.mod_eq_of_lt (by omega)]; omega)
theorem slz_run (s st : ByteArray) (hs : s.size ≤ 10000000) (w : World) : Calls Tryf.prog 25 #[.string s, .string st] w fun e w' => e = .returned (.bool (slz s st)) ∧ w = w' := someline w s st hs _ rfl

theorem skip1_hs (w : World) (b st x y : ByteArray) (h1 : b.size ≤ 9223372036854775807) (h2 : st.size ≤ 9223372036854775807) (h3 : x.size ≤ 9223372036854775807) (h4 : y.size ≤ 9223372036854775807) (h : (acc 0 [b.size, st.size, x.size, y.size]).isSome = false) : Calls Tryf.prog 8 #[.string b, .string st, .string x, .string y] w fun e w' => e = .returned (.bool true) ∧ Kept [] w w' := by
  have HB := Lib.hid (fun w => zb_FnAdvanceLitHdocStopsAtItsWord (w := w) b st x y h1 h2 h3 h4)
  rw [h] at HB
  clear h
  go_enter Tryf.func8, Tryf.ntmps8
  go_wp2_with ((go_at_call 23; refine (HB.out _).mono ?_; rintro e w' ⟨rfl, rfl⟩))
  go_ret
  exact ⟨rfl, Kept.refl _ _⟩

theorem acc_four {a b c d : Nat} (h : (acc 0 [a, b, c, d]).isSome = true) : a ≤ 1048576 ∧ b ≤ 1048576 ∧ c ≤ 1048576 ∧ d ≤ 1048576 ∧ a + b + c + d ≤ 1048576 := by
  simp only [acc] at h
  repeat' split at h
  all_goals first | omega | (simp at h)

set_option maxRecDepth 100000 in
set_option maxHeartbeats 4000000 in
theorem skip2_hs (w : World) (b st x y : ByteArray) (h : (acc 0 [b.size, st.size, x.size, y.size]).isSome = true) (ha : allZ b = false) : Calls Tryf.prog 8 #[.string b, .string st, .string x, .string y] w fun e w' => e = .returned (.bool true) ∧ Kept [] w w' := by
  obtain ⟨h1, h2, h3, h4, h5⟩ := acc_four h
  have HB := Lib.hid (fun w => zb_FnAdvanceLitHdocStopsAtItsWord (w := w) b st x y (by omega) (by omega) (by omega) (by omega))
  rw [h] at HB
  clear h
  go_enter Tryf.func8, Tryf.ntmps8
  go_wp2_with (first | (go_at_call 23; refine (HB.out _).mono ?_; rintro e w' ⟨rfl, rfl⟩) | (go_at_call 20; refine (alz _ (by omega) _).mono ?_; rintro e w' ⟨rfl, rfl⟩))
  go_ret
  exact ⟨rfl, Kept.refl _ _⟩
end Go.Proofs.YtejlgdiepjiodaaFmt
