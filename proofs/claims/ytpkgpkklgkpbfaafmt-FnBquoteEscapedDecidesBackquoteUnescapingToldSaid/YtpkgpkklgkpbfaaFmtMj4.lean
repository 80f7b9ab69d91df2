/-
  n010_110's own UTF-8 decoder, walked: four bytes.
-/
import Derived.Test.YtpkgpkklgkpbfaaFmtMj
import Derived.Test.YtpkgpkklgkpbfaaFmtLexA
namespace Go.Proofs.YtpkgpkklgkpbfaaFmt
open Go.RowKit

set_option maxRecDepth 100000 in
set_option maxHeartbeats 4000000 in
theorem zdec_4a (s : ByteArray) (k : Nat) (hs : s.size ≤ 10000000) (h0 : k < s.size) (x0 : Int) (e0 : ((s[k]'h0).toNat : Int) = x0) (h1 : k + 1 < s.size) (x1 : Int) (e1 : ((s[k + 1]'h1).toNat : Int) = x1) (h2 : k + 2 < s.size) (x2 : Int) (e2 : ((s[k + 2]'h2).toNat : Int) = x2) (h3 : k + 3 < s.size) (x3 : Int) (e3 : ((s[k + 3]'h3).toNat : Int) = x3) (hx : 240 ≤ x0) (hx2 : x0 ≤ 244) (hc1 : contB x1 = true) (hc2 : contB x2 = true) (hc3 : contB x3 = true) (v : Int) (hv : x0 % 8 * 262144 + x1 % 64 * 4096 + x2 % 64 * 64 + x3 % 64 = v) (hr1 : v < 65536) (w : World) :
    Calls Tryf.prog 17 #[.string s, .int .i64 k] w fun e w' => e = .returned (.tuple #[.int .i32 0, .int .i64 1, .bool false]) ∧ Kept [] w w' := by
  obtain ⟨a0, ha0⟩ : ∃ a : Int, bits BinOp.and IntKind.u8 x0 7 = a := ⟨_, rfl⟩
  have ea : a0 = x0 % 8 := by rw [← ha0]; exact u8_and7 x0 (by omega) (by omega)
  have q0 : 0 ≤ a0 ∧ a0 < 8 := by omega
  have hb1 : 0 ≤ x1 ∧ x1 < 256 := by have := (s[k + 1]'h1).toNat_lt; omega
  obtain ⟨c1, hc1x⟩ : ∃ a : Int, bits BinOp.and IntKind.u8 x1 63 = a := ⟨_, rfl⟩
  have ec1 : c1 = x1 % 64 := by rw [← hc1x]; exact u8_and63 x1 hb1.1 hb1.2
  have q1 : 0 ≤ c1 ∧ c1 < 64 := by omega
  have hb2 : 0 ≤ x2 ∧ x2 < 256 := by have := (s[k + 2]'h2).toNat_lt; omega
  obtain ⟨c2, hc2x⟩ : ∃ a : Int, bits BinOp.and IntKind.u8 x2 63 = a := ⟨_, rfl⟩
  have ec2 : c2 = x2 % 64 := by rw [← hc2x]; exact u8_and63 x2 hb2.1 hb2.2
  have q2 : 0 ≤ c2 ∧ c2 < 64 := by omega
  have hb3 : 0 ≤ x3 ∧ x3 < 256 := by have := (s[k + 3]'h3).toNat_lt; omega
  obtain ⟨c3, hc3x⟩ : ∃ a : Int, bits BinOp.and IntKind.u8 x3 63 = a := ⟨_, rfl⟩
  have ec3 : c3 = x3 % 64 := by rw [← hc3x]; exact u8_and63 x3 hb3.1 hb3.2
  have q3 : 0 ≤ c3 ∧ c3 < 64 := by omega
  have ho1 : bits BinOp.or IntKind.i32 (a0 * 262144) (c1 * 4096) = a0 * 262144 + c1 * 4096 := i32_or18 _ _ (by omega) (by omega) (by omega) (by omega) (by omega)
  have ho2 : bits BinOp.or IntKind.i32 (a0 * 262144 + c1 * 4096) (c2 * 64) = a0 * 262144 + c1 * 4096 + c2 * 64 := i32_or12 _ _ (by omega) (by omega) (by omega) (by omega) (by omega)
  have ho3 : bits BinOp.or IntKind.i32 (a0 * 262144 + c1 * 4096 + c2 * 64) c3 = a0 * 262144 + c1 * 4096 + c2 * 64 + c3 := i32_or6 _ _ (by omega) (by omega) (by omega) q3.1 q3.2
  obtain ⟨r, hr⟩ : ∃ r, a0 * 262144 + c1 * 4096 + c2 * 64 + c3 = r := ⟨_, rfl⟩
  rw [hr] at ho3
  rw [← ea, ← ec1, ← ec2, ← ec3, hr] at hv
  have hn1 : (k : Int) + 1 < s.size := by omega
  have hn2 : (k : Int) + 2 < s.size := by omega
  have hn3 : (k : Int) + 3 < s.size := by omega
  have g1 : ¬ (s.size : Int) - k < 4 := by omega
  have gd : decide ((s.size : Int) - k < 4) = false := by simp; omega
  clear ea ec1 ec2 ec3 hr
  subst hv
  go_enter Tryf.func17, Tryf.ntmps17
  go_wp2_with (go_at_call 19; refine (zcont_run _ _).mono ?_; rintro e w' ⟨rfl, rfl⟩)
  go_quiet (fail)
  go_wp2_with fail
  go_returns
  exact ⟨rfl, (Kept.refl _ _).drewN _⟩

set_option maxRecDepth 100000 in
set_option maxHeartbeats 4000000 in
theorem zdec_4b (s : ByteArray) (k : Nat) (hs : s.size ≤ 10000000) (h0 : k < s.size) (x0 : Int) (e0 : ((s[k]'h0).toNat : Int) = x0) (h1 : k + 1 < s.size) (x1 : Int) (e1 : ((s[k + 1]'h1).toNat : Int) = x1) (h2 : k + 2 < s.size) (x2 : Int) (e2 : ((s[k + 2]'h2).toNat : Int) = x2) (h3 : k + 3 < s.size) (x3 : Int) (e3 : ((s[k + 3]'h3).toNat : Int) = x3) (hx : 240 ≤ x0) (hx2 : x0 ≤ 244) (hc1 : contB x1 = true) (hc2 : contB x2 = true) (hc3 : contB x3 = true) (v : Int) (hv : x0 % 8 * 262144 + x1 % 64 * 4096 + x2 % 64 * 64 + x3 % 64 = v) (hr1 : 1114111 < v) (w : World) :
    Calls Tryf.prog 17 #[.string s, .int .i64 k] w fun e w' => e = .returned (.tuple #[.int .i32 0, .int .i64 1, .bool false]) ∧ Kept [] w w' := by
  obtain ⟨a0, ha0⟩ : ∃ a : Int, bits BinOp.and IntKind.u8 x0 7 = a := ⟨_, rfl⟩
  have ea : a0 = x0 % 8 := by rw [← ha0]; exact u8_and7 x0 (by omega) (by omega)
  have q0 : 0 ≤ a0 ∧ a0 < 8 := by omega
  have hb1 : 0 ≤ x1 ∧ x1 < 256 := by have := (s[k + 1]'h1).toNat_lt; omega
  obtain ⟨c1, hc1x⟩ : ∃ a : Int, bits BinOp.and IntKind.u8 x1 63 = a := ⟨_, rfl⟩
  have ec1 : c1 = x1 % 64 := by rw [← hc1x]; exact u8_and63 x1 hb1.1 hb1.2
  have q1 : 0 ≤ c1 ∧ c1 < 64 := by omega
  have hb2 : 0 ≤ x2 ∧ x2 < 256 := by have := (s[k + 2]'h2).toNat_lt; omega
  obtain ⟨c2, hc2x⟩ : ∃ a : Int, bits BinOp.and IntKind.u8 x2 63 = a := ⟨_, rfl⟩
  have ec2 : c2 = x2 % 64 := by rw [← hc2x]; exact u8_and63 x2 hb2.1 hb2.2
  have q2 : 0 ≤ c2 ∧ c2 < 64 := by omega
  have hb3 : 0 ≤ x3 ∧ x3 < 256 := by have := (s[k + 3]'h3).toNat_lt; omega
  obtain ⟨c3, hc3x⟩ : ∃ a : Int, bits BinOp.and IntKind.u8 x3 63 = a := ⟨_, rfl⟩
  have ec3 : c3 = x3 % 64 := by rw [← hc3x]; exact u8_and63 x3 hb3.1 hb3.2
  have q3 : 0 ≤ c3 ∧ c3 < 64 := by omega
  have ho1 : bits BinOp.or IntKind.i32 (a0 * 262144) (c1 * 4096) = a0 * 262144 + c1 * 4096 := i32_or18 _ _ (by omega) (by omega) (by omega) (by omega) (by omega)
  have ho2 : bits BinOp.or IntKind.i32 (a0 * 262144 + c1 * 4096) (c2 * 64) = a0 * 262144 + c1 * 4096 + c2 * 64 := i32_or12 _ _ (by omega) (by omega) (by omega) (by omega) (by omega)
  have ho3 : bits BinOp.or IntKind.i32 (a0 * 262144 + c1 * 4096 + c2 * 64) c3 = a0 * 262144 + c1 * 4096 + c2 * 64 + c3 := i32_or6 _ _ (by omega) (by omega) (by omega) q3.1 q3.2
  obtain ⟨r, hr⟩ : ∃ r, a0 * 262144 + c1 * 4096 + c2 * 64 + c3 = r := ⟨_, rfl⟩
  rw [hr] at ho3
  rw [← ea, ← ec1, ← ec2, ← ec3, hr] at hv
  have hn1 : (k : Int) + 1 < s.size := by omega
  have hn2 : (k : Int) + 2 < s.size := by omega
  have hn3 : (k : Int) + 3 < s.size := by omega
  have g1 : ¬ (s.size : Int) - k < 4 := by omega
  have gd : decide ((s.size : Int) - k < 4) = false := by simp; omega
  clear ea ec1 ec2 ec3 hr
  subst hv
  go_enter Tryf.func17, Tryf.ntmps17
  go_wp2_with (go_at_call 19; refine (zcont_run _ _).mono ?_; rintro e w' ⟨rfl, rfl⟩)
  go_quiet (fail)
  go_wp2_with fail
  go_returns
  exact ⟨rfl, (Kept.refl _ _).drewN _⟩

set_option maxRecDepth 100000 in
set_option maxHeartbeats 4000000 in
theorem zdec_4o (s : ByteArray) (k : Nat) (hs : s.size ≤ 10000000) (h0 : k < s.size) (x0 : Int) (e0 : ((s[k]'h0).toNat : Int) = x0) (h1 : k + 1 < s.size) (x1 : Int) (e1 : ((s[k + 1]'h1).toNat : Int) = x1) (h2 : k + 2 < s.size) (x2 : Int) (e2 : ((s[k + 2]'h2).toNat : Int) = x2) (h3 : k + 3 < s.size) (x3 : Int) (e3 : ((s[k + 3]'h3).toNat : Int) = x3) (hx : 240 ≤ x0) (hx2 : x0 ≤ 244) (hc1 : contB x1 = true) (hc2 : contB x2 = true) (hc3 : contB x3 = true) (v : Int) (hv : x0 % 8 * 262144 + x1 % 64 * 4096 + x2 % 64 * 64 + x3 % 64 = v) (hr1 : 65536 ≤ v) (hr2 : v ≤ 1114111) (w : World) :
    Calls Tryf.prog 17 #[.string s, .int .i64 k] w fun e w' => e = .returned (.tuple #[.int .i32 v, .int .i64 4, .bool true]) ∧ Kept [] w w' := by
  obtain ⟨a0, ha0⟩ : ∃ a : Int, bits BinOp.and IntKind.u8 x0 7 = a := ⟨_, rfl⟩
  have ea : a0 = x0 % 8 := by rw [← ha0]; exact u8_and7 x0 (by omega) (by omega)
  have q0 : 0 ≤ a0 ∧ a0 < 8 := by omega
  have hb1 : 0 ≤ x1 ∧ x1 < 256 := by have := (s[k + 1]'h1).toNat_lt; omega
  obtain ⟨c1, hc1x⟩ : ∃ a : Int, bits BinOp.and IntKind.u8 x1 63 = a := ⟨_, rfl⟩
  have ec1 : c1 = x1 % 64 := by rw [← hc1x]; exact u8_and63 x1 hb1.1 hb1.2
  have q1 : 0 ≤ c1 ∧ c1 < 64 := by omega
  have hb2 : 0 ≤ x2 ∧ x2 < 256 := by have := (s[k + 2]'h2).toNat_lt; omega
  obtain ⟨c2, hc2x⟩ : ∃ a : Int, bits BinOp.and IntKind.u8 x2 63 = a := ⟨_, rfl⟩
  have ec2 : c2 = x2 % 64 := by rw [← hc2x]; exact u8_and63 x2 hb2.1 hb2.2
  have q2 : 0 ≤ c2 ∧ c2 < 64 := by omega
  have hb3 : 0 ≤ x3 ∧ x3 < 256 := by have := (s[k + 3]'h3).toNat_lt; omega
  obtain ⟨c3, hc3x⟩ : ∃ a : Int, bits BinOp.and IntKind.u8 x3 63 = a := ⟨_, rfl⟩
  have ec3 : c3 = x3 % 64 := by rw [← hc3x]; exact u8_and63 x3 hb3.1 hb3.2
  have q3 : 0 ≤ c3 ∧ c3 < 64 := by omega
  have ho1 : bits BinOp.or IntKind.i32 (a0 * 262144) (c1 * 4096) = a0 * 262144 + c1 * 4096 := i32_or18 _ _ (by omega) (by omega) (by omega) (by omega) (by omega)
  have ho2 : bits BinOp.or IntKind.i32 (a0 * 262144 + c1 * 4096) (c2 * 64) = a0 * 262144 + c1 * 4096 + c2 * 64 := i32_or12 _ _ (by omega) (by omega) (by omega) (by omega) (by omega)
  have ho3 : bits BinOp.or IntKind.i32 (a0 * 262144 + c1 * 4096 + c2 * 64) c3 = a0 * 262144 + c1 * 4096 + c2 * 64 + c3 := i32_or6 _ _ (by omega) (by omega) (by omega) q3.1 q3.2
  obtain ⟨r, hr⟩ : ∃ r, a0 * 262144 + c1 * 4096 + c2 * 64 + c3 = r := ⟨_, rfl⟩
  rw [hr] at ho3
  rw [← ea, ← ec1, ← ec2, ← ec3, hr] at hv
  have hn1 : (k : Int) + 1 < s.size := by omega
  have hn2 : (k : Int) + 2 < s.size := by omega
  have hn3 : (k : Int) + 3 < s.size := by omega
  have g1 : ¬ (s.size : Int) - k < 4 := by omega
  have gd : decide ((s.size : Int) - k < 4) = false := by simp; omega
  clear ea ec1 ec2 ec3 hr
  subst hv
  go_enter Tryf.func17, Tryf.ntmps17
  go_wp2_with (go_at_call 19; refine (zcont_run _ _).mono ?_; rintro e w' ⟨rfl, rfl⟩)
  go_quiet (fail)
  go_wp2_with fail
  go_returns
  exact ⟨rfl, (Kept.refl _ _).drewN _⟩

end Go.Proofs.YtpkgpkklgkpbfaaFmt
