/-
  n010_110's own UTF-8 decoder, walked: three bytes.
-/
import Derived.Test.YtpkgpkklgkpbfaaFmtMj
import Derived.Test.YtpkgpkklgkpbfaaFmtLexA
namespace Go.Proofs.YtpkgpkklgkpbfaaFmt
open Go.RowKit

set_option maxRecDepth 100000 in
set_option maxHeartbeats 4000000 in
theorem zdec_3a (s : ByteArray) (k : Nat) (hs : s.size ≤ 10000000) (h0 : k < s.size) (x0 : Int) (e0 : ((s[k]'h0).toNat : Int) = x0) (h1 : k + 1 < s.size) (x1 : Int) (e1 : ((s[k + 1]'h1).toNat : Int) = x1) (h2 : k + 2 < s.size) (x2 : Int) (e2 : ((s[k + 2]'h2).toNat : Int) = x2) (hx : 224 ≤ x0) (hx2 : x0 ≤ 239) (hc1 : contB x1 = true) (hc2 : contB x2 = true) (v : Int) (hv : x0 % 16 * 4096 + x1 % 64 * 64 + x2 % 64 = v) (hr1 : v < 2048) (w : World) :
    Calls Tryf.prog 17 #[.string s, .int .i64 k] w fun e w' => e = .returned (.tuple #[.int .i32 0, .int .i64 1, .bool false]) ∧ Kept [] w w' := by
  obtain ⟨a0, ha0⟩ : ∃ a : Int, bits BinOp.and IntKind.u8 x0 15 = a := ⟨_, rfl⟩
  have ea : a0 = x0 % 16 := by rw [← ha0]; exact u8_and15 x0 (by omega) (by omega)
  have q0 : 0 ≤ a0 ∧ a0 < 16 := by omega
  have hb1 : 0 ≤ x1 ∧ x1 < 256 := by have := (s[k + 1]'h1).toNat_lt; omega
  obtain ⟨c1, hc1x⟩ : ∃ a : Int, bits BinOp.and IntKind.u8 x1 63 = a := ⟨_, rfl⟩
  have ec1 : c1 = x1 % 64 := by rw [← hc1x]; exact u8_and63 x1 hb1.1 hb1.2
  have q1 : 0 ≤ c1 ∧ c1 < 64 := by omega
  have hb2 : 0 ≤ x2 ∧ x2 < 256 := by have := (s[k + 2]'h2).toNat_lt; omega
  obtain ⟨c2, hc2x⟩ : ∃ a : Int, bits BinOp.and IntKind.u8 x2 63 = a := ⟨_, rfl⟩
  have ec2 : c2 = x2 % 64 := by rw [← hc2x]; exact u8_and63 x2 hb2.1 hb2.2
  have q2 : 0 ≤ c2 ∧ c2 < 64 := by omega
  have ho1 : bits BinOp.or IntKind.i32 (a0 * 4096) (c1 * 64) = a0 * 4096 + c1 * 64 := i32_or12 _ _ (by omega) (by omega) (by omega) (by omega) (by omega)
  have ho2 : bits BinOp.or IntKind.i32 (a0 * 4096 + c1 * 64) c2 = a0 * 4096 + c1 * 64 + c2 := i32_or6 _ _ (by omega) (by omega) (by omega) q2.1 q2.2
  obtain ⟨r, hr⟩ : ∃ r, a0 * 4096 + c1 * 64 + c2 = r := ⟨_, rfl⟩
  rw [hr] at ho2
  rw [← ea, ← ec1, ← ec2, hr] at hv
  have hn1 : (k : Int) + 1 < s.size := by omega
  have hn2 : (k : Int) + 2 < s.size := by omega
  have g1 : ¬ (s.size : Int) - k < 3 := by omega
  have gd : decide ((s.size : Int) - k < 3) = false := by simp; omega
  clear ea ec1 ec2 hr
  subst hv
  go_enter Tryf.func17, Tryf.ntmps17
  go_wp2_with (go_at_call 19; refine (zcont_run _ _).mono ?_; rintro e w' ⟨rfl, rfl⟩)
  go_quiet (fail)
  go_wp2_with fail
  go_returns
  exact ⟨rfl, (Kept.refl _ _).drewN _⟩

set_option maxRecDepth 100000 in
set_option maxHeartbeats 4000000 in
theorem zdec_3b (s : ByteArray) (k : Nat) (hs : s.size ≤ 10000000) (h0 : k < s.size) (x0 : Int) (e0 : ((s[k]'h0).toNat : Int) = x0) (h1 : k + 1 < s.size) (x1 : Int) (e1 : ((s[k + 1]'h1).toNat : Int) = x1) (h2 : k + 2 < s.size) (x2 : Int) (e2 : ((s[k + 2]'h2).toNat : Int) = x2) (hx : 224 ≤ x0) (hx2 : x0 ≤ 239) (hc1 : contB x1 = true) (hc2 : contB x2 = true) (v : Int) (hv : x0 % 16 * 4096 + x1 % 64 * 64 + x2 % 64 = v) (hr1 : 55296 ≤ v) (hr2 : v ≤ 57343) (w : World) :
    Calls Tryf.prog 17 #[.string s, .int .i64 k] w fun e w' => e = .returned (.tuple #[.int .i32 0, .int .i64 1, .bool false]) ∧ Kept [] w w' := by
  obtain ⟨a0, ha0⟩ : ∃ a : Int, bits BinOp.and IntKind.u8 x0 15 = a := ⟨_, rfl⟩
  have ea : a0 = x0 % 16 := by rw [← ha0]; exact u8_and15 x0 (by omega) (by omega)
  have q0 : 0 ≤ a0 ∧ a0 < 16 := by omega
  have hb1 : 0 ≤ x1 ∧ x1 < 256 := by have := (s[k + 1]'h1).toNat_lt; omega
  obtain ⟨c1, hc1x⟩ : ∃ a : Int, bits BinOp.and IntKind.u8 x1 63 = a := ⟨_, rfl⟩
  have ec1 : c1 = x1 % 64 := by rw [← hc1x]; exact u8_and63 x1 hb1.1 hb1.2
  have q1 : 0 ≤ c1 ∧ c1 < 64 := by omega
  have hb2 : 0 ≤ x2 ∧ x2 < 256 := by have := (s[k + 2]'h2).toNat_lt; omega
  obtain ⟨c2, hc2x⟩ : ∃ a : Int, bits BinOp.and IntKind.u8 x2 63 = a := ⟨_, rfl⟩
  have ec2 : c2 = x2 % 64 := by rw [← hc2x]; exact u8_and63 x2 hb2.1 hb2.2
  have q2 : 0 ≤ c2 ∧ c2 < 64 := by omega
  have ho1 : bits BinOp.or IntKind.i32 (a0 * 4096) (c1 * 64) = a0 * 4096 + c1 * 64 := i32_or12 _ _ (by omega) (by omega) (by omega) (by omega) (by omega)
  have ho2 : bits BinOp.or IntKind.i32 (a0 * 4096 + c1 * 64) c2 = a0 * 4096 + c1 * 64 + c2 := i32_or6 _ _ (by omega) (by omega) (by omega) q2.1 q2.2
  obtain ⟨r, hr⟩ : ∃ r, a0 * 4096 + c1 * 64 + c2 = r := ⟨_, rfl⟩
  rw [hr] at ho2
  rw [← ea, ← ec1, ← ec2, hr] at hv
  have hn1 : (k : Int) + 1 < s.size := by omega
  have hn2 : (k : Int) + 2 < s.size := by omega
  have g1 : ¬ (s.size : Int) - k < 3 := by omega
  have gd : decide ((s.size : Int) - k < 3) = false := by simp; omega
  clear ea ec1 ec2 hr
  subst hv
  go_enter Tryf.func17, Tryf.ntmps17
  go_wp2_with (go_at_call 19; refine (zcont_run _ _).mono ?_; rintro e w' ⟨rfl, rfl⟩)
  go_quiet (fail)
  go_wp2_with fail
  go_returns
  exact ⟨rfl, (Kept.refl _ _).drewN _⟩

set_option maxRecDepth 100000 in
set_option maxHeartbeats 4000000 in
theorem zdec_3o (s : ByteArray) (k : Nat) (hs : s.size ≤ 10000000) (h0 : k < s.size) (x0 : Int) (e0 : ((s[k]'h0).toNat : Int) = x0) (h1 : k + 1 < s.size) (x1 : Int) (e1 : ((s[k + 1]'h1).toNat : Int) = x1) (h2 : k + 2 < s.size) (x2 : Int) (e2 : ((s[k + 2]'h2).toNat : Int) = x2) (hx : 224 ≤ x0) (hx2 : x0 ≤ 239) (hc1 : contB x1 = true) (hc2 : contB x2 = true) (v : Int) (hv : x0 % 16 * 4096 + x1 % 64 * 64 + x2 % 64 = v) (hr1 : 2048 ≤ v) (hr2 : v < 55296) (w : World) :
    Calls Tryf.prog 17 #[.string s, .int .i64 k] w fun e w' => e = .returned (.tuple #[.int .i32 v, .int .i64 3, .bool true]) ∧ Kept [] w w' := by
  obtain ⟨a0, ha0⟩ : ∃ a : Int, bits BinOp.and IntKind.u8 x0 15 = a := ⟨_, rfl⟩
  have ea : a0 = x0 % 16 := by rw [← ha0]; exact u8_and15 x0 (by omega) (by omega)
  have q0 : 0 ≤ a0 ∧ a0 < 16 := by omega
  have hb1 : 0 ≤ x1 ∧ x1 < 256 := by have := (s[k + 1]'h1).toNat_lt; omega
  obtain ⟨c1, hc1x⟩ : ∃ a : Int, bits BinOp.and IntKind.u8 x1 63 = a := ⟨_, rfl⟩
  have ec1 : c1 = x1 % 64 := by rw [← hc1x]; exact u8_and63 x1 hb1.1 hb1.2
  have q1 : 0 ≤ c1 ∧ c1 < 64 := by omega
  have hb2 : 0 ≤ x2 ∧ x2 < 256 := by have := (s[k + 2]'h2).toNat_lt; omega
  obtain ⟨c2, hc2x⟩ : ∃ a : Int, bits BinOp.and IntKind.u8 x2 63 = a := ⟨_, rfl⟩
  have ec2 : c2 = x2 % 64 := by rw [← hc2x]; exact u8_and63 x2 hb2.1 hb2.2
  have q2 : 0 ≤ c2 ∧ c2 < 64 := by omega
  have ho1 : bits BinOp.or IntKind.i32 (a0 * 4096) (c1 * 64) = a0 * 4096 + c1 * 64 := i32_or12 _ _ (by omega) (by omega) (by omega) (by omega) (by omega)
  have ho2 : bits BinOp.or IntKind.i32 (a0 * 4096 + c1 * 64) c2 = a0 * 4096 + c1 * 64 + c2 := i32_or6 _ _ (by omega) (by omega) (by omega) q2.1 q2.2
  obtain ⟨r, hr⟩ : ∃ r, a0 * 4096 + c1 * 64 + c2 = r := ⟨_, rfl⟩
  rw [hr] at ho2
  rw [← ea, ← ec1, ← ec2, hr] at hv
  have hn1 : (k : Int) + 1 < s.size := by omega
  have hn2 : (k : Int) + 2 < s.size := by omega
  have g1 : ¬ (s.size : Int) - k < 3 := by omega
  have gd : decide ((s.size : Int) - k < 3) = false := by simp; omega
  clear ea ec1 ec2 hr
  subst hv
  go_enter Tryf.func17, Tryf.ntmps17
  go_wp2_with (go_at_call 19; refine (zcont_run _ _).mono ?_; rintro e w' ⟨rfl, rfl⟩)
  go_quiet (fail)
  go_wp2_with fail
  go_returns
  exact ⟨rfl, (Kept.refl _ _).drewN _⟩

set_option maxRecDepth 100000 in
set_option maxHeartbeats 4000000 in
theorem zdec_3p (s : ByteArray) (k : Nat) (hs : s.size ≤ 10000000) (h0 : k < s.size) (x0 : Int) (e0 : ((s[k]'h0).toNat : Int) = x0) (h1 : k + 1 < s.size) (x1 : Int) (e1 : ((s[k + 1]'h1).toNat : Int) = x1) (h2 : k + 2 < s.size) (x2 : Int) (e2 : ((s[k + 2]'h2).toNat : Int) = x2) (hx : 224 ≤ x0) (hx2 : x0 ≤ 239) (hc1 : contB x1 = true) (hc2 : contB x2 = true) (v : Int) (hv : x0 % 16 * 4096 + x1 % 64 * 64 + x2 % 64 = v) (hr1 : 57343 < v) (w : World) :
    Calls Tryf.prog 17 #[.string s, .int .i64 k] w fun e w' => e = .returned (.tuple #[.int .i32 v, .int .i64 3, .bool true]) ∧ Kept [] w w' := by
  obtain ⟨a0, ha0⟩ : ∃ a : Int, bits BinOp.and IntKind.u8 x0 15 = a := ⟨_, rfl⟩
  have ea : a0 = x0 % 16 := by rw [← ha0]; exact u8_and15 x0 (by omega) (by omega)
  have q0 : 0 ≤ a0 ∧ a0 < 16 := by omega
  have hb1 : 0 ≤ x1 ∧ x1 < 256 := by have := (s[k + 1]'h1).toNat_lt; omega
  obtain ⟨c1, hc1x⟩ : ∃ a : Int, bits BinOp.and IntKind.u8 x1 63 = a := ⟨_, rfl⟩
  have ec1 : c1 = x1 % 64 := by rw [← hc1x]; exact u8_and63 x1 hb1.1 hb1.2
  have q1 : 0 ≤ c1 ∧ c1 < 64 := by omega
  have hb2 : 0 ≤ x2 ∧ x2 < 256 := by have := (s[k + 2]'h2).toNat_lt; omega
  obtain ⟨c2, hc2x⟩ : ∃ a : Int, bits BinOp.and IntKind.u8 x2 63 = a := ⟨_, rfl⟩
  have ec2 : c2 = x2 % 64 := by rw [← hc2x]; exact u8_and63 x2 hb2.1 hb2.2
  have q2 : 0 ≤ c2 ∧ c2 < 64 := by omega
  have ho1 : bits BinOp.or IntKind.i32 (a0 * 4096) (c1 * 64) = a0 * 4096 + c1 * 64 := i32_or12 _ _ (by omega) (by omega) (by omega) (by omega) (by omega)
  have ho2 : bits BinOp.or IntKind.i32 (a0 * 4096 + c1 * 64) c2 = a0 * 4096 + c1 * 64 + c2 := i32_or6 _ _ (by omega) (by omega) (by omega) q2.1 q2.2
  obtain ⟨r, hr⟩ : ∃ r, a0 * 4096 + c1 * 64 + c2 = r := ⟨_, rfl⟩
  rw [hr] at ho2
  rw [← ea, ← ec1, ← ec2, hr] at hv
  have hn1 : (k : Int) + 1 < s.size := by omega
  have hn2 : (k : Int) + 2 < s.size := by omega
  have g1 : ¬ (s.size : Int) - k < 3 := by omega
  have gd : decide ((s.size : Int) - k < 3) = false := by simp; omega
  clear ea ec1 ec2 hr
  subst hv
  go_enter Tryf.func17, Tryf.ntmps17
  go_wp2_with (go_at_call 19; refine (zcont_run _ _).mono ?_; rintro e w' ⟨rfl, rfl⟩)
  go_quiet (fail)
  go_wp2_with fail
  go_returns
  exact ⟨rfl, (Kept.refl _ _).drewN _⟩

end Go.Proofs.YtpkgpkklgkpbfaaFmt
