/-
  n010_110's own UTF-8 decoder, walked.
-/
import Derived.Test.YtpkgpkklgkpbfaaFmtMb
import Derived.BigQuiet
import Derived.Handy
import Derived.IntWalk
import Derived.Laws.BitsLemmas
namespace Go.Proofs.YtpkgpkklgkpbfaaFmt
open Go.RowKit

theorem zcont (x : Int) (b : Bool) (hb : decide (128 ≤ x ∧ x ≤ 191) = b) (w : World) : Calls Tryf.prog 19 #[.int .u8 x] w fun e w' => e = .returned (.bool b) ∧ w = w' := by
  by_cases h1 : 128 ≤ x
  · by_cases h2 : x ≤ 191
    · have : b = true := by rw [← hb]; simp [h1, h2]
      subst this
      clear hb
      go_enter Tryf.func19, Tryf.ntmps19
      go_wp2
      go_ret
      exact ⟨rfl, rfl⟩
    · have : b = false := by rw [← hb]; simp; omega
      subst this
      clear hb
      go_enter Tryf.func19, Tryf.ntmps19
      go_wp2
      go_ret
      exact ⟨rfl, rfl⟩
  · have : b = false := by rw [← hb]; simp; omega
    subst this
    clear hb
    go_enter Tryf.func19, Tryf.ntmps19
    go_wp2
    go_ret
    exact ⟨rfl, rfl⟩
def contB (x : Int) : Bool := decide (128 ≤ x ∧ x ≤ 191)
theorem zcont_run (x : Int) (w : World) : Calls Tryf.prog 19 #[.int .u8 x] w fun e w' => e = .returned (.bool (contB x)) ∧ w = w' := zcont x _ rfl w

set_option maxRecDepth 100000 in
set_option maxHeartbeats 2000000 in
theorem zdec_1 (s : ByteArray) (k : Nat) (hs : s.size ≤ 10000000) (h0 : k < s.size) (x0 : Int) (e0 : ((s[k]'h0).toNat : Int) = x0) (hx : x0 < 128) (w : World) :
    Calls Tryf.prog 17 #[.string s, .int .i64 k] w fun e w' => e = .returned (.tuple #[.int .i32 x0, .int .i64 1, .bool true]) ∧ w = w' := by
  have hb : 0 ≤ x0 := by omega
  go_enter Tryf.func17, Tryf.ntmps17
  go_wp2
  go_returns
  exact ⟨rfl, rfl⟩

set_option maxRecDepth 100000 in
set_option maxHeartbeats 2000000 in
theorem zdec_bad (s : ByteArray) (k : Nat) (hs : s.size ≤ 10000000) (h0 : k < s.size) (x0 : Int) (e0 : ((s[k]'h0).toNat : Int) = x0) (hx : (128 ≤ x0 ∧ x0 < 194) ∨ 244 < x0) (w : World) :
    Calls Tryf.prog 17 #[.string s, .int .i64 k] w fun e w' => e = .returned (.tuple #[.int .i32 0, .int .i64 1, .bool false]) ∧ w = w' := by
  have hb : x0 < 256 := by have := (s[k]'h0).toNat_lt; omega
  rcases hx with ⟨h1, h2⟩ | h1
  · go_enter Tryf.func17, Tryf.ntmps17
    go_wp2
    go_returns
    exact ⟨rfl, rfl⟩
  · go_enter Tryf.func17, Tryf.ntmps17
    go_wp2
    go_returns
    exact ⟨rfl, rfl⟩

set_option maxRecDepth 100000 in
set_option maxHeartbeats 2000000 in
theorem zdec_2 (s : ByteArray) (k : Nat) (hs : s.size ≤ 10000000) (h0 : k < s.size) (h1 : k + 1 < s.size) (x0 x1 : Int) (e0 : ((s[k]'h0).toNat : Int) = x0) (e1 : ((s[k + 1]'h1).toNat : Int) = x1) (hx : 194 ≤ x0) (hx2 : x0 ≤ 223) (hc : contB x1 = true) (w : World) :
    Calls Tryf.prog 17 #[.string s, .int .i64 k] w fun e w' => e = .returned (.tuple #[.int .i32 (x0 % 32 * 64 + x1 % 64), .int .i64 2, .bool true]) ∧ w = w' := by
  have hb1 : 0 ≤ x1 ∧ x1 < 256 := by have := (s[k + 1]'h1).toNat_lt; omega
  obtain ⟨b1, b2⟩ := hb1
  obtain ⟨a0, ha0⟩ : ∃ a : Int, bits BinOp.and IntKind.u8 x0 31 = a := ⟨_, rfl⟩
  obtain ⟨c1, hc1⟩ : ∃ a : Int, bits BinOp.and IntKind.u8 x1 63 = a := ⟨_, rfl⟩
  have ea : a0 = x0 % 32 := by rw [← ha0]; exact u8_and31 x0 (by omega) (by omega)
  have ec : c1 = x1 % 64 := by rw [← hc1]; exact u8_and63 x1 b1 b2
  have q1 : 0 ≤ a0 ∧ a0 < 32 := by omega
  have q2 : 0 ≤ c1 ∧ c1 < 64 := by omega
  have ho : bits BinOp.or IntKind.i32 (a0 * 64) c1 = a0 * 64 + c1 := i32_or6 _ _ (by omega) (by omega) (by omega) q2.1 q2.2
  rw [← ea, ← ec]
  have hn : (k : Int) + 1 < s.size := by omega
  have g1 : ¬ (s.size : Int) - k < 2 := by omega
  have gd : decide ((s.size : Int) - k < 2) = false := by simp; omega
  clear ea ec
  go_enter Tryf.func17, Tryf.ntmps17
  go_wp2_with (go_at_call 19; refine (zcont_run _ _).mono ?_; rintro e w' ⟨rfl, rfl⟩)
  go_returns
  exact ⟨rfl, rfl⟩
end Go.Proofs.YtpkgpkklgkpbfaaFmt
