/-
  n010_110's own UTF-8 decoder, walked: bytes that begin no rune.
-/
import Derived.Test.YtpkgpkklgkpbfaaFmtMj
namespace Go.Proofs.YtpkgpkklgkpbfaaFmt
open Go.RowKit

set_option maxRecDepth 100000 in
set_option maxHeartbeats 4000000 in
theorem zdec_2s (s : ByteArray) (k : Nat) (_hs : s.size ≤ 10000000) (h0 : k < s.size) (x0 : Int) (e0 : ((s[k]'h0).toNat : Int) = x0) (hx : 194 ≤ x0) (hx2 : x0 ≤ 223) (hl : s.size < k + 2) (w : World) :
    Calls Tryf.prog 17 #[.string s, .int .i64 k] w fun e w' => e = .returned (.tuple #[.int .i32 0, .int .i64 1, .bool false]) ∧ w = w' := by
  have g1 : (s.size : Int) - k < 2 := by omega
  have gd : decide ((s.size : Int) - k < 2) = true := by simp; omega
  go_enter Tryf.func17, Tryf.ntmps17
  go_wp2_with (go_at_call 19; refine (zcont_run _ _).mono ?_; rintro e w' ⟨rfl, rfl⟩)
  go_returns
  exact ⟨rfl, rfl⟩

set_option maxRecDepth 100000 in
set_option maxHeartbeats 4000000 in
theorem zdec_2c1 (s : ByteArray) (k : Nat) (hs : s.size ≤ 10000000) (h0 : k < s.size) (x0 : Int) (e0 : ((s[k]'h0).toNat : Int) = x0) (h1 : k + 1 < s.size) (x1 : Int) (e1 : ((s[k + 1]'h1).toNat : Int) = x1) (hx : 194 ≤ x0) (hx2 : x0 ≤ 223) (hc1 : contB x1 = false) (w : World) :
    Calls Tryf.prog 17 #[.string s, .int .i64 k] w fun e w' => e = .returned (.tuple #[.int .i32 0, .int .i64 1, .bool false]) ∧ w = w' := by
  have hn1 : (k : Int) + 1 < s.size := by omega
  have g1 : ¬ (s.size : Int) - k < 2 := by omega
  have gd : decide ((s.size : Int) - k < 2) = false := by simp; omega
  go_enter Tryf.func17, Tryf.ntmps17
  go_wp2_with (go_at_call 19; refine (zcont_run _ _).mono ?_; rintro e w' ⟨rfl, rfl⟩)
  go_returns
  exact ⟨rfl, rfl⟩

set_option maxRecDepth 100000 in
set_option maxHeartbeats 4000000 in
theorem zdec_3s (s : ByteArray) (k : Nat) (_hs : s.size ≤ 10000000) (h0 : k < s.size) (x0 : Int) (e0 : ((s[k]'h0).toNat : Int) = x0) (hx : 224 ≤ x0) (hx2 : x0 ≤ 239) (hl : s.size < k + 3) (w : World) :
    Calls Tryf.prog 17 #[.string s, .int .i64 k] w fun e w' => e = .returned (.tuple #[.int .i32 0, .int .i64 1, .bool false]) ∧ w = w' := by
  have g1 : (s.size : Int) - k < 3 := by omega
  have gd : decide ((s.size : Int) - k < 3) = true := by simp; omega
  go_enter Tryf.func17, Tryf.ntmps17
  go_wp2_with (go_at_call 19; refine (zcont_run _ _).mono ?_; rintro e w' ⟨rfl, rfl⟩)
  go_returns
  exact ⟨rfl, rfl⟩

set_option maxRecDepth 100000 in
set_option maxHeartbeats 4000000 in
theorem zdec_3c1 (s : ByteArray) (k : Nat) (hs : s.size ≤ 10000000) (h0 : k < s.size) (x0 : Int) (e0 : ((s[k]'h0).toNat : Int) = x0) (h1 : k + 1 < s.size) (x1 : Int) (e1 : ((s[k + 1]'h1).toNat : Int) = x1) (h2 : k + 2 < s.size) (x2 : Int) (_e2 : ((s[k + 2]'h2).toNat : Int) = x2) (hx : 224 ≤ x0) (hx2 : x0 ≤ 239) (hc1 : contB x1 = false) (w : World) :
    Calls Tryf.prog 17 #[.string s, .int .i64 k] w fun e w' => e = .returned (.tuple #[.int .i32 0, .int .i64 1, .bool false]) ∧ w = w' := by
  have hn1 : (k : Int) + 1 < s.size := by omega
  have hn2 : (k : Int) + 2 < s.size := by omega
  have g1 : ¬ (s.size : Int) - k < 3 := by omega
  have gd : decide ((s.size : Int) - k < 3) = false := by simp; omega
  go_enter Tryf.func17, Tryf.ntmps17
  go_wp2_with (go_at_call 19; refine (zcont_run _ _).mono ?_; rintro e w' ⟨rfl, rfl⟩)
  go_returns
  exact ⟨rfl, rfl⟩

set_option maxRecDepth 100000 in
set_option maxHeartbeats 4000000 in
theorem zdec_3c2 (s : ByteArray) (k : Nat) (hs : s.size ≤ 10000000) (h0 : k < s.size) (x0 : Int) (e0 : ((s[k]'h0).toNat : Int) = x0) (h1 : k + 1 < s.size) (x1 : Int) (e1 : ((s[k + 1]'h1).toNat : Int) = x1) (h2 : k + 2 < s.size) (x2 : Int) (e2 : ((s[k + 2]'h2).toNat : Int) = x2) (hx : 224 ≤ x0) (hx2 : x0 ≤ 239) (hc1 : contB x1 = true) (hc2 : contB x2 = false) (w : World) :
    Calls Tryf.prog 17 #[.string s, .int .i64 k] w fun e w' => e = .returned (.tuple #[.int .i32 0, .int .i64 1, .bool false]) ∧ w = w' := by
  have hn1 : (k : Int) + 1 < s.size := by omega
  have hn2 : (k : Int) + 2 < s.size := by omega
  have g1 : ¬ (s.size : Int) - k < 3 := by omega
  have gd : decide ((s.size : Int) - k < 3) = false := by simp; omega
  go_enter Tryf.func17, Tryf.ntmps17
  go_wp2_with (go_at_call 19; refine (zcont_run _ _).mono ?_; rintro e w' ⟨rfl, rfl⟩)
  go_returns
  exact ⟨rfl, rfl⟩

set_option maxRecDepth 100000 in
set_option maxHeartbeats 4000000 in
theorem zdec_4s (s : ByteArray) (k : Nat) (_hs : s.size ≤ 10000000) (h0 : k < s.size) (x0 : Int) (e0 : ((s[k]'h0).toNat : Int) = x0) (hx : 240 ≤ x0) (hx2 : x0 ≤ 244) (hl : s.size < k + 4) (w : World) :
    Calls Tryf.prog 17 #[.string s, .int .i64 k] w fun e w' => e = .returned (.tuple #[.int .i32 0, .int .i64 1, .bool false]) ∧ w = w' := by
  have g1 : (s.size : Int) - k < 4 := by omega
  have gd : decide ((s.size : Int) - k < 4) = true := by simp; omega
  go_enter Tryf.func17, Tryf.ntmps17
  go_wp2_with (go_at_call 19; refine (zcont_run _ _).mono ?_; rintro e w' ⟨rfl, rfl⟩)
  go_returns
  exact ⟨rfl, rfl⟩

set_option maxRecDepth 100000 in
set_option maxHeartbeats 4000000 in
theorem zdec_4c1 (s : ByteArray) (k : Nat) (hs : s.size ≤ 10000000) (h0 : k < s.size) (x0 : Int) (e0 : ((s[k]'h0).toNat : Int) = x0) (h1 : k + 1 < s.size) (x1 : Int) (e1 : ((s[k + 1]'h1).toNat : Int) = x1) (h2 : k + 2 < s.size) (x2 : Int) (_e2 : ((s[k + 2]'h2).toNat : Int) = x2) (h3 : k + 3 < s.size) (x3 : Int) (_e3 : ((s[k + 3]'h3).toNat : Int) = x3) (hx : 240 ≤ x0) (hx2 : x0 ≤ 244) (hc1 : contB x1 = false) (w : World) :
    Calls Tryf.prog 17 #[.string s, .int .i64 k] w fun e w' => e = .returned (.tuple #[.int .i32 0, .int .i64 1, .bool false]) ∧ w = w' := by
  have hn1 : (k : Int) + 1 < s.size := by omega
  have hn2 : (k : Int) + 2 < s.size := by omega
  have hn3 : (k : Int) + 3 < s.size := by omega
  have g1 : ¬ (s.size : Int) - k < 4 := by omega
  have gd : decide ((s.size : Int) - k < 4) = false := by simp; omega
  go_enter Tryf.func17, Tryf.ntmps17
  go_wp2_with (go_at_call 19; refine (zcont_run _ _).mono ?_; rintro e w' ⟨rfl, rfl⟩)
  go_returns
  exact ⟨rfl, rfl⟩

set_option maxRecDepth 100000 in
set_option maxHeartbeats 4000000 in
theorem zdec_4c2 (s : ByteArray) (k : Nat) (hs : s.size ≤ 10000000) (h0 : k < s.size) (x0 : Int) (e0 : ((s[k]'h0).toNat : Int) = x0) (h1 : k + 1 < s.size) (x1 : Int) (e1 : ((s[k + 1]'h1).toNat : Int) = x1) (h2 : k + 2 < s.size) (x2 : Int) (e2 : ((s[k + 2]'h2).toNat : Int) = x2) (h3 : k + 3 < s.size) (x3 : Int) (_e3 : ((s[k + 3]'h3).toNat : Int) = x3) (hx : 240 ≤ x0) (hx2 : x0 ≤ 244) (hc1 : contB x1 = true) (hc2 : contB x2 = false) (w : World) :
    Calls Tryf.prog 17 #[.string s, .int .i64 k] w fun e w' => e = .returned (.tuple #[.int .i32 0, .int .i64 1, .bool false]) ∧ w = w' := by
  have hn1 : (k : Int) + 1 < s.size := by omega
  have hn2 : (k : Int) + 2 < s.size := by omega
  have hn3 : (k : Int) + 3 < s.size := by omega
  have g1 : ¬ (s.size : Int) - k < 4 := by omega
  have gd : decide ((s.size : Int) - k < 4) = false := by simp; omega
  go_enter Tryf.func17, Tryf.ntmps17
  go_wp2_with (go_at_call 19; refine (zcont_run _ _).mono ?_; rintro e w' ⟨rfl, rfl⟩)
  go_returns
  exact ⟨rfl, rfl⟩

set_option maxRecDepth 100000 in
set_option maxHeartbeats 4000000 in
theorem zdec_4c3 (s : ByteArray) (k : Nat) (hs : s.size ≤ 10000000) (h0 : k < s.size) (x0 : Int) (e0 : ((s[k]'h0).toNat : Int) = x0) (h1 : k + 1 < s.size) (x1 : Int) (e1 : ((s[k + 1]'h1).toNat : Int) = x1) (h2 : k + 2 < s.size) (x2 : Int) (e2 : ((s[k + 2]'h2).toNat : Int) = x2) (h3 : k + 3 < s.size) (x3 : Int) (e3 : ((s[k + 3]'h3).toNat : Int) = x3) (hx : 240 ≤ x0) (hx2 : x0 ≤ 244) (hc1 : contB x1 = true) (hc2 : contB x2 = true) (hc3 : contB x3 = false) (w : World) :
    Calls Tryf.prog 17 #[.string s, .int .i64 k] w fun e w' => e = .returned (.tuple #[.int .i32 0, .int .i64 1, .bool false]) ∧ w = w' := by
  have hn1 : (k : Int) + 1 < s.size := by omega
  have hn2 : (k : Int) + 2 < s.size := by omega
  have hn3 : (k : Int) + 3 < s.size := by omega
  have g1 : ¬ (s.size : Int) - k < 4 := by omega
  have gd : decide ((s.size : Int) - k < 4) = false := by simp; omega
  go_enter Tryf.func17, Tryf.ntmps17
  go_wp2_with (go_at_call 19; refine (zcont_run _ _).mono ?_; rintro e w' ⟨rfl, rfl⟩)
  go_returns
  exact ⟨rfl, rfl⟩

end Go.Proofs.YtpkgpkklgkpbfaaFmt
