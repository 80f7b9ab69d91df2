/-
  n010_110's own UTF-8 decoder answers what Go's does.
-/
import Derived.Test.YtpkgpkklgkpbfaaFmtMj2
import Derived.Test.YtpkgpkklgkpbfaaFmtMj3
import Derived.Test.YtpkgpkklgkpbfaaFmtMj4
import Derived.Test.YtpkgpkklgkpbfaaFmtMb
namespace Go.Proofs.YtpkgpkklgkpbfaaFmt
open Go.RowKit

/-- The rune at the head, its width, whether it is one. -/
def zD (l : List UInt8) : Int × Int × Bool :=
  if byAt l 0 < 128 then (byAt l 0, 1, true) else if 2 ≤ (dcN l).2 then ((dcN l).1, (dcN l).2, true) else (0, 1, false)

theorem dn_none {n b0 b1 b2 b3 : Nat} (h : (128 ≤ b0 ∧ b0 < 194) ∨ 244 < b0) (h0 : b0 < 256) (_h1 : b1 < 256) : (Lib.decodeN n b0 b1 b2 b3).2 < 2 := by
  unfold Lib.decodeN
  rw [if_neg (by omega)]
  split
  · rw [if_neg (by omega)]; decide
  · rw [if_neg (by omega)]
    split
    · rw [if_neg (by omega)]; decide
    · decide
theorem dn_2 {n b0 b1 b2 b3 : Nat} (h : 194 ≤ b0) (h2 : b0 ≤ 223) : Lib.decodeN n b0 b1 b2 b3 = if 1 < n ∧ b1 / 64 = 2 then (b0 % 32 * 64 + b1 % 64, 2) else (65533, 1) := by
  unfold Lib.decodeN
  rw [if_neg (by omega)]
  by_cases hc : 1 < n ∧ b1 / 64 = 2
  · rw [if_pos ⟨by omega, hc⟩, if_pos (by omega), if_pos hc]
  · rw [if_neg (fun e => hc e.2), if_neg (by omega), if_neg (by omega), if_neg hc]
theorem dn_3 {n b0 b1 b2 b3 : Nat} (h : 224 ≤ b0) (h2 : b0 ≤ 239) : Lib.decodeN n b0 b1 b2 b3 = if (1 < n ∧ b1 / 64 = 2) ∧ (2 < n ∧ b2 / 64 = 2) then (if 2048 ≤ b0 % 16 * 4096 + b1 % 64 * 64 + b2 % 64 ∧ (b0 % 16 * 4096 + b1 % 64 * 64 + b2 % 64 < 55296 ∨ 57343 < b0 % 16 * 4096 + b1 % 64 * 64 + b2 % 64) then (b0 % 16 * 4096 + b1 % 64 * 64 + b2 % 64, 3) else (65533, 1)) else (65533, 1) := by
  unfold Lib.decodeN
  rw [if_neg (by omega), if_neg (by omega)]
  by_cases hc : (1 < n ∧ b1 / 64 = 2) ∧ (2 < n ∧ b2 / 64 = 2)
  · rw [if_pos ⟨by omega, hc⟩, if_pos hc]
    by_cases hd : 2048 ≤ b0 % 16 * 4096 + b1 % 64 * 64 + b2 % 64 ∧ (b0 % 16 * 4096 + b1 % 64 * 64 + b2 % 64 < 55296 ∨ 57343 < b0 % 16 * 4096 + b1 % 64 * 64 + b2 % 64)
    · rw [if_pos (by omega), if_pos hd]
    · rw [if_neg (by omega), if_neg hd]
  · rw [if_neg (fun e => hc e.2), if_neg (by omega), if_neg hc]
theorem dn_4 {n b0 b1 b2 b3 : Nat} (h : 240 ≤ b0) (h2 : b0 ≤ 244) : Lib.decodeN n b0 b1 b2 b3 = if (1 < n ∧ b1 / 64 = 2) ∧ (2 < n ∧ b2 / 64 = 2) ∧ (3 < n ∧ b3 / 64 = 2) then (if 65536 ≤ b0 % 8 * 262144 + b1 % 64 * 4096 + b2 % 64 * 64 + b3 % 64 ∧ b0 % 8 * 262144 + b1 % 64 * 4096 + b2 % 64 * 64 + b3 % 64 ≤ 1114111 then (b0 % 8 * 262144 + b1 % 64 * 4096 + b2 % 64 * 64 + b3 % 64, 4) else (65533, 1)) else (65533, 1) := by
  unfold Lib.decodeN
  rw [if_neg (by omega), if_neg (by omega), if_neg (by omega)]
  by_cases hc : (1 < n ∧ b1 / 64 = 2) ∧ (2 < n ∧ b2 / 64 = 2) ∧ (3 < n ∧ b3 / 64 = 2)
  · rw [if_pos ⟨by omega, hc⟩, if_pos hc]
    by_cases hd : 65536 ≤ b0 % 8 * 262144 + b1 % 64 * 4096 + b2 % 64 * 64 + b3 % 64 ∧ b0 % 8 * 262144 + b1 % 64 * 4096 + b2 % 64 * 64 + b3 % 64 ≤ 1114111
    · rw [if_pos (by omega), if_pos hd]
    · rw [if_neg (by omega), if_neg hd]
  · rw [if_neg (fun e => hc e.2), if_neg hc]

theorem at_drop (s : ByteArray) {k j : Nat} (h : k + j < s.size) : (((s[k + j]'h).toNat : Nat)) = byAt (s.data.toList.drop k) j := by
  unfold byAt
  have e : s.data.toList.length = s.size := rfl
  rw [List.getElem?_drop, List.getElem?_eq_getElem (by omega), Option.getD_some]
  rfl
theorem contB_iff (b : Nat) (hb : b < 256) : contB (b : Int) = decide (b / 64 = 2) := by
  unfold contB
  congr 1
  apply propext
  omega

theorem zdec (s : ByteArray) (k : Nat) (hs : s.size ≤ 10000000) (h0 : k < s.size) (F : Int × Int × Bool) (hF : F = zD (s.data.toList.drop k)) (w : World) :
    Calls Tryf.prog 17 #[.string s, .int .i64 k] w fun e w' => e = .returned (.tuple #[.int .i32 F.1, .int .i64 F.2.1, .bool F.2.2]) ∧ Kept [] w w' := by
  have up : ∀ {e : Ending} {w' : World} {E : Ending}, e = E ∧ w = w' → e = E ∧ Kept [] w w' := fun h => ⟨h.1, h.2 ▸ Kept.refl _ _⟩
  have elen : s.data.toList.length = s.size := rfl
  obtain ⟨l, hl⟩ : ∃ l, l = s.data.toList.drop k := ⟨_, rfl⟩
  have hll : l.length = s.size - k := by rw [hl, List.length_drop, elen]
  have e0 : (((s[k]'h0).toNat : Nat) : Int) = (byAt l 0 : Nat) := by
    have := at_drop s (k := k) (j := 0) h0
    rw [hl]; exact congrArg _ this
  have ej : ∀ j (h : k + j < s.size), (((s[k + j]'h).toNat : Nat) : Int) = (byAt l j : Nat) := fun j h => by rw [hl]; exact congrArg _ (at_drop s h)
  have l0 := byAt_lt l 0; have l1 := byAt_lt l 1; have l2 := byAt_lt l 2; have l3 := byAt_lt l 3
  have c1 := contB_iff _ l1; have c2 := contB_iff _ l2; have c3 := contB_iff _ l3
  rw [← hl] at hF
  have bad : ¬ byAt l 0 < 128 → (dcN l).2 < 2 → F = (0, 1, false) := fun h1 h2 => by rw [hF, zD, if_neg h1, if_neg (by omega)]
  have good : ∀ a n : Nat, ¬ byAt l 0 < 128 → dcN l = (a, n) → 2 ≤ n → F = ((a : Int), (n : Int), true) := fun a n h1 h2 h3 => by rw [hF, zD, if_neg h1, if_pos (by rw [h2]; exact h3), h2]
  by_cases r1 : byAt l 0 < 128
  · have hf : F = ((byAt l 0 : Int), 1, true) := by rw [hF, zD, if_pos r1]
    rw [hf]
    exact (zdec_1 s k hs h0 _ e0 (by omega) w).mono fun _ _ => up
  by_cases r2 : byAt l 0 < 194 ∨ 244 < byAt l 0
  · rw [bad r1 (dn_none (by omega) l0 l1)]
    exact (zdec_bad s k hs h0 _ e0 (by omega) w).mono fun _ _ => up
  by_cases r3 : byAt l 0 ≤ 223
  · have hd := dn_2 (n := l.length) (b1 := byAt l 1) (b2 := byAt l 2) (b3 := byAt l 3) (b0 := byAt l 0) (by omega) r3
    by_cases hn : s.size < k + 2
    · rw [bad r1 (by unfold dcN; rw [hd, if_neg (by omega)]; decide)]
      exact (zdec_2s s k hs h0 _ e0 (by omega) (by omega) hn w).mono fun _ _ => up
    by_cases hc1 : byAt l 1 / 64 = 2
    · rw [good _ 2 r1 (by unfold dcN; rw [hd, if_pos ⟨by omega, hc1⟩]) (by omega)]
      have := zdec_2 s k hs h0 (by omega) _ _ e0 (ej 1 (by omega)) (by omega) (by omega) (by rw [c1, decide_eq_true hc1]) w
      exact this.mono fun _ _ => up
    · rw [bad r1 (by unfold dcN; rw [hd, if_neg (by omega)]; decide)]
      exact (zdec_2c1 s k hs h0 _ e0 (by omega) _ (ej 1 (by omega)) (by omega) (by omega) (by rw [c1, decide_eq_false hc1]) w).mono fun _ _ => up
  by_cases r4 : byAt l 0 ≤ 239
  · have hd := dn_3 (n := l.length) (b1 := byAt l 1) (b2 := byAt l 2) (b3 := byAt l 3) (b0 := byAt l 0) (by omega) r4
    by_cases hn : s.size < k + 3
    · rw [bad r1 (by unfold dcN; rw [hd, if_neg (by omega)]; decide)]
      exact (zdec_3s s k hs h0 _ e0 (by omega) (by omega) hn w).mono fun _ _ => up
    by_cases hc1 : byAt l 1 / 64 = 2
    case neg =>
      rw [bad r1 (by unfold dcN; rw [hd, if_neg (by omega)]; decide)]
      exact (zdec_3c1 s k hs h0 _ e0 (by omega) _ (ej 1 (by omega)) (by omega) _ (ej 2 (by omega)) (by omega) (by omega) (by rw [c1, decide_eq_false hc1]) w).mono fun _ _ => up
    by_cases hc2 : byAt l 2 / 64 = 2
    case neg =>
      rw [bad r1 (by unfold dcN; rw [hd, if_neg (by omega)]; decide)]
      exact (zdec_3c2 s k hs h0 _ e0 (by omega) _ (ej 1 (by omega)) (by omega) _ (ej 2 (by omega)) (by omega) (by omega) (by rw [c1, decide_eq_true hc1]) (by rw [c2, decide_eq_false hc2]) w).mono fun _ _ => up
    rw [if_pos (by omega)] at hd
    have k1 : contB (byAt l 1 : Nat) = true := by rw [c1, decide_eq_true hc1]
    have k2 : contB (byAt l 2 : Nat) = true := by rw [c2, decide_eq_true hc2]
    obtain ⟨v, hv⟩ : ∃ v, byAt l 0 % 16 * 4096 + byAt l 1 % 64 * 64 + byAt l 2 % 64 = v := ⟨_, rfl⟩
    have hvi : (byAt l 0 : Int) % 16 * 4096 + (byAt l 1 : Int) % 64 * 64 + (byAt l 2 : Int) % 64 = (v : Int) := by omega
    rw [hv] at hd
    by_cases v1 : v < 2048
    · rw [bad r1 (by unfold dcN; rw [hd, if_neg (by omega)]; decide)]
      exact zdec_3a s k hs h0 _ e0 (by omega) _ (ej 1 (by omega)) (by omega) _ (ej 2 (by omega)) (by omega) (by omega) k1 k2 v hvi (by omega) w
    by_cases v2 : v < 55296
    · rw [good v 3 r1 (by unfold dcN; rw [hd, if_pos (by omega)]) (by omega)]
      exact zdec_3o s k hs h0 _ e0 (by omega) _ (ej 1 (by omega)) (by omega) _ (ej 2 (by omega)) (by omega) (by omega) k1 k2 v hvi (by omega) (by omega) w
    by_cases v3 : v ≤ 57343
    · rw [bad r1 (by unfold dcN; rw [hd, if_neg (by omega)]; decide)]
      exact zdec_3b s k hs h0 _ e0 (by omega) _ (ej 1 (by omega)) (by omega) _ (ej 2 (by omega)) (by omega) (by omega) k1 k2 v hvi (by omega) (by omega) w
    · rw [good v 3 r1 (by unfold dcN; rw [hd, if_pos (by omega)]) (by omega)]
      exact zdec_3p s k hs h0 _ e0 (by omega) _ (ej 1 (by omega)) (by omega) _ (ej 2 (by omega)) (by omega) (by omega) k1 k2 v hvi (by omega) w
  · have hd := dn_4 (n := l.length) (b1 := byAt l 1) (b2 := byAt l 2) (b3 := byAt l 3) (b0 := byAt l 0) (by omega) (by omega)
    by_cases hn : s.size < k + 4
    · rw [bad r1 (by unfold dcN; rw [hd, if_neg (by omega)]; decide)]
      exact (zdec_4s s k hs h0 _ e0 (by omega) (by omega) hn w).mono fun _ _ => up
    by_cases hc1 : byAt l 1 / 64 = 2
    case neg =>
      rw [bad r1 (by unfold dcN; rw [hd, if_neg (by omega)]; decide)]
      exact (zdec_4c1 s k hs h0 _ e0 (by omega) _ (ej 1 (by omega)) (by omega) _ (ej 2 (by omega)) (by omega) _ (ej 3 (by omega)) (by omega) (by omega) (by rw [c1, decide_eq_false hc1]) w).mono fun _ _ => up
    by_cases hc2 : byAt l 2 / 64 = 2
    case neg =>
      rw [bad r1 (by unfold dcN; rw [hd, if_neg (by omega)]; decide)]
      exact (zdec_4c2 s k hs h0 _ e0 (by omega) _ (ej 1 (by omega)) (by omega) _ (ej 2 (by omega)) (by omega) _ (ej 3 (by omega)) (by omega) (by omega) (by rw [c1, decide_eq_true hc1]) (by rw [c2, decide_eq_false hc2]) w).mono fun _ _ => up
    by_cases hc3 : byAt l 3 / 64 = 2
    case neg =>
      rw [bad r1 (by unfold dcN; rw [hd, if_neg (by omega)]; decide)]
      exact (zdec_4c3 s k hs h0 _ e0 (by omega) _ (ej 1 (by omega)) (by omega) _ (ej 2 (by omega)) (by omega) _ (ej 3 (by omega)) (by omega) (by omega) (by rw [c1, decide_eq_true hc1]) (by rw [c2, decide_eq_true hc2]) (by rw [c3, decide_eq_false hc3]) w).mono fun _ _ => up
    rw [if_pos (by omega)] at hd
    have k1 : contB (byAt l 1 : Nat) = true := by rw [c1, decide_eq_true hc1]
    have k2 : contB (byAt l 2 : Nat) = true := by rw [c2, decide_eq_true hc2]
    have k3 : contB (byAt l 3 : Nat) = true := by rw [c3, decide_eq_true hc3]
    obtain ⟨v, hv⟩ : ∃ v, byAt l 0 % 8 * 262144 + byAt l 1 % 64 * 4096 + byAt l 2 % 64 * 64 + byAt l 3 % 64 = v := ⟨_, rfl⟩
    have hvi : (byAt l 0 : Int) % 8 * 262144 + (byAt l 1 : Int) % 64 * 4096 + (byAt l 2 : Int) % 64 * 64 + (byAt l 3 : Int) % 64 = (v : Int) := by omega
    rw [hv] at hd
    by_cases v1 : v < 65536
    · rw [bad r1 (by unfold dcN; rw [hd, if_neg (by omega)]; decide)]
      exact zdec_4a s k hs h0 _ e0 (by omega) _ (ej 1 (by omega)) (by omega) _ (ej 2 (by omega)) (by omega) _ (ej 3 (by omega)) (by omega) (by omega) k1 k2 k3 v hvi (by omega) w
    by_cases v2 : v ≤ 1114111
    · rw [good v 4 r1 (by unfold dcN; rw [hd, if_pos (by omega)]) (by omega)]
      exact zdec_4o s k hs h0 _ e0 (by omega) _ (ej 1 (by omega)) (by omega) _ (ej 2 (by omega)) (by omega) _ (ej 3 (by omega)) (by omega) (by omega) k1 k2 k3 v hvi (by omega) (by omega) w
    · rw [bad r1 (by unfold dcN; rw [hd, if_neg (by omega)]; decide)]
      exact zdec_4b s k hs h0 _ e0 (by omega) _ (ej 1 (by omega)) (by omega) _ (ej 2 (by omega)) (by omega) _ (ej 3 (by omega)) (by omega) (by omega) k1 k2 k3 v hvi (by omega) w
end Go.Proofs.YtpkgpkklgkpbfaaFmt
