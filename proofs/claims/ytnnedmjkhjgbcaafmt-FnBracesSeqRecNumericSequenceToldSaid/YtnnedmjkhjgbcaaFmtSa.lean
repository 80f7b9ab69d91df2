/-
  Decimal numerals in plain terms: what ParseInt reads of what FormatInt wrote; the digits from the right.
-/
import Derived.Test.YtnnedmjkhjgbcaaFmtSeq
namespace Go.Proofs.YtnnedmjkhjgbcaaFmt
open Go.Lib

theorem parseM_app {M : Nat} : ∀ (l1 : List UInt8) (acc a : Nat) (l2 : List UInt8), parseUintM M acc l1 = .ok a → parseUintM M acc (l1 ++ l2) = parseUintM M a l2
  | [], acc, a, l2, h => by rw [parseUintM] at h; cases h; rfl
  | c :: r, acc, a, l2, h => by
    rw [parseUintM] at h
    rw [List.cons_append, parseUintM]
    split at h
    · rename_i h1
      rw [if_pos h1]
      split at h
      · cases h
      · rename_i h2
        rw [if_neg h2]
        split at h
        · cases h
        · rename_i h3
          rw [if_neg h3]
          exact parseM_app r _ a l2 h
    · cases h
theorem dgt {d : Nat} (h : d < 10) : (UInt8.ofNat (48 + d)).toNat = 48 + d := by rw [UInt8.toNat_ofNat']; omega
theorem parseM_one {M acc d : Nat} (hd : d < 10) (h1 : acc < 1844674407370955162) (h2 : acc * 10 + d ≤ M) : parseUintM M acc [UInt8.ofNat (48 + d)] = .ok (acc * 10 + d) := by
  rw [parseUintM, dgt hd, if_pos (by omega), if_neg (by omega), show 48 + d - 48 = d by omega, if_neg (by omega), parseUintM]
theorem parseM_dec {M : Nat} (u : Nat) (h1 : u ≤ M) (h2 : u < 18446744073709551616) : parseUintM M 0 (decDigits u) = .ok u := by
  induction u using Nat.strongRecOn with
  | _ u ih =>
    by_cases h : u < 10
    · rw [decDigits, dif_pos h]
      have := parseM_one (M := M) (acc := 0) h (by omega) (by omega)
      simpa using this
    · rw [decDigits, dif_neg h, parseM_app _ _ _ _ (ih (u / 10) (by omega) (by omega) (by omega)), parseM_one (by omega) (by omega) (by omega)]
      congr 1
      omega
theorem dec_head (u : Nat) : ∃ c r, decDigits u = c :: r ∧ 48 ≤ c.toNat ∧ c.toNat ≤ 57 ∧ (0 < u → c.toNat ≠ 48) := by
  induction u using Nat.strongRecOn with
  | _ u ih =>
    by_cases h : u < 10
    · refine ⟨_, [], by rw [decDigits, dif_pos h], ?_⟩
      rw [dgt h]
      omega
    · obtain ⟨c, r, e, h1, h2, h3⟩ := ih (u / 10) (by omega)
      exact ⟨c, r ++ [UInt8.ofNat (48 + u % 10)], by rw [decDigits, dif_neg h, e]; rfl, h1, h2, fun _ => h3 (by omega)⟩
theorem parse_itoa {v : Int} (h1 : -4611686018427387904 ≤ v) (h2 : v ≤ 4611686018427387904) : parseIntB 64 (itoa v) = .ok v := by
  unfold itoa
  split
  · rename_i hn
    obtain ⟨c, r, e, _, _, _⟩ := dec_head v.natAbs
    have hp : parseUintB 64 (decDigits v.natAbs) = .ok v.natAbs := by
      unfold parseUintB
      rw [if_neg (by rw [e]; simp), parseM_dec _ (by omega) (by omega)]
    unfold parseIntB
    simp only [show (45 : UInt8).toNat = 45 from rfl, or_true, if_true, hp, not_true, false_and, if_false, true_and]
    rw [if_neg (by omega)]
    congr 1
    omega
  · rename_i hn
    obtain ⟨c, r, e, g1, g2, _⟩ := dec_head v.toNat
    have hp : parseUintB 64 (decDigits v.toNat) = .ok v.toNat := by
      unfold parseUintB
      rw [if_neg (by rw [e]; simp), parseM_dec _ (by omega) (by omega)]
    rw [e] at hp ⊢
    unfold parseIntB
    simp only
    rw [if_neg (by omega), hp]
    simp only
    rw [if_neg (by omega), if_neg (by omega), if_neg (by omega)]
    congr 1
    omega

def sDec (u : Nat) : ByteArray := ⟨(decDigits u).toArray⟩
def sItoa (v : Int) : ByteArray := ⟨(itoa v).toArray⟩
theorem itoa_len {v : Int} (h1 : -9223372036854775808 ≤ v) (h2 : v ≤ 9223372036854775807) : (itoa v).length ≤ 21 := by
  have hd : ∀ u : Nat, u < 10 ^ 20 → nDigits u ≤ 20 := fun u hu => by
    rcases Nat.lt_or_ge 20 (nDigits u) with h | h
    · exfalso
      have hu0 : ¬ u < 10 := fun h0 => by rw [nDigits_small h0] at h; omega
      have key : ∀ (k u : Nat), k < nDigits u → 0 < k → 10 ^ k ≤ u := by
        intro k
        induction k with
        | zero => intro u _ h; omega
        | succ k ih =>
          intro u hk _
          by_cases hu : u < 10
          · rw [nDigits_small hu] at hk; omega
          · rw [nDigits_big hu] at hk
            rcases Nat.eq_zero_or_pos k with rfl | hk0
            · simpa using (show 10 ≤ u by omega)
            · have := ih (u / 10) (by omega) hk0
              rw [Nat.pow_succ]
              omega
      have := key 20 u h (by omega)
      omega
    · exact h
  unfold itoa
  split
  · rw [List.length_cons, decDigits_length]
    have := hd v.natAbs (by omega)
    omega
  · rw [decDigits_length]
    have := hd v.toNat (by omega)
    omega
theorem sItoa_size {v : Int} (h1 : -9223372036854775808 ≤ v) (h2 : v ≤ 9223372036854775807) : (sItoa v).size ≤ 21 := by
  have := itoa_len h1 h2
  unfold sItoa ByteArray.size
  simpa using this
theorem trim_itoa (v : Int) : trimPrefix (itoa v) [45] = decDigits v.natAbs := by
  unfold itoa
  split
  · rfl
  · rename_i h
    obtain ⟨c, r, e, g1, g2, _⟩ := dec_head v.toNat
    have e2 : v.natAbs = v.toNat := by omega
    rw [e2]
    unfold trimPrefix
    rw [if_neg]
    rw [e]
    unfold hasPrefix
    have : ¬ (45 = c) := fun h => by rw [← h] at g1; simp at g1
    simp [this]

/-- The digits, none of 0. -/
def dd (u : Nat) : List UInt8 := if u = 0 then [] else decDigits u
theorem dd_step {u : Nat} (h : 0 < u) : dd u = dd (u / 10) ++ [UInt8.ofNat (48 + u % 10)] := by
  unfold dd
  rw [if_neg (by omega)]
  by_cases h10 : u < 10
  · rw [decDigits, dif_pos h10, if_pos (by omega), Nat.mod_eq_of_lt h10]; rfl
  · rw [decDigits, dif_neg h10, if_neg (by omega)]
theorem dd_dec {u : Nat} (h : 0 < u) : dd u = decDigits u := by unfold dd; rw [if_neg (by omega)]
end Go.Proofs.YtnnedmjkhjgbcaaFmt
