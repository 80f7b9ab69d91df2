/-
  UTF-8 of more than one byte, in plain terms: what Go's decoder makes of the bytes at hand, and whether they are all there.
-/
import Derived.Test.YtnjaeooblfihbaaFmtByt
import Derived.Lib.DecodeN
namespace Go.Proofs.YtnjaeooblfihbaaFmt
open Go.RowKit

def byAt (l : List UInt8) (k : Nat) : Nat := (l[k]?.getD 0).toNat
theorem byAt_lt (l : List UInt8) (k : Nat) : byAt l k < 256 := UInt8.toNat_lt _
/-- The rune at the head, and its width. -/
def dcN (l : List UInt8) : Nat × Nat := Lib.decodeN l.length (byAt l 0) (byAt l 1) (byAt l 2) (byAt l 3)
/-- utf8.FullRune. -/
def fullN (n b0 b1 b2 : Nat) : Bool :=
  if n = 0 then false
  else if Lib.firstT b0 % 8 ≤ n then true
  else if 1 < n ∧ (b1 < Lib.accLo (Lib.firstT b0 / 16) ∨ Lib.accHi (Lib.firstT b0 / 16) < b1) then true
  else if 2 < n ∧ (b2 < 128 ∨ 191 < b2) then true
  else false
def fullL (l : List UInt8) : Bool := fullN l.length (byAt l 0) (byAt l 1) (byAt l 2)

/-- The bytes of one rune that is no ASCII. -/
def MB (bs : List UInt8) (a : Nat) : Prop := 2 ≤ bs.length ∧ dcN bs = (a, bs.length)

theorem ft2 {b : Nat} (h : 194 ≤ b) (h2 : b < 224) : Lib.firstT b = 2 := by
  unfold Lib.firstT
  rw [if_neg (by omega), if_neg (by omega), if_pos (by omega)]
theorem ft3 {b : Nat} (h : 224 ≤ b) (h2 : b < 240) : (Lib.firstT b = 19 ∧ b = 224) ∨ (Lib.firstT b = 3 ∧ b ≠ 224 ∧ b ≠ 237) ∨ (Lib.firstT b = 35 ∧ b = 237) := by
  by_cases h3 : b = 224
  · subst h3; exact .inl ⟨rfl, rfl⟩
  by_cases h4 : b = 237
  · subst h4; exact .inr (.inr ⟨rfl, rfl⟩)
  refine .inr (.inl ⟨?_, h3, h4⟩)
  unfold Lib.firstT
  rw [if_neg (by omega), if_neg (by omega), if_neg (by omega), if_neg h3]
  by_cases h5 : b < 237
  · rw [if_pos h5]
  · rw [if_neg h5, if_neg h4, if_pos (by omega)]
theorem ft4 {b : Nat} (h : 240 ≤ b) (h2 : b ≤ 244) : (Lib.firstT b = 52 ∧ b = 240) ∨ (Lib.firstT b = 4 ∧ b ≠ 240 ∧ b ≠ 244) ∨ (Lib.firstT b = 68 ∧ b = 244) := by
  by_cases h3 : b = 240
  · subst h3; exact .inl ⟨rfl, rfl⟩
  by_cases h4 : b = 244
  · subst h4; exact .inr (.inr ⟨rfl, rfl⟩)
  refine .inr (.inl ⟨?_, h3, h4⟩)
  unfold Lib.firstT
  rw [if_neg (by omega), if_neg (by omega), if_neg (by omega), if_neg (by omega), if_neg (by omega), if_neg (by omega), if_neg (by omega), if_neg h3, if_pos (by omega)]

set_option maxRecDepth 100000 in
set_option maxHeartbeats 4000000 in
theorem dec_facts {n b0 b1 b2 b3 a L : Nat} (h0 : b0 < 256) (h1 : b1 < 256) (h2 : b2 < 256) (h3 : b3 < 256) (h : Lib.decodeN n b0 b1 b2 b3 = (a, L)) (hL : 2 ≤ L) :
    194 ≤ b0 ∧ b0 ≤ 244 ∧ L ≤ 4 ∧ L ≤ n ∧ 128 ≤ a ∧ a ≤ 1114111 ∧ Lib.firstT b0 % 8 = L ∧
    (∀ m c2 c3, 2 ≤ L → L ≤ m → (2 < L → c2 = b2) → (3 < L → c3 = b3) → Lib.decodeN m b0 b1 c2 c3 = (a, L)) ∧
    (∀ m c1 c2 c3, 0 < m → m < L → (1 < m → c1 = b1) → (2 < m → c2 = b2) → Lib.decodeN m b0 c1 c2 c3 = (65533, 1) ∧ fullN m b0 c1 c2 = false) := by
  unfold Lib.decodeN at h
  split at h
  · simp at h; omega
  · split at h
    · rename_i hc hd
      split at h
      · rename_i he
        simp only [Prod.mk.injEq] at h
        obtain ⟨rfl, rfl⟩ := h
        have hf : Lib.firstT b0 = 2 := ft2 (by omega) (by omega)
        refine ⟨by omega, by omega, by omega, by omega, by omega, by omega, by rw [hf], fun m c2 c3 _ hm _ _ => ?_, fun m c1 c2 c3 hm hm2 e1 e2 => ⟨?_, ?_⟩⟩
        · unfold Lib.decodeN
          rw [if_neg hc, if_pos ⟨hd.1, by omega, hd.2.2⟩, if_pos he]
        · unfold Lib.decodeN
          rw [if_neg hc, if_neg (by omega), if_neg (by omega), if_neg (by omega)]
        · unfold fullN
          rw [hf, if_neg (by omega), if_neg (by omega), if_neg (by omega), if_neg (by omega)]
      · simp at h; omega
    · split at h
      · rename_i hc hd he
        split at h
        · rename_i hg
          simp only [Prod.mk.injEq] at h
          obtain ⟨rfl, rfl⟩ := h
          have hf := ft3 (b := b0) (by omega) (by omega)
          refine ⟨by omega, by omega, by omega, by omega, by omega, by omega, by rcases hf with ⟨hf, _⟩ | ⟨hf, _⟩ | ⟨hf, _⟩ <;> rw [hf], fun m c2 c3 _ hm q2 _ => ?_, fun m c1 c2 c3 hm hm2 e1 e2 => ⟨?_, ?_⟩⟩
          · obtain rfl := q2 (by omega)
            unfold Lib.decodeN
            rw [if_neg hc, if_neg (by omega), if_pos ⟨he.1, ⟨by omega, he.2.1.2⟩, by omega, he.2.2.2⟩, if_pos hg]
          · unfold Lib.decodeN
            rw [if_neg hc, if_neg (by omega), if_neg (by omega), if_neg (by omega)]
          · unfold fullN
            rw [if_neg (by omega)]
            have hb1 : 128 ≤ b1 ∧ b1 ≤ 191 := by omega
            rcases hf with ⟨hf, hb⟩ | ⟨hf, hb⟩ | ⟨hf, hb⟩
            · rw [hf, if_neg (by omega), if_neg ?_, if_neg (by omega)]
              rintro ⟨hm1, hm3⟩
              have := e1 hm1
              have ea : Lib.accLo (19 / 16) = 160 := rfl
              have eb : Lib.accHi (19 / 16) = 191 := rfl
              rw [ea, eb] at hm3
              omega
            · rw [hf, if_neg (by omega), if_neg ?_, if_neg (by omega)]
              rintro ⟨hm1, hm3⟩
              have := e1 hm1
              have ea : Lib.accLo (3 / 16) = 128 := rfl
              have eb : Lib.accHi (3 / 16) = 191 := rfl
              rw [ea, eb] at hm3
              omega
            · rw [hf, if_neg (by omega), if_neg ?_, if_neg (by omega)]
              rintro ⟨hm1, hm3⟩
              have := e1 hm1
              have ea : Lib.accLo (35 / 16) = 128 := rfl
              have eb : Lib.accHi (35 / 16) = 159 := rfl
              rw [ea, eb] at hm3
              omega
        · simp at h; omega
      · split at h
        · rename_i hc hd he hg
          split at h
          · rename_i hk
            simp only [Prod.mk.injEq] at h
            obtain ⟨rfl, rfl⟩ := h
            have hf := ft4 (b := b0) (by omega) (by omega)
            refine ⟨by omega, by omega, by omega, by omega, by omega, by omega, by rcases hf with ⟨hf, _⟩ | ⟨hf, _⟩ | ⟨hf, _⟩ <;> rw [hf], fun m c2 c3 _ hm q2 q3 => ?_, fun m c1 c2 c3 hm hm2 e1 e2 => ⟨?_, ?_⟩⟩
            · obtain rfl := q2 (by omega)
              obtain rfl := q3 (by omega)
              unfold Lib.decodeN
              rw [if_neg hc, if_neg (by omega), if_neg (by omega), if_pos ⟨hg.1, ⟨by omega, hg.2.1.2⟩, ⟨by omega, hg.2.2.1.2⟩, by omega, hg.2.2.2.2⟩, if_pos hk]
            · unfold Lib.decodeN
              rw [if_neg hc, if_neg (by omega), if_neg (by omega), if_neg (by omega)]
            · unfold fullN
              rw [if_neg (by omega)]
              have hb1 : 128 ≤ b1 ∧ b1 ≤ 191 := by omega
              have hb2 : 128 ≤ b2 ∧ b2 ≤ 191 := by omega
              rcases hf with ⟨hf, hb⟩ | ⟨hf, hb⟩ | ⟨hf, hb⟩
              · rw [hf, if_neg (by omega), if_neg ?_, if_neg (by rintro ⟨q, q'⟩; have := e2 q; omega)]
                rintro ⟨hm1, hm3⟩
                have := e1 hm1
                have ea : Lib.accLo (52 / 16) = 144 := rfl
                have eb : Lib.accHi (52 / 16) = 191 := rfl
                rw [ea, eb] at hm3
                omega
              · rw [hf, if_neg (by omega), if_neg ?_, if_neg (by rintro ⟨q, q'⟩; have := e2 q; omega)]
                rintro ⟨hm1, hm3⟩
                have := e1 hm1
                have ea : Lib.accLo (4 / 16) = 128 := rfl
                have eb : Lib.accHi (4 / 16) = 191 := rfl
                rw [ea, eb] at hm3
                omega
              · rw [hf, if_neg (by omega), if_neg ?_, if_neg (by rintro ⟨q, q'⟩; have := e2 q; omega)]
                rintro ⟨hm1, hm3⟩
                have := e1 hm1
                have ea : Lib.accLo (68 / 16) = 128 := rfl
                have eb : Lib.accHi (68 / 16) = 143 := rfl
                rw [ea, eb] at hm3
                omega
          · simp at h; omega
        · simp at h; omega

theorem byAt_app {l d : List UInt8} {k : Nat} (h : k < l.length) : byAt (l ++ d) k = byAt l k := by
  unfold byAt
  rw [List.getElem?_append_left h]
theorem byAt_take {l : List UInt8} {k n : Nat} (h : k < n) : byAt (l.take n) k = byAt l k := by
  unfold byAt
  rw [List.getElem?_take_of_lt h]

theorem mb_facts {bs : List UInt8} {a : Nat} (h : MB bs a) : 194 ≤ byAt bs 0 ∧ byAt bs 0 ≤ 244 ∧ bs.length ≤ 4 ∧ 128 ≤ a ∧ a ≤ 1114111 ∧ Lib.firstT (byAt bs 0) % 8 = bs.length := by
  obtain ⟨h1, h2, h3, _, h5, h6, h7, _⟩ := dec_facts (byAt_lt bs 0) (byAt_lt bs 1) (byAt_lt bs 2) (byAt_lt bs 3) h.2 h.1
  exact ⟨h1, h2, h3, h5, h6, h7⟩
theorem mb_whole {bs d : List UInt8} {a : Nat} (h : MB bs a) : dcN (bs ++ d) = (a, bs.length) ∧ fullL (bs ++ d) = true := by
  obtain ⟨_, _, h3, _, _, _, h7, h8, _⟩ := dec_facts (byAt_lt bs 0) (byAt_lt bs 1) (byAt_lt bs 2) (byAt_lt bs 3) h.2 h.1
  have h1 := h.1
  constructor
  · unfold dcN
    rw [byAt_app (by omega), byAt_app (by omega)]
    exact h8 _ _ _ h1 (by simp) (fun q => byAt_app q) (fun q => byAt_app q)
  · unfold fullL fullN
    rw [byAt_app (by omega), if_neg (by simp; intro e; rw [e] at h1; simp at h1), if_pos (by rw [h7]; simp)]
theorem mb_part {bs : List UInt8} {a k : Nat} (h : MB bs a) (h0 : 0 < k) (hk : k < bs.length) : dcN (bs.take k) = (65533, 1) ∧ fullL (bs.take k) = false := by
  obtain ⟨_, _, h3, _, _, _, _, _, h9⟩ := dec_facts (byAt_lt bs 0) (byAt_lt bs 1) (byAt_lt bs 2) (byAt_lt bs 3) h.2 h.1
  have hl : (bs.take k).length = k := by rw [List.length_take]; omega
  unfold dcN fullL
  rw [hl, byAt_take h0]
  exact h9 _ _ _ _ h0 hk (fun q => byAt_take q) (fun q => byAt_take q)
end Go.Proofs.YtnjaeooblfihbaaFmt
