/-
  utf8.FullRune of any bytes.
-/
import Derived.Test.YtolgahamfkaipaaFmtMd
namespace Go.Proofs.YtolgahamfkaipaaFmt
open Go.RowKit

set_option maxRecDepth 100000 in
set_option maxHeartbeats 4000000 in
theorem fullr_y (b off n cap : Nat) (w : World) (hn : 1 < n) (hn2 : n ≤ 1024) (x0 x1 : Int) (X sz sh lo hi : Nat) (c0 : w.cell? ⟨b, off, none⟩ = some (.int .u8 x0)) (h0 : 0 ≤ x0) (h0' : x0 < 256)
    (d1 : w.cell? ⟨b, off + 1, none⟩ = some (.int .u8 x1))
    (ct : w.cell? ⟨1, x0.toNat, none⟩ = some (.int .u8 X)) (hX : bits BinOp.and IntKind.u8 (X : Int) 7 = (sz : Int)) (hX2 : (X : Int) / 16 = (sh : Int)) (hsh : sh < 16)
    (clo : w.cell? ⟨2, sh * 2, none⟩ = some (.int .u8 lo)) (chi : w.cell? ⟨2, sh * 2 + 1, none⟩ = some (.int .u8 hi)) (hsz : sz ≤ 7)
    (h1 : n < sz) (h2 : x1 < lo ∨ ((lo : Int) ≤ x1 ∧ (hi : Int) < x1)) :
    Calls Tryf.prog 42 #[.slice (some ⟨b, off, none⟩) n cap] w fun e w' => e = .returned (.bool true) ∧ Kept [] w w' := by
  have g0 : ((n : Int) == 0) = false := by simp; omega
  have g1 : ¬ (sz : Int) ≤ n := by omega
  have gn : (1 : Int) < n := by omega
  have gnd : decide ((1 : Int) < (n : Int)) = true := by simp; omega
  have hbl : b < w.heap.size := block_lt_of_cell c0
  have gl : 2 < w.heap.size := block_lt_of_cell clo
  rcases h2 with k1 | ⟨k1, k2⟩
  · have kd : decide (x1 < (lo : Int)) = true := by simpa using k1
    go_enter Tryf.func42, Tryf.ntmps42
    go_wp2
    go_quiet (fail)
    go_wp2
    go_ret
    exact ⟨rfl, ((Kept.refl _ _).alloc _).drewN _⟩
  · have kd : decide (x1 < (lo : Int)) = false := by simp; omega
    have kd2 : decide ((hi : Int) < x1) = true := by simpa using k2
    go_enter Tryf.func42, Tryf.ntmps42
    go_wp2
    go_quiet (fail)
    go_wp2
    go_ret
    exact ⟨rfl, ((Kept.refl _ _).alloc _).drewN _⟩

set_option maxRecDepth 100000 in
set_option maxHeartbeats 4000000 in
theorem fullr_z (b off n cap : Nat) (w : World) (hn : 2 < n) (hn2 : n ≤ 1024) (x0 x1 x2 : Int) (X sz sh lo hi : Nat) (c0 : w.cell? ⟨b, off, none⟩ = some (.int .u8 x0)) (h0 : 0 ≤ x0) (h0' : x0 < 256)
    (d1 : w.cell? ⟨b, off + 1, none⟩ = some (.int .u8 x1)) (d2 : w.cell? ⟨b, off + 2, none⟩ = some (.int .u8 x2))
    (ct : w.cell? ⟨1, x0.toNat, none⟩ = some (.int .u8 X)) (hX : bits BinOp.and IntKind.u8 (X : Int) 7 = (sz : Int)) (hX2 : (X : Int) / 16 = (sh : Int)) (hsh : sh < 16)
    (clo : w.cell? ⟨2, sh * 2, none⟩ = some (.int .u8 lo)) (chi : w.cell? ⟨2, sh * 2 + 1, none⟩ = some (.int .u8 hi)) (hsz : sz ≤ 7)
    (h1 : n < sz) (k1 : (lo : Int) ≤ x1) (k2 : x1 ≤ hi) (h3 : x2 < 128 ∨ ((128 : Int) ≤ x2 ∧ (191 : Int) < x2)) :
    Calls Tryf.prog 42 #[.slice (some ⟨b, off, none⟩) n cap] w fun e w' => e = .returned (.bool true) ∧ Kept [] w w' := by
  have g0 : ((n : Int) == 0) = false := by simp; omega
  have g1 : ¬ (sz : Int) ≤ n := by omega
  have gn : (1 : Int) < n := by omega
  have gn2 : (2 : Int) < n := by omega
  have gnd2 : decide ((2 : Int) < (n : Int)) = true := by simp; omega
  have hbl : b < w.heap.size := block_lt_of_cell c0
  have gl : 2 < w.heap.size := block_lt_of_cell clo
  rcases h3 with k3 | ⟨k3, k4⟩
  · have kd : decide (x2 < (128 : Int)) = true := by simpa using k3
    go_enter Tryf.func42, Tryf.ntmps42
    go_wp2
    go_quiet (fail)
    go_wp2
    go_ret
    exact ⟨rfl, ((Kept.refl _ _).alloc _).drewN _⟩
  · have kd : decide (x2 < (128 : Int)) = false := by simp; omega
    have kd2 : decide ((191 : Int) < x2) = true := by simpa using k4
    go_enter Tryf.func42, Tryf.ntmps42
    go_wp2
    go_quiet (fail)
    go_wp2
    go_ret
    exact ⟨rfl, ((Kept.refl _ _).alloc _).drewN _⟩

theorem ft_bits_any (b : Nat) : bits BinOp.and IntKind.u8 (Lib.firstT b : Int) 7 = ((Lib.firstT b % 8 : Nat) : Int) ∧ (Lib.firstT b : Int) / 16 = ((Lib.firstT b / 16 : Nat) : Int) ∧ Lib.firstT b / 16 < 16 := by
  rcases Lib.firstT_cases b with e | e | e | e | e | e | e | e | e <;> rw [e] <;> exact ⟨by decide +kernel, by decide +kernel, by decide⟩

/-- FullRune of whatever bytes. -/
theorem fullr_any {l : List UInt8} (hl : l ≠ []) (hlen : l.length ≤ 1024) (b off n cap : Nat) (hn : n = l.length) (w : World) (hT : Tabs w) (hc : ∀ j x, l[j]? = some x → w.cell? ⟨b, off + j, none⟩ = some (By x)) (F : Bool) (hF : F = fullL l) :
    Calls Tryf.prog 42 #[.slice (some ⟨b, off, none⟩) n cap] w fun e w' => e = .returned (.bool F) ∧ Kept [] w w' := by
  have hl0 : 0 < l.length := List.length_pos_iff.2 hl
  obtain ⟨b1, b2, b3⟩ := ft_bits_any (byAt l 0)
  have cell : ∀ j, j < l.length → w.cell? ⟨b, off + j, none⟩ = some (.int .u8 (byAt l j)) := fun j hj => by
    obtain ⟨e1, e2⟩ := at_of hj
    rw [hc j _ e1, e2]
    rfl
  have c0 := cell 0 hl0
  rw [Nat.add_zero] at c0
  have ht := hT.1 (byAt l 0) (byAt_lt _ _)
  obtain ⟨hlo, hhi⟩ := hT.2 (Lib.firstT (byAt l 0) / 16) b3
  rw [Nat.mul_comm] at hlo hhi
  have hx0 := byAt_lt l 0
  have hff : fullL l = F := hF.symm
  unfold fullL fullN at hff
  rw [if_neg (by omega)] at hff
  by_cases hfull : Lib.firstT (byAt l 0) % 8 ≤ l.length
  · rw [if_pos hfull] at hff
    exact fullr b off n cap w (by omega) (by omega) (byAt l 0) (byAt l 1) (byAt l 2) _ _ _ _ _ c0 (by omega) (by omega) (fun h => cell 1 (by omega)) (fun h => cell 2 (by omega)) ht b1 b2 b3 hlo hhi (by omega) F (.inl ⟨by omega, hff.symm⟩)
  · rw [if_neg hfull] at hff
    by_cases h2 : 1 < l.length ∧ (byAt l 1 < Lib.accLo (Lib.firstT (byAt l 0) / 16) ∨ Lib.accHi (Lib.firstT (byAt l 0) / 16) < byAt l 1)
    · rw [if_pos h2] at hff
      subst hff
      exact fullr_y b off n cap w (by omega) (by omega) (byAt l 0) (byAt l 1) _ _ _ _ _ c0 (by omega) (by omega) (cell 1 h2.1) ht b1 b2 b3 hlo hhi (by omega) (by omega) (by omega)
    · rw [if_neg h2] at hff
      by_cases h3 : 2 < l.length ∧ (byAt l 2 < 128 ∨ 191 < byAt l 2)
      · rw [if_pos h3] at hff
        subst hff
        exact fullr_z b off n cap w (by omega) (by omega) (byAt l 0) (byAt l 1) (byAt l 2) _ _ _ _ _ c0 (by omega) (by omega) (cell 1 (by omega)) (cell 2 (by omega)) ht b1 b2 b3 hlo hhi (by omega) (by omega) (by omega) (by omega) (by omega)
      · rw [if_neg h3] at hff
        exact fullr b off n cap w (by omega) (by omega) (byAt l 0) (byAt l 1) (byAt l 2) _ _ _ _ _ c0 (by omega) (by omega) (fun h => cell 1 (by omega)) (fun h => cell 2 (by omega)) ht b1 b2 b3 hlo hhi (by omega) F (.inr ⟨by omega, fun q => by omega, fun q => by omega, hff.symm⟩)
end Go.Proofs.YtolgahamfkaipaaFmt
