/-
  utf8.FullRune, walked.
-/
import Derived.Test.YtnjaeooblfihbaaFmtMc
import Derived.BigQuiet
import Derived.IntWalk
namespace Go.Proofs.YtnjaeooblfihbaaFmt
open Go.RowKit

set_option maxRecDepth 100000 in
set_option maxHeartbeats 4000000 in
theorem fullr (b off n cap : Nat) (w : World) (hn : 0 < n) (hn2 : n ≤ 1024) (x0 x1 x2 : Int) (X sz sh lo hi : Nat) (c0 : w.cell? ⟨b, off, none⟩ = some (.int .u8 x0)) (h0 : 0 ≤ x0) (h0' : x0 < 256)
    (c1 : 1 < n → w.cell? ⟨b, off + 1, none⟩ = some (.int .u8 x1)) (c2 : 2 < n → w.cell? ⟨b, off + 2, none⟩ = some (.int .u8 x2))
    (ct : w.cell? ⟨1, x0.toNat, none⟩ = some (.int .u8 X)) (hX : bits BinOp.and IntKind.u8 (X : Int) 7 = (sz : Int)) (hX2 : (X : Int) / 16 = (sh : Int)) (hsh : sh < 16)
    (clo : w.cell? ⟨2, sh * 2, none⟩ = some (.int .u8 lo)) (chi : w.cell? ⟨2, sh * 2 + 1, none⟩ = some (.int .u8 hi)) (hsz : sz ≤ 7)
    (F : Bool) (hF : (sz ≤ n ∧ F = true) ∨ (n < sz ∧ (1 < n → (lo : Int) ≤ x1 ∧ x1 ≤ hi) ∧ (2 < n → 128 ≤ x2 ∧ x2 ≤ 191) ∧ F = false)) :
    Calls Tryf.prog 31 #[.slice (some ⟨b, off, none⟩) n cap] w fun e w' => e = .returned (.bool F) ∧ Kept [] w w' := by
  have g0 : ((n : Int) == 0) = false := by simp; omega
  rcases hF with ⟨h1, rfl⟩ | ⟨h1, h2, h3, rfl⟩
  · clear c1 c2
    go_enter Tryf.func31, Tryf.ntmps31
    go_wp2
    go_ret
    exact ⟨rfl, Kept.refl _ _⟩
  · have g1 : ¬ (sz : Int) ≤ n := by omega
    have hbl : b < w.heap.size := block_lt_of_cell c0
    have gl : 2 < w.heap.size := block_lt_of_cell clo
    rcases (by omega : n = 1 ∨ n = 2 ∨ 2 < n) with rfl | rfl | hn3
    · clear c1 c2 h2 h3
      go_enter Tryf.func31, Tryf.ntmps31
      go_wp2
      go_quiet (fail)
      go_wp2
      go_ret
      exact ⟨rfl, ((Kept.refl _ _).alloc _).drewN _⟩
    · have d1 := c1 (by omega)
      obtain ⟨k1, k2⟩ := h2 (by omega)
      clear c1 c2 h2 h3
      go_enter Tryf.func31, Tryf.ntmps31
      go_wp2
      go_quiet (fail)
      go_wp2
      go_ret
      exact ⟨rfl, ((Kept.refl _ _).alloc _).drewN _⟩
    · have d1 := c1 (by omega)
      have d2 := c2 (by omega)
      obtain ⟨k1, k2⟩ := h2 (by omega)
      obtain ⟨k3, k4⟩ := h3 (by omega)
      have gn : (1 : Int) < n := by omega
      have gn2 : (2 : Int) < n := by omega
      clear c1 c2 h2 h3
      go_enter Tryf.func31, Tryf.ntmps31
      go_wp2
      go_quiet (fail)
      go_wp2
      go_ret
      exact ⟨rfl, ((Kept.refl _ _).alloc _).drewN _⟩

theorem ft_class {b : Nat} (h : 194 ≤ b) (h2 : b ≤ 244) : Lib.firstT b = 2 ∨ Lib.firstT b = 19 ∨ Lib.firstT b = 3 ∨ Lib.firstT b = 35 ∨ Lib.firstT b = 52 ∨ Lib.firstT b = 4 ∨ Lib.firstT b = 68 := by
  by_cases h3 : b < 224
  · exact .inl (ft2 h h3)
  by_cases h4 : b < 240
  · rcases ft3 (by omega) h4 with ⟨e, _⟩ | ⟨e, _⟩ | ⟨e, _⟩ <;> simp [e]
  · rcases ft4 (by omega) h2 with ⟨e, _⟩ | ⟨e, _⟩ | ⟨e, _⟩ <;> simp [e]
theorem ft_bits {b : Nat} (h : 194 ≤ b) (h2 : b ≤ 244) : bits BinOp.and IntKind.u8 (Lib.firstT b : Int) 7 = ((Lib.firstT b % 8 : Nat) : Int) ∧ (Lib.firstT b : Int) / 16 = ((Lib.firstT b / 16 : Nat) : Int) ∧ Lib.firstT b / 16 < 16 := by
  rcases ft_class h h2 with e | e | e | e | e | e | e <;> rw [e] <;> exact ⟨by decide +kernel, by decide +kernel, by decide⟩

theorem at_of {l : List UInt8} {k : Nat} (h : k < l.length) : l[k]? = some l[k] ∧ byAt l k = l[k].toNat := by
  refine ⟨List.getElem?_eq_getElem h, ?_⟩
  unfold byAt
  rw [List.getElem?_eq_getElem h, Option.getD_some]

/-- FullRune of bytes that begin as a rune of more than one byte does. -/
theorem fullr_l {bs l : List UInt8} {a k : Nat} (hm : MB bs a) (hl : (∃ d, l = bs ++ d) ∨ (0 < k ∧ k < bs.length ∧ l = bs.take k)) (hlen : l.length ≤ 1024) (b off n cap : Nat) (hn : n = l.length) (w : World) (hT : Tabs w) (hc : ∀ j x, l[j]? = some x → w.cell? ⟨b, off + j, none⟩ = some (By x)) (F : Bool) (hF : F = fullL l) :
    Calls Tryf.prog 31 #[.slice (some ⟨b, off, none⟩) n cap] w fun e w' => e = .returned (.bool F) ∧ Kept [] w w' := by
  obtain ⟨f1, f2, f3, f4, f5, f6⟩ := mb_facts hm
  have hbl := hm.1
  have hb0 : byAt l 0 = byAt bs 0 := by
    rcases hl with ⟨d, rfl⟩ | ⟨h0, _, rfl⟩
    · exact byAt_app (by omega)
    · exact byAt_take h0
  have hl0 : 0 < l.length := by
    rcases hl with ⟨d, rfl⟩ | ⟨h0, h1, rfl⟩
    · simp; omega
    · rw [List.length_take]; omega
  obtain ⟨b1, b2, b3⟩ := ft_bits f1 f2
  rw [← hb0] at f1 f2 f6 b1 b2 b3
  have cell : ∀ j, j < l.length → w.cell? ⟨b, off + j, none⟩ = some (.int .u8 (byAt l j)) := fun j hj => by
    obtain ⟨e1, e2⟩ := at_of hj
    rw [hc j _ e1, e2]
    rfl
  have c0 := cell 0 hl0
  rw [Nat.add_zero] at c0
  have ht := hT.1 (byAt l 0) (byAt_lt _ _)
  obtain ⟨hlo, hhi⟩ := hT.2 (Lib.firstT (byAt l 0) / 16) b3
  rw [Nat.mul_comm] at hlo hhi
  have hx0 := byAt_lt l 0
  refine fullr b off n cap w (by omega) (by omega) (byAt l 0) (byAt l 1) (byAt l 2) (Lib.firstT (byAt l 0)) (Lib.firstT (byAt l 0) % 8) (Lib.firstT (byAt l 0) / 16) (Lib.accLo (Lib.firstT (byAt l 0) / 16)) (Lib.accHi (Lib.firstT (byAt l 0) / 16)) c0 (by omega) (by omega) (fun h => cell 1 (by omega)) (fun h => cell 2 (by omega)) (by rw [Int.toNat_natCast]; exact ht) b1 b2 b3 hlo hhi (by omega) F ?_
  have hff : fullL l = F := hF.symm
  unfold fullL fullN at hff
  rw [if_neg (by omega)] at hff
  by_cases hfull : Lib.firstT (byAt l 0) % 8 ≤ l.length
  · rw [if_pos hfull] at hff
    exact .inl ⟨by omega, hff.symm⟩
  · rcases hl with ⟨d, rfl⟩ | ⟨h0, h1, rfl⟩
    · rw [f6] at hfull
      simp at hfull
    · have hp := (mb_part hm h0 h1).2
      rw [hp] at hF
      subst hF
      rw [if_neg hfull] at hff
      split at hff
      · cases hff
      · split at hff
        · cases hff
        · rename_i g1 g2
          exact .inr ⟨by omega, fun q => by rw [hn] at q; omega, fun q => by rw [hn] at q; omega, rfl⟩
end Go.Proofs.YtnjaeooblfihbaaFmt
