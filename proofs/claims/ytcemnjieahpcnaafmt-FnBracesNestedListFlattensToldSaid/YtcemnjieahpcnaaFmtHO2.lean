/-
  FnBracesNestedListFlattens: every input.
-/
import Derived.Test.YtcemnjieahpcnaaFmtHO3
namespace Go.Proofs.YtcemnjieahpcnaaFmt
open Go.RowKit

set_option maxRecDepth 100000 in
theorem law_FnBracesNestedListFlattens {w : World} {P Q : Nat → Prop} {A1 A2 : Option Addr} {n1 c1 n2 c2 : Nat} {a b : ByteArray} {xs ys : List ByteArray} (h1 : RdV P w (.slice A1 n1 c1) (strV xs)) (h2 : RdV Q w (.slice A2 n2 c2) (strV ys)) (hb1 : ∀ x ∈ xs, x.size ≤ 9223372036854775807) (hb2 : ∀ x ∈ ys, x.size ≤ 9223372036854775807) (s0 : a.size ≤ 9223372036854775807) (s1 : b.size ≤ 9223372036854775807) :
    Calls Tryf.prog 4 #[.string a, .string b, .slice A1 n1 c1, .slice A2 n2 c2] w fun e w' => e = .returned (.bool true) ∧ Kept [] w w' := by
  have HZ := zb_FnBracesNestedListFlattens (w := w) a b s0 s1 h1 hb1 h2 hb2
  cases hz : (acc 0 (a.size :: (b.size :: (n1 :: (szs xs ++ (n2 :: (szs ys ++ []))))))).isSome with
  | false =>
    rw [hz] at HZ
    have HZ := Lib.hid HZ
    clear h1 h2 hb1 hb2 hz
    go_enter Tryf.func4, Tryf.ntmps4
    go_wp2_with (go_at_call 14; refine HZ.out.mono ?_; rintro e w' ⟨rfl, rfl⟩)
    go_ret
    exact ⟨rfl, Kept.refl _ _⟩
  | true =>
    cases hcart : nestF a.size b.size xs ys with
    | true => exact ok_Nest h1 h2 hb1 hb2 s0 s1 hz hcart
    | false =>
      rw [hz] at HZ
      obtain ⟨m, hm⟩ := Option.isSome_iff_exists.1 hz
      have hmem := acc_mem hm
      have HC := nest_any h1 h2 hb1 hb2 (hmem a.size (by simp)) (hmem b.size (by simp)) (hmem n1 (by simp)) (hmem n2 (by simp))
      rw [hcart] at HC
      have HZ := Lib.hid HZ; have HC := Lib.hid HC
      clear h1 h2 hb1 hb2 hz hmem hm hcart
      go_enter Tryf.func4, Tryf.ntmps4
      go_wp2_with (first | (go_at_call 14; refine HZ.out.mono ?_; rintro e w' ⟨rfl, rfl⟩) | (go_at_call 15; refine HC.out.mono ?_; rintro e w' ⟨rfl, rfl⟩))
      go_ret
      exact ⟨rfl, Kept.refl _ _⟩
end Go.Proofs.YtcemnjieahpcnaaFmt
