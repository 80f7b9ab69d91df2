/-
  FnBracesSeqRecStopsWhenAsked: every input.
-/
import Derived.Test.YtcemnjieahpcnaaFmtHP3
import Derived.Test.YtcemnjieahpcnaaFmtHP4
import Derived.Test.YtcemnjieahpcnaaFmtHP5
namespace Go.Proofs.YtcemnjieahpcnaaFmt
open Go.RowKit

set_option maxRecDepth 100000 in
theorem law_FnBracesSeqRecStopsWhenAsked {w : World} {P Q : Nat → Prop} {A1 A2 : Option Addr} {n1 c1 n2 c2 : Nat} {xs ys : List ByteArray} (h1 : RdV P w (.slice A1 n1 c1) (strV xs)) (h2 : RdV Q w (.slice A2 n2 c2) (strV ys)) (hb1 : ∀ x ∈ xs, x.size ≤ 9223372036854775807) (hb2 : ∀ x ∈ ys, x.size ≤ 9223372036854775807) (k : Int) :
    Calls Tryf.prog 6 #[.slice A1 n1 c1, .slice A2 n2 c2, .int .i64 k] w fun e w' => e = .returned (.bool true) ∧ Kept [] w w' := by
  have kz : Kept [] w (w.alloc (.cells #[.int .i64 k] 3)) := (Kept.refl _ _).alloc _
  have g1 := h1.kept kz (by simp)
  have g2 := h2.kept kz (by simp)
  have HZ := zb_FnBracesSeqRecStopsWhenAsked k g1 hb1 g2 hb2
  cases hz : (acc 0 (n1 :: (szs xs ++ (n2 :: (szs ys ++ []))))).isSome with
  | false =>
    rw [hz] at HZ
    have HZ := Lib.hid HZ
    have KZ := Lib.hid kz
    clear h1 h2 g1 g2 hb1 hb2 hz kz
    go_enter Tryf.func6, Tryf.ntmps6
    go_wp2_with (go_at_call 24; refine HZ.out.mono ?_; rintro e w' ⟨rfl, rfl⟩)
    go_ret
    exact ⟨rfl, KZ.out⟩
  | true =>
    cases hs : sobF 0 0 0 xs ys 256 with
    | false =>
      rw [hz] at HZ
      obtain ⟨m, hm⟩ := Option.isSome_iff_exists.1 hz
      have hmem := acc_mem hm
      have HC := stopok_any g1 g2 hb1 hb2 (hmem n1 (by simp)) (hmem n2 (by simp))
      rw [hs] at HC
      have HZ := Lib.hid HZ; have HC := Lib.hid HC; have KZ := Lib.hid kz
      clear h1 h2 g1 g2 hb1 hb2 hz hmem hm hs kz
      go_enter Tryf.func6, Tryf.ntmps6
      go_wp2_with (first | (go_at_call 24; refine HZ.out.mono ?_; rintro e w' ⟨rfl, rfl⟩) | (go_at_call 25; refine HC.out.mono ?_; rintro e w' ⟨rfl, rfl⟩))
      go_ret
      exact ⟨rfl, KZ.out⟩
    | true =>
      by_cases hk1 : k < 1
      · by_cases hp : 0 < xs.length * ys.length
        · exact ok_Stop_B1p h1 h2 hb1 hb2 k hz hs hk1 hp
        · exact ok_Stop_B1z h1 h2 hb1 hb2 k hz hs hk1 (by omega)
      · by_cases hk2 : (xs.length * ys.length : Nat) < k
        · by_cases hp : 0 < xs.length * ys.length
          · exact ok_Stop_B2p h1 h2 hb1 hb2 k hz hs (by omega) hk2 hp
          · exact ok_Stop_B2z h1 h2 hb1 hb2 k hz hs (by omega) hk2 (by omega)
        · obtain ⟨m, rfl⟩ : ∃ m : Nat, k = m := ⟨k.toNat, by omega⟩
          exact ok_Stop_A h1 h2 hb1 hb2 m hz hs (by omega) (by omega)
end Go.Proofs.YtcemnjieahpcnaaFmt
