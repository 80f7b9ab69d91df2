/-
  FnBracesSeqAgreesWithBraces: every input.
-/
import Derived.Test.YtafgbgdehpcapaaGreatFmtZh1
import Derived.Test.YtafgbgdehpcapaaGreatFmtZh2
import Derived.Test.YtafgbgdehpcapaaGreatFmtZh3
import Derived.Test.YtafgbgdehpcapaaGreatFmtZh4
namespace Go.Proofs.YtafgbgdehpcapaaGreatFmt
open Go.RowKit Go.Stop Go.Extern

set_option maxRecDepth 100000 in
theorem law_FnBracesSeqAgreesWithBraces (F : Interp) {w : World} (hF : F.answers w.tape) {P Q : Nat → Prop} {A1 A2 : Option Addr} {n1 c1 n2 c2 : Nat} {a b c : ByteArray} {xs ys : List ByteArray} (h1 : RdV P w (.slice A1 n1 c1) (strV xs)) (h2 : RdV Q w (.slice A2 n2 c2) (strV ys)) (hb1 : ∀ x ∈ xs, x.size ≤ 9223372036854775807) (hb2 : ∀ x ∈ ys, x.size ≤ 9223372036854775807) (s0 : a.size ≤ 9223372036854775807) (s1 : b.size ≤ 9223372036854775807) (s2 : c.size ≤ 9223372036854775807) (k : Int) :
    Calls Tryz.prog 3 #[.string a, .string b, .string c, .slice A1 n1 c1, .slice A2 n2 c2, .int .i64 k] w fun e w' => e = .returned (.bool true) ∧ Kept [] w w' := by
  have kz : Kept [] w (w.alloc (.cells #[.int .i64 k] 3)) := (Kept.refl _ _).alloc _
  cases hz : (acc 0 (a.size :: (b.size :: (c.size :: (n1 :: (szs xs ++ (n2 :: (szs ys ++ [])))))))).isSome with
  | false =>
    have HZ := zb_FnBracesSeqAgreesWithBraces (w := w.alloc (.cells #[.int .i64 k] 3)) a b c k s0 s1 s2 (h1.kept kz (by simp)) hb1 (h2.kept kz (by simp)) hb2
    rw [hz] at HZ
    have HZ := Lib.hid HZ; have KZ := Lib.hid kz
    clear h1 h2 hb1 hb2 hz kz hF
    go_enter Tryz.func3, Tryz.ntmps3
    go_wp2_with (go_at_call 5; refine HZ.out.mono ?_; rintro e w' ⟨rfl, rfl⟩)
    go_ret
    exact ⟨rfl, KZ.out⟩
  | true =>
    cases hcart : cartF a.size b.size c.size xs ys with
    | true =>
      rcases Int.lt_or_le k 0 with hk | hk
      · rcases Nat.lt_or_ge 16384 (n1 * n2) with ht | ht
        · exact ok_Agr_4 h1 h2 hb1 hb2 s0 s1 s2 k hz hcart F hF ht hk
        · exact ok_Agr_1 h1 h2 hb1 hb2 s0 s1 s2 k hz hcart F hF ht hk
      · obtain ⟨kn, rfl⟩ : ∃ kn : Nat, k = kn := ⟨k.toNat, by omega⟩
        rcases Nat.lt_or_ge 16384 (n1 * n2) with ht | ht
        · rcases Nat.lt_trichotomy kn 16384 with hq | hq | hq
          · exact ok_Agr_5 h1 h2 hb1 hb2 s0 s1 s2 kn hz hcart F hF ht hq
          · subst hq
            exact ok_Agr_6 h1 h2 hb1 hb2 s0 s1 s2 hz hcart F hF ht
          · exact ok_Agr_7 h1 h2 hb1 hb2 s0 s1 s2 kn hz hcart F hF ht hq
        · rcases Nat.lt_or_ge kn (n1 * n2) with hq | hq
          · exact ok_Agr_2 h1 h2 hb1 hb2 s0 s1 s2 kn hz hcart F hF ht hq
          · exact ok_Agr_3 h1 h2 hb1 hb2 s0 s1 s2 kn hz hcart F hF ht (by omega)
    | false =>
      have g1 := h1.kept kz (by simp)
      have g2 := h2.kept kz (by simp)
      have HZ := zb_FnBracesSeqAgreesWithBraces (w := w.alloc (.cells #[.int .i64 k] 3)) a b c k s0 s1 s2 g1 hb1 g2 hb2
      rw [hz] at HZ
      obtain ⟨m, hm⟩ := Option.isSome_iff_exists.1 hz
      have hmem := acc_mem hm
      have HC := cart_any g1 g2 hb1 hb2 (hmem a.size (by simp)) (hmem b.size (by simp)) (hmem c.size (by simp)) (hmem n1 (by simp)) (hmem n2 (by simp))
      rw [hcart] at HC
      have HZ := Lib.hid HZ; have HC := Lib.hid HC; have KZ := Lib.hid kz
      clear h1 h2 hb1 hb2 hz hmem hm hcart kz hF g1 g2
      go_enter Tryz.func3, Tryz.ntmps3
      go_wp2_with (first | (go_at_call 5; refine HZ.out.mono ?_; rintro e w' ⟨rfl, rfl⟩) | (go_at_call 6; refine HC.out.mono ?_; rintro e w' ⟨rfl, rfl⟩))
      go_ret
      exact ⟨rfl, KZ.out⟩
end Go.Proofs.YtafgbgdehpcapaaGreatFmt
