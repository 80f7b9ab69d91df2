/-
  FnBracesSeqRecNumericSequence: every input.
-/
import Derived.Test.YtnnedmjkhjgbcaaFmtSi
import Derived.Test.YtnnedmjkhjgbcaaFmtSj
namespace Go.Proofs.YtnnedmjkhjgbcaaFmt
open Go.RowKit

set_option maxRecDepth 100000 in
theorem law_FnBracesSeqRecNumericSequence {w : World} (a b : ByteArray) (f t p : Int) (hs : Bool) (s0 : a.size ≤ 9223372036854775807) (s1 : b.size ≤ 9223372036854775807) (htab : Tab w) :
    Calls Tryf.prog 3 #[.string a, .string b, .int .i64 f, .int .i64 t, .int .i64 p, .bool hs] w fun e w' => e = .returned (.bool true) ∧ Kept [] w w' := by
  by_cases hab : a.size + b.size ≤ 1048576
  · by_cases hg : InL f t p ∧ cntV f t p hs ≤ 65536 ∧ cntV f t p hs * (a.size + b.size + 64) ≤ 67108864
    · obtain ⟨g1, g2, g3⟩ := hg
      cases hs with
      | false => exact ok_num_n a b f t p hab g1 g2 g3 htab
      | true => exact ok_num_y a b f t p hab g1 g2 g3 htab
    · have hG : Calls Tryf.prog 5 #[.string a, .string b, .int .i64 f, .int .i64 t, .int .i64 p, .bool hs] w fun e w' => e = .returned (.tuple #[.int .u64 0, .int .u64 0, .bool false]) ∧ w = w' := by
        by_cases h1 : InL f t p
        · by_cases h2 : cntV f t p hs ≤ 65536
          · exact guard_mul w a b f t p hs hab h1 h2 (fun h3 => hg ⟨h1, h2, h3⟩)
          · exact guard_cnt w a b f t p hs hab h1 h2
        · exact guard_lim w a b f t p hs hab h1
      have hZ := zb_seq w a b f t p hs s0 s1
      rw [decide_eq_true hab] at hZ
      have HZ := Lib.hid hZ; have HG := Lib.hid hG
      clear hZ hG hg hab htab
      go_enter Tryf.func3, Tryf.ntmps3
      go_wp2_with (first
        | (go_at_call 4; refine HZ.out.mono ?_; rintro e w' ⟨rfl, rfl⟩)
        | (go_at_call 5; refine HG.out.mono ?_; rintro e w' ⟨rfl, rfl⟩))
      go_returns
      exact ⟨rfl, (Kept.refl _ _).alloc _⟩
  · have hZ := zb_seq w a b f t p hs s0 s1
    rw [decide_eq_false hab] at hZ
    have HZ := Lib.hid hZ
    clear hZ hab htab
    go_enter Tryf.func3, Tryf.ntmps3
    go_wp2_with (go_at_call 4; refine HZ.out.mono ?_; rintro e w' ⟨rfl, rfl⟩)
    go_returns
    exact ⟨rfl, Kept.refl _ _⟩
end Go.Proofs.YtnnedmjkhjgbcaaFmt
