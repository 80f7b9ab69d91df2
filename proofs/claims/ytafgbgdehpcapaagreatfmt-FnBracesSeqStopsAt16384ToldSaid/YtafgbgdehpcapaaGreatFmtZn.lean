/-
  FnBracesSeqStopsAt16384: every input.
-/
import Derived.Test.YtafgbgdehpcapaaGreatFmtZn2
namespace Go.Proofs.YtafgbgdehpcapaaGreatFmt
open Go.RowKit Go.Stop Go.Extern

theorem law_FnBracesSeqStopsAt16384 (F : Interp) {w : World} (hF : F.answers w.tape) {P Q : Nat → Prop} {A1 A2 : Option Addr} {n1 c1 n2 c2 : Nat} {a b c : ByteArray} {xs ys : List ByteArray} (h1 : RdV P w (.slice A1 n1 c1) (strV xs)) (h2 : RdV Q w (.slice A2 n2 c2) (strV ys)) (hb1 : ∀ x ∈ xs, x.size ≤ 9223372036854775807) (hb2 : ∀ x ∈ ys, x.size ≤ 9223372036854775807) (s0 : a.size ≤ 9223372036854775807) (s1 : b.size ≤ 9223372036854775807) (s2 : c.size ≤ 9223372036854775807) :
    Calls Tryz.prog 4 #[.string a, .string b, .string c, .slice A1 n1 c1, .slice A2 n2 c2] w fun e w' => e = .returned (.bool true) ∧ Kept [] w w' := by
  cases hz : (acc 0 (a.size :: (b.size :: (c.size :: (n1 :: (szs xs ++ (n2 :: (szs ys ++ [])))))))).isSome with
  | false => exact sto_skip1 h1 h2 hb1 hb2 s0 s1 s2 hz
  | true =>
    cases hlim : limF a.size b.size c.size xs ys with
    | false => exact sto_skip2 h1 h2 hb1 hb2 s0 s1 s2 hz hlim
    | true =>
      rcases Nat.lt_or_ge 16384 (n1 * n2) with ht | ht
      · exact ok_Sto_2 h1 h2 hb1 hb2 s0 s1 s2 hz hlim F hF ht
      · exact ok_Sto_1 h1 h2 hb1 hb2 s0 s1 s2 hz hlim F hF ht
end Go.Proofs.YtafgbgdehpcapaaGreatFmt
