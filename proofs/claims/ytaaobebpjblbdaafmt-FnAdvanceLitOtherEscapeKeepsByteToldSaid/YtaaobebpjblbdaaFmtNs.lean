/-
  n010_42: the law's own helpers: inSet.
-/
import Derived.Test.YtaaobebpjblbdaaFmtByt
import Derived.IntWalk
namespace Go.Proofs.YtaaobebpjblbdaaFmt
open Go.RowKit

def intOf : Value → Int
  | .int _ n => n
  | _ => 0
theorem str_at {s : ByteArray} {k : Nat} (h : k < s.size) : s.data.toList[k]? = some s[k] := by
  rw [List.getElem?_eq_getElem (by exact h)]
  rfl
theorem rune_u8 (c : UInt8) : wrap32 (c.toNat : Int) = c.toNat := by have := c.toNat_lt; exact IntWalk.wrap32_in _ (by omega)
/-- The set holds x. -/
def inSetB (l : List UInt8) (x : Int) : Bool := l.any fun c => (c.toNat : Int) == x

set_option maxRecDepth 100000 in
set_option maxHeartbeats 800000 in
theorem inset_any (s : ByteArray) (x : Int) (w : World) (hs : s.size ≤ 10000000) :
    Calls Tryf.prog 19 #[.string s, .int .i32 x] w fun e w' => e = .returned (.bool (inSetB s.data.toList x)) ∧ w = w' := by
  go_enter Tryf.func19, Tryf.ntmps19
  go_wp2
  go_loop [4, 5] (fun _ i => ∃ k : Nat, k ≤ s.size ∧ i = .int .i64 k ∧ Hid (∀ (j : Nat) (c : UInt8), j < k → s.data.toList[j]? = some c → ((c.toNat : Int) == x) = false)) (fun _ i => s.size - (intOf i).toNat)
  case atStart => exact ⟨0, Nat.zero_le _, rfl, Lib.hid (fun j c h => absurd h (by omega))⟩
  case round =>
    obtain ⟨k, hk, rfl, HN⟩ := hrel
    by_cases hlt : k < s.size
    · have hat := Lib.hid (str_at hlt)
      have hwr := rune_u8 s[k]
      by_cases hx : ((s[k].toNat : Int) == x) = true
      · have HF : Hid (inSetB s.data.toList x = true) := Lib.hid (by
          unfold inSetB
          rw [List.any_eq_true]
          exact ⟨s[k], List.mem_of_getElem? hat.out, hx⟩)
        go_wp2
        go_ret
        rw [HF.out]
        exact ⟨rfl, rfl⟩
      · have hx' : ((s[k].toNat : Int) == x) = false := by simpa using hx
        clear hx
        go_wp2
        go_round
        case rel => exact ⟨k + 1, by omega, by go_num, Lib.hid (fun j c hj hc => by
          by_cases e : j = k
          · subst e; rw [hat.out] at hc; rw [← Option.some.inj hc]; exact hx'
          · exact HN.out j c (by omega) hc)⟩
        case measure => simp [intOf]; omega
    · obtain rfl : k = s.size := by omega
      have HF : Hid (inSetB s.data.toList x = false) := Lib.hid (by
        unfold inSetB
        rw [List.any_eq_false]
        intro c hc
        obtain ⟨j, hj, e⟩ := List.getElem_of_mem hc
        rw [HN.out j c hj (by rw [List.getElem?_eq_getElem hj, e])]
        simp)
      go_wp2
      go_ret
      rw [HF.out]
      exact ⟨rfl, rfl⟩
end Go.Proofs.YtaaobebpjblbdaaFmt
