/-
  n010_56: the statement's own tests of bytes.
-/
import Derived.Test.YtbkhlidamhblbaaFmtPd
import Derived.IntWalk
namespace Go.Proofs.YtbkhlidamhblbaaFmt
open Go.RowKit

def intOf : Value → Int
  | .int _ n => n
  | _ => 0
theorem str_at {s : ByteArray} {k : Nat} (h : k < s.size) : s.data.toList[k]? = some s[k] := by
  rw [List.getElem?_eq_getElem (by exact h)]
  rfl
def plainB (n : Int) : Bool := decide (32 ≤ n ∧ n ≤ 126 ∧ n ≠ 92)

set_option maxRecDepth 100000 in
theorem zplain (r : Int) (w : World) : Calls Tryf.prog 5 #[.int .u8 r] w fun e w' => e = .returned (.bool (plainB r)) ∧ w = w' := by
  obtain ⟨b, hb⟩ : ∃ b, b = plainB r := ⟨_, rfl⟩
  rw [← hb]
  have HB := Lib.hid hb
  clear hb
  go_enter Tryf.func5, Tryf.ntmps5
  go_wp2_with fail
  all_goals (
    go_ret
    refine ⟨?_, rfl⟩
    rw [HB.out]
    simp at *
    simp [plainB]
    first | omega | (rw [Bool.eq_iff_iff]; simp; omega))

def plainS (l : List UInt8) : Bool := l.all fun c => plainB c.toNat
set_option maxRecDepth 100000 in
set_option maxHeartbeats 800000 in
theorem zplainstr (s : ByteArray) (w : World) (hs : s.size ≤ 10000000) :
    Calls Tryf.prog 6 #[.string s] w fun e w' => e = .returned (.bool (plainS s.data.toList)) ∧ w = w' := by
  go_enter Tryf.func6, Tryf.ntmps6
  go_wp2
  go_loop [2, 3] (fun _ i => ∃ k : Nat, k ≤ s.size ∧ i = .int .i64 k ∧ Hid (∀ (j : Nat) (c : UInt8), j < k → s.data.toList[j]? = some c → plainB c.toNat = true)) (fun _ i => s.size - (intOf i).toNat)
  case atStart => exact ⟨0, Nat.zero_le _, rfl, Lib.hid (fun j c h => absurd h (by omega))⟩
  case round =>
    obtain ⟨k, hk, rfl, HN⟩ := hrel
    by_cases hlt : k < s.size
    · have hat := Lib.hid (str_at hlt)
      cases hx : plainB (s[k].toNat : Int) with
      | false =>
        have HF : Hid (plainS s.data.toList = false) := Lib.hid (by
          unfold plainS
          rw [List.all_eq_false]
          exact ⟨s[k], List.mem_of_getElem? hat.out, by simp [hx]⟩)
        go_wp2_with (go_at_call 5; refine (zplain _ _).mono ?_; rintro e w' ⟨rfl, rfl⟩; rw [hx])
        go_ret
        rw [HF.out]
        exact ⟨rfl, rfl⟩
      | true =>
        go_wp2_with (go_at_call 5; refine (zplain _ _).mono ?_; rintro e w' ⟨rfl, rfl⟩; rw [hx])
        go_round
        case rel => exact ⟨k + 1, by omega, by go_num, Lib.hid (fun j c hj hc => by
          by_cases e : j = k
          · subst e; rw [hat.out] at hc; rw [← Option.some.inj hc]; exact hx
          · exact HN.out j c (by omega) hc)⟩
        case measure => simp [intOf]; omega
    · obtain rfl : k = s.size := by omega
      have HF : Hid (plainS s.data.toList = true) := Lib.hid (by
        unfold plainS
        rw [List.all_eq_true]
        intro c hc
        obtain ⟨j, hj, e⟩ := List.mem_iff_getElem.1 hc
        exact HN.out j c hj (by rw [List.getElem?_eq_getElem hj, e]))
      go_wp2
      go_ret
      rw [HF.out]
      exact ⟨rfl, rfl⟩

theorem zb_long (p n : Int) (s : ByteArray) (b : Bool) (hb : decide (s.size ≤ 1048576) = b) (h2 : s.size ≤ 9223372036854775807) (w : World) : Calls Tryf.prog 4 #[.int .u8 p, .int .u8 n, .string s] w fun e w' => e = .returned (.bool b) ∧ w = w' := by
  cases b with
  | true =>
    have h1 : s.size ≤ 1048576 := of_decide_eq_true hb
    clear hb
    go_enter Tryf.func4, Tryf.ntmps4
    go_wp2
    go_ret
    exact ⟨rfl, rfl⟩
  | false =>
    have h1 : ¬ s.size ≤ 1048576 := of_decide_eq_false hb
    have h3 : 1048576 < s.size := by omega
    clear hb h1
    go_enter Tryf.func4, Tryf.ntmps4
    go_wp2
    go_ret
    exact ⟨rfl, rfl⟩
end Go.Proofs.YtbkhlidamhblbaaFmt
