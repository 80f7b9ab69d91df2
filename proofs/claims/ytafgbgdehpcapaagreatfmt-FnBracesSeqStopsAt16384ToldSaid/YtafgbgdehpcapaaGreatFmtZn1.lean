/-
  FnBracesSeqStopsAt16384: what it passes over.
-/
import Derived.Test.YtafgbgdehpcapaaGreatFmtZm
namespace Go.Proofs.YtafgbgdehpcapaaGreatFmt
open Go.RowKit Go.Stop Go.Extern

set_option maxRecDepth 100000 in
set_option maxHeartbeats 1600000 in
theorem sto_skip1 {w : World} {P Q : Nat → Prop} {A1 A2 : Option Addr} {n1 c1 n2 c2 : Nat} {a b c : ByteArray} {xs ys : List ByteArray} (h1 : RdV P w (.slice A1 n1 c1) (strV xs)) (h2 : RdV Q w (.slice A2 n2 c2) (strV ys)) (hb1 : ∀ x ∈ xs, x.size ≤ 9223372036854775807) (hb2 : ∀ x ∈ ys, x.size ≤ 9223372036854775807) (s0 : a.size ≤ 9223372036854775807) (s1 : b.size ≤ 9223372036854775807) (s2 : c.size ≤ 9223372036854775807) (hz : (acc 0 (a.size :: (b.size :: (c.size :: (n1 :: (szs xs ++ (n2 :: (szs ys ++ [])))))))).isSome = false) :
    Calls Tryz.prog 4 #[.string a, .string b, .string c, .slice A1 n1 c1, .slice A2 n2 c2] w fun e w' => e = .returned (.bool true) ∧ Kept [] w w' := by
  have f1 := h1.weaken (Q := (· < w.heap.size)) (fun g hg _ => hg)
  have f2 := h2.weaken (Q := (· < w.heap.size)) (fun g hg _ => hg)
  obtain ⟨v, hv⟩ : ∃ v, v = (((((w.alloc (.cells #[.string a] 9)).alloc (.cells #[.string b] 9)).alloc (.cells #[.string c] 9)).alloc (.cells #[.slice A1 n1 c1] 22)).alloc (.cells #[.slice A2 n2 c2] 22)) := ⟨_, rfl⟩
  have kv : Kept [] w v := by rw [hv]; exact (((((Kept.refl [] w).alloc _).alloc _).alloc _).alloc _).alloc _
  have g1 := f1.kept kv (by simp)
  have g2 := f2.kept kv (by simp)
  have HZ0 := zb_FnBracesSeqStopsAt16384 (w := v) a b c s0 s1 s2 g1 hb1 g2 hb2
  rw [hz] at HZ0
  obtain ⟨q0, hq0⟩ : ∃ q, w.heap.size = q := ⟨_, rfl⟩
  obtain ⟨q1, hq1⟩ : ∃ q, q0 + 1 = q := ⟨_, rfl⟩
  obtain ⟨q2, hq2⟩ : ∃ q, q1 + 1 = q := ⟨_, rfl⟩
  obtain ⟨q3, hq3⟩ : ∃ q, q2 + 1 = q := ⟨_, rfl⟩
  obtain ⟨q4, hq4⟩ : ∃ q, q3 + 1 = q := ⟨_, rfl⟩
  have bx := box5_new w a b c (.slice A1 n1 c1) (.slice A2 n2 c2) hq0 hq1 hq2 hq3 hq4
  rw [← hv] at bx
  have r0 := row0 bx.h0; have r1 := row0 bx.h1; have r2 := row0 bx.h2; have r3 := row0 bx.h3; have r4 := row0 bx.h4
  have HZ : Calls Tryz.prog 13 #[.string a, .string b, .string c, .slice A1 n1 c1, .slice A2 n2 c2] (((((w.alloc (.cells #[.string a] 9)).alloc (.cells #[.string b] 9)).alloc (.cells #[.string c] 9)).alloc (.cells #[.slice A1 n1 c1] 22)).alloc (.cells #[.slice A2 n2 c2] 22)) fun e w' => e = .returned (.bool false) ∧ v = w' := by rw [← hv]; exact HZ0
  have HZ := Lib.hid HZ; have KV := Lib.hid kv; have BX := Lib.hid bx
  have HQ0 := Lib.hid hq0; have HQ1 := Lib.hid hq1; have HQ2 := Lib.hid hq2; have HQ3 := Lib.hid hq3; have HQ4 := Lib.hid hq4
  clear h1 h2 hb1 hb2 hz HZ0 f1 f2 g1 g2 kv bx hq0 hq1 hq2 hq3 hq4 hv
  go_enter Tryz.func4, Tryz.ntmps4
  go_wp2_with (go_at_call 13; refine HZ.out.mono ?_; rintro e w' ⟨rfl, rfl⟩; dsimp only; simp only [HQ0.out, HQ1.out, HQ2.out, HQ3.out, HQ4.out])
  go_ret
  exact ⟨rfl, KV.out⟩

set_option maxRecDepth 100000 in
set_option maxHeartbeats 1600000 in
theorem sto_skip2 {w : World} {P Q : Nat → Prop} {A1 A2 : Option Addr} {n1 c1 n2 c2 : Nat} {a b c : ByteArray} {xs ys : List ByteArray} (h1 : RdV P w (.slice A1 n1 c1) (strV xs)) (h2 : RdV Q w (.slice A2 n2 c2) (strV ys)) (hb1 : ∀ x ∈ xs, x.size ≤ 9223372036854775807) (hb2 : ∀ x ∈ ys, x.size ≤ 9223372036854775807) (s0 : a.size ≤ 9223372036854775807) (s1 : b.size ≤ 9223372036854775807) (s2 : c.size ≤ 9223372036854775807) (hz : (acc 0 (a.size :: (b.size :: (c.size :: (n1 :: (szs xs ++ (n2 :: (szs ys ++ [])))))))).isSome = true) (hlim : limF a.size b.size c.size xs ys = false) :
    Calls Tryz.prog 4 #[.string a, .string b, .string c, .slice A1 n1 c1, .slice A2 n2 c2] w fun e w' => e = .returned (.bool true) ∧ Kept [] w w' := by
  have f1 := h1.weaken (Q := (· < w.heap.size)) (fun g hg _ => hg)
  have f2 := h2.weaken (Q := (· < w.heap.size)) (fun g hg _ => hg)
  obtain ⟨v, hv⟩ : ∃ v, v = (((((w.alloc (.cells #[.string a] 9)).alloc (.cells #[.string b] 9)).alloc (.cells #[.string c] 9)).alloc (.cells #[.slice A1 n1 c1] 22)).alloc (.cells #[.slice A2 n2 c2] 22)) := ⟨_, rfl⟩
  have kv : Kept [] w v := by rw [hv]; exact (((((Kept.refl [] w).alloc _).alloc _).alloc _).alloc _).alloc _
  have g1 := f1.kept kv (by simp)
  have g2 := f2.kept kv (by simp)
  have HZ0 := zb_FnBracesSeqStopsAt16384 (w := v) a b c s0 s1 s2 g1 hb1 g2 hb2
  rw [hz] at HZ0
  obtain ⟨q0, hq0⟩ : ∃ q, w.heap.size = q := ⟨_, rfl⟩
  obtain ⟨q1, hq1⟩ : ∃ q, q0 + 1 = q := ⟨_, rfl⟩
  obtain ⟨q2, hq2⟩ : ∃ q, q1 + 1 = q := ⟨_, rfl⟩
  obtain ⟨q3, hq3⟩ : ∃ q, q2 + 1 = q := ⟨_, rfl⟩
  obtain ⟨q4, hq4⟩ : ∃ q, q3 + 1 = q := ⟨_, rfl⟩
  have bx := box5_new w a b c (.slice A1 n1 c1) (.slice A2 n2 c2) hq0 hq1 hq2 hq3 hq4
  rw [← hv] at bx
  have r0 := row0 bx.h0; have r1 := row0 bx.h1; have r2 := row0 bx.h2; have r3 := row0 bx.h3; have r4 := row0 bx.h4
  have HZ : Calls Tryz.prog 13 #[.string a, .string b, .string c, .slice A1 n1 c1, .slice A2 n2 c2] (((((w.alloc (.cells #[.string a] 9)).alloc (.cells #[.string b] 9)).alloc (.cells #[.string c] 9)).alloc (.cells #[.slice A1 n1 c1] 22)).alloc (.cells #[.slice A2 n2 c2] 22)) fun e w' => e = .returned (.bool true) ∧ v = w' := by rw [← hv]; exact HZ0
  have HZ := Lib.hid HZ; have KV := Lib.hid kv; have BX := Lib.hid bx
  have HQ0 := Lib.hid hq0; have HQ1 := Lib.hid hq1; have HQ2 := Lib.hid hq2; have HQ3 := Lib.hid hq3; have HQ4 := Lib.hid hq4
  obtain ⟨m, hm⟩ := Option.isSome_iff_exists.1 hz
  have hmem := acc_mem hm
  have t0 := hmem a.size (by simp); have t1 := hmem b.size (by simp); have t2 := hmem c.size (by simp); have t3 := hmem n1 (by simp); have t4 := hmem n2 (by simp)
  have HC0 := seqlim_any g1 g2 hb1 hb2 t0 t1 t2 t3 t4
  rw [hlim] at HC0
  have HC := Lib.hid HC0
  clear h1 h2 hb1 hb2 hz HZ0 HC0 f1 f2 g1 g2 kv bx hq0 hq1 hq2 hq3 hq4 hv hm hmem hlim
  go_enter Tryz.func4, Tryz.ntmps4
  go_wp2_with (first | (go_at_call 13; refine HZ.out.mono ?_; rintro e w' ⟨rfl, rfl⟩; dsimp only; simp only [HQ0.out, HQ1.out, HQ2.out, HQ3.out, HQ4.out]) | (go_at_call 14; refine HC.out.mono ?_; rintro e w' ⟨rfl, rfl⟩))
  go_ret
  exact ⟨rfl, KV.out⟩
end Go.Proofs.YtafgbgdehpcapaaGreatFmt
