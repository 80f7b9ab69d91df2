/-
  FnBracesSeqStopsAt16384, walked.
-/
import Derived.Test.YtafgbgdehpcapaaGreatFmtZn1
import Derived.Test.YtafgbgdehpcapaaGreatFmtZg
import Derived.Deep.RegionHeld3
namespace Go.Proofs.YtafgbgdehpcapaaGreatFmt
open Go.RowKit Go.Stop Go.Extern

set_option maxRecDepth 100000 in
set_option maxHeartbeats 3200000 in
theorem ok_Sto_1 {w : World} {P Q : Nat → Prop} {A1 A2 : Option Addr} {n1 c1 n2 c2 : Nat} {a b c : ByteArray} {xs ys : List ByteArray} (h1 : RdV P w (.slice A1 n1 c1) (strV xs)) (h2 : RdV Q w (.slice A2 n2 c2) (strV ys)) (hb1 : ∀ x ∈ xs, x.size ≤ 9223372036854775807) (hb2 : ∀ x ∈ ys, x.size ≤ 9223372036854775807) (s0 : a.size ≤ 9223372036854775807) (s1 : b.size ≤ 9223372036854775807) (s2 : c.size ≤ 9223372036854775807) (hz : (acc 0 (a.size :: (b.size :: (c.size :: (n1 :: (szs xs ++ (n2 :: (szs ys ++ [])))))))).isSome = true) (hlim : limF a.size b.size c.size xs ys = true) (F : Interp) (hF : F.answers w.tape) (ht : n1 * n2 ≤ 16384) :
    Calls Tryz.prog 4 #[.string a, .string b, .string c, .slice A1 n1 c1, .slice A2 n2 c2] w fun e w' => e = .returned (.bool true) ∧ Kept [] w w' := by
  have f1 := h1.weaken (Q := (· < w.heap.size)) (fun g hg _ => hg)
  have f2 := h2.weaken (Q := (· < w.heap.size)) (fun g hg _ => hg)
  obtain ⟨v, hv⟩ : ∃ v, v = (((((w.alloc (.cells #[.string a] 9)).alloc (.cells #[.string b] 9)).alloc (.cells #[.string c] 9)).alloc (.cells #[.slice A1 n1 c1] 22)).alloc (.cells #[.slice A2 n2 c2] 22)) := ⟨_, rfl⟩
  have kv : Kept [] w v := by rw [hv]; exact (((((Kept.refl [] w).alloc _).alloc _).alloc _).alloc _).alloc _
  have g1 := f1.kept kv (by simp)
  have g2 := f2.kept kv (by simp)
  have HZ0 := zb_FnBracesSeqStopsAt16384 (w := v) a b c s0 s1 s2 g1 hb1 g2 hb2
  rw [hz] at HZ0
  obtain ⟨q0, hq0⟩ : ∃ q, w.heap.size = q := ⟨_, rfl⟩
  obtain ⟨q1, hq1⟩ : ∃ q, q0 + 1 = q := ⟨_, rfl⟩
  obtain ⟨q2, hq2⟩ : ∃ q, q1 + 1 = q := ⟨_, rfl⟩
  obtain ⟨q3, hq3⟩ : ∃ q, q2 + 1 = q := ⟨_, rfl⟩
  obtain ⟨q4, hq4⟩ : ∃ q, q3 + 1 = q := ⟨_, rfl⟩
  have bx := box5_new w a b c (.slice A1 n1 c1) (.slice A2 n2 c2) hq0 hq1 hq2 hq3 hq4
  rw [← hv] at bx
  have r0 := row0 bx.h0; have r1 := row0 bx.h1; have r2 := row0 bx.h2; have r3 := row0 bx.h3; have r4 := row0 bx.h4
  have HZ : Calls Tryz.prog 13 #[.string a, .string b, .string c, .slice A1 n1 c1, .slice A2 n2 c2] (((((w.alloc (.cells #[.string a] 9)).alloc (.cells #[.string b] 9)).alloc (.cells #[.string c] 9)).alloc (.cells #[.slice A1 n1 c1] 22)).alloc (.cells #[.slice A2 n2 c2] 22)) fun e w' => e = .returned (.bool true) ∧ v = w' := by rw [← hv]; exact HZ0
  have HZ := Lib.hid HZ; have KV := Lib.hid kv; have BX := Lib.hid bx
  have HQ0 := Lib.hid hq0; have HQ1 := Lib.hid hq1; have HQ2 := Lib.hid hq2; have HQ3 := Lib.hid hq3; have HQ4 := Lib.hid hq4
  obtain ⟨m, hm⟩ := Option.isSome_iff_exists.1 hz
  have hmem := acc_mem hm
  have t0 := hmem a.size (by simp); have t1 := hmem b.size (by simp); have t2 := hmem c.size (by simp); have t3 := hmem n1 (by simp); have t4 := hmem n2 (by simp)
  have HC0 := seqlim_any g1 g2 hb1 hb2 t0 t1 t2 t3 t4
  rw [hlim] at HC0
  have HC := Lib.hid HC0
  obtain ⟨m1, m2, u1, u2, u3⟩ := sob_yes (lim_sob hlim)
  have l1 := strs_len h1
  have l2 := strs_len h2
  rw [l1] at m1
  rw [l2] at m2
  have hR0 := fin1 (k := -1) ht (by omega)
  have hR := (congrArg (finQ (-1)) (show xs.length * ys.length = n1 * n2 by rw [l1, l2])).trans hR0
  clear hR0
  obtain ⟨tot, htot⟩ : ∃ t, t = n1 * n2 := ⟨_, rfl⟩
  rw [← htot] at ht
  rw [← htot] at hR
  have htb : tot ≤ 65536 := by rw [htot]; exact Nat.mul_le_mul m1 m2
  have e12 : (n1 : Int) * n2 = tot := by rw [htot, Int.natCast_mul]
  have HTOT := Lib.hid htot; have HU := Lib.hid u3; have HL1 := Lib.hid l1; have HL2 := Lib.hid l2; have HR := Lib.hid hR
  have hq4v : q4 < v.heap.size := heap_lt bx.h4
  have HQV := Lib.hid hq4v
  have HF := Lib.hid (show F.answers v.tape by rw [kv.tape]; exact hF)
  have HK1 := Lib.hid (clone_any g1 t3)
  have HK2 : Hid (∀ (w1 : World) (x : Value), Kept [] v w1 → Calls Tryz.prog 7 #[.slice A2 n2 c2] (w1.setCell ⟨q3, 0, none⟩ x) (ClPost (w1.setCell ⟨q3, 0, none⟩ x) n2 ys)) := Lib.hid (fun w1 x k => clone_any (((g2.kept k (by simp)).kept (((Kept.refl [q3] w1).setCell (by simp) x)) (fun g hg _ => by simp; omega))) t4)
  have HTL := Lib.hid (fun (w' : World) (A1 A2 : Option Addr) (c1 c2 : Nat) (P Q : Nat → Prop) (g1 : RdV P w' (.slice A1 n1 c1) (strV xs)) (g2 : RdV Q w' (.slice A2 n2 c2) (strV ys)) => twolist_any (a := a) (b := b) (c := c) g1 g2 t3 t4)
  clear h1 h2 hb1 hb2 hz HZ0 HC0 f1 f2 g1 g2 kv bx hq0 hq1 hq2 hq3 hq4 hv hm hmem hlim u1 u2 u3 l1 l2 htot hR hF hq4v
  go_enter Tryz.func4, Tryz.ntmps4
  go_wp2_with (first
    | (go_at_call 13; refine HZ.out.mono ?_; rintro e w' ⟨rfl, rfl⟩; dsimp only; simp only [HQ0.out, HQ1.out, HQ2.out, HQ3.out, HQ4.out])
    | (go_at_call 14; refine HC.out.mono ?_; rintro e w' ⟨rfl, rfl⟩)
    | (go_at_call_of 7 (Value.slice A1 n1 c1); refine HK1.out.mono ?_; rintro e w1 ⟨B1, d1, rfl, hr1, hk1⟩; have hx1 := BX.out.kept hk1; have r31 := row0 hx1.h3; have f31 := row0f hx1.h3; have hx2 := hx1.set3 (.slice B1 n1 d1); have r42 := row0 hx2.h4; have HX2 := Lib.hid hx2; have HR1 := Lib.hid hr1; have K1 := Lib.hid hk1; clear hr1 hk1 hx1 hx2)
    | (go_at_call_of 7 (Value.slice A2 n2 c2); refine (HK2.out _ _ K1.out).mono ?_; rintro e w2 ⟨B2, d2, rfl, hr2, hk2⟩; have hx3 := HX2.out.kept hk2; have r43 := row0 hx3.h4; have f43 := row0f hx3.h4; have hx4 := hx3.set4 (.slice B2 n2 d2); have r44 := row0 hx4.h4; have hx5 := hx4.kept (((Kept.refl [] (w2.setCell ⟨q4, 0, none⟩ (.slice B2 n2 d2))).alloc (.cells #[.int .i64 n2] 3))); have r35 := row0 hx5.h3; have hx6 := hx5.kept (((Kept.refl [] ((w2.setCell ⟨q4, 0, none⟩ (.slice B2 n2 d2)).alloc (.cells #[.int .i64 n2] 3))).alloc (.cells #[.int .i64 tot] 3))); have r06 := row0 hx6.h0; have r16 := row0 hx6.h1; have r26 := row0 hx6.h2; have r36 := row0 hx6.h3; have r46 := row0 hx6.h4; have HX6 := Lib.hid hx6; have ka : Kept [q3, q4] w1 (((w2.setCell ⟨q4, 0, none⟩ (.slice B2 n2 d2)).alloc (.cells #[.int .i64 n2] 3)).alloc (.cells #[.int .i64 tot] 3)) := (((((Kept.refl [q3, q4] w1).setCell (by simp) (.slice B1 n1 d1)).trans (hk2.weaken (by simp))).setCell (by simp) (.slice B2 n2 d2)).alloc _).alloc _; have kb : Kept [q4] w2 (((w2.setCell ⟨q4, 0, none⟩ (.slice B2 n2 d2)).alloc (.cells #[.int .i64 n2] 3)).alloc (.cells #[.int .i64 tot] 3)) := (((Kept.refl [q4] w2).setCell (by simp) (.slice B2 n2 d2)).alloc _).alloc _; have HG1 := Lib.hid (HR1.out.kept ka (fun g hg _ => by have h1 := HQV.out; have h2 := HQ4.out; simp; omega)); have HG2 := Lib.hid (hr2.kept kb (fun g hg _ => by have h1 := HQV.out; have h2 := K1.out.size; simp at hg; simp; omega)); have KA := Lib.hid ((K1.out.weaken (S' := [q3, q4]) (by simp)).trans ka); have HNT := Lib.hid (alloc_two (u := (w2.setCell ⟨q4, 0, none⟩ (.slice B2 n2 d2))) (z := w2.heap.size) (by simp) (.int .i64 n2) (.int .i64 tot) 3 3); clear hr2 hk2 hx3 hx4 hx5 hx6 ka kb)
    | (go_at_call 8; refine (HTL.out _ _ _ _ _ _ _ HG1.out HG2.out).mono ?_; rintro e w3 ⟨pw, la, lb, lc, b1, b2, lx, ly, rfl, hT, hk3⟩; have hx7 := HX6.out.kept hk3; have hna := row0 ((hk3.block _ (heap_lt HNT.out.1) (by simp)).trans HNT.out.1); have hta := row0 ((hk3.block _ (heap_lt HNT.out.2) (by simp)).trans HNT.out.2); have EV : Env1 w3 w3.heap.size pw la lb lc b1 b2 (w2.heap.size + 1) w2.heap.size q0 q3 q1 q4 q2 lx ly a b c xs ys B1 B2 d1 d2 := ⟨rfl, hT, (by rw [HL1.out, HL2.out, ← HTOT.out]; exact htb), (by rw [HL1.out]; omega), (by rw [HL2.out]; omega), HU.out, row0 hx7.h0, row0 hx7.h1, row0 hx7.h2, (by rw [HL1.out]; exact row0 hx7.h3), (by rw [HL2.out]; exact row0 hx7.h4), (by rw [HL2.out]; exact hna), (by rw [HL1.out, HL2.out, ← HTOT.out]; exact hta), (strs_at (HG1.out.kept hk3 (by simp))).out, (strs_at (HG2.out.kept hk3 (by simp))).out⟩; have hkv3 := KA.out.trans (hk3.weaken (by simp)); have HST := Lib.hid (st_call EV F (by rw [hkv3.tape]; exact HF.out) _ HR.out); have K3 := Lib.hid hkv3; have htc := hta; clear hT hk3 hx7 hna EV hkv3 hta)
    | (go_at_call 10; refine (bs_any _ _ pw).mono ?_; rintro e w' ⟨rfl, rfl⟩)
    | (go_at_call 23; refine HST.out.mono ?_; rintro e w6 ⟨rfl, e1, e2, e3, e4⟩; have e5 : w6.cell? ⟨w3.heap.size + 1, 0, none⟩ = some (.int .i64 0) := e2; dsimp only at e1 e3 ⊢; have e6 := (e4.cell (p := ⟨w2.heap.size + 1, 0, none⟩) (block_lt_of_cell htc) (by simp)).trans htc; have K6 := Lib.hid e4; clear e2 e4))
  go_ret
  refine ⟨?_, ((KV.out.weaken (S' := [q3, q4]) (by simp)).trans (K3.out.trans (K6.out.weaken (by simp)))).weaken (fun x hx => .inr (by have h0 := HQ0.out; have h1 := HQ1.out; have h2 := HQ2.out; have h3 := HQ3.out; have h4 := HQ4.out; simp at hx; omega))⟩
  first | rfl | (simp; done) | (simp; omega)

set_option maxRecDepth 100000 in
set_option maxHeartbeats 3200000 in
theorem ok_Sto_2 {w : World} {P Q : Nat → Prop} {A1 A2 : Option Addr} {n1 c1 n2 c2 : Nat} {a b c : ByteArray} {xs ys : List ByteArray} (h1 : RdV P w (.slice A1 n1 c1) (strV xs)) (h2 : RdV Q w (.slice A2 n2 c2) (strV ys)) (hb1 : ∀ x ∈ xs, x.size ≤ 9223372036854775807) (hb2 : ∀ x ∈ ys, x.size ≤ 9223372036854775807) (s0 : a.size ≤ 9223372036854775807) (s1 : b.size ≤ 9223372036854775807) (s2 : c.size ≤ 9223372036854775807) (hz : (acc 0 (a.size :: (b.size :: (c.size :: (n1 :: (szs xs ++ (n2 :: (szs ys ++ [])))))))).isSome = true) (hlim : limF a.size b.size c.size xs ys = true) (F : Interp) (hF : F.answers w.tape) (ht : 16384 < n1 * n2) :
    Calls Tryz.prog 4 #[.string a, .string b, .string c, .slice A1 n1 c1, .slice A2 n2 c2] w fun e w' => e = .returned (.bool true) ∧ Kept [] w w' := by
  have f1 := h1.weaken (Q := (· < w.heap.size)) (fun g hg _ => hg)
  have f2 := h2.weaken (Q := (· < w.heap.size)) (fun g hg _ => hg)
  obtain ⟨v, hv⟩ : ∃ v, v = (((((w.alloc (.cells #[.string a] 9)).alloc (.cells #[.string b] 9)).alloc (.cells #[.string c] 9)).alloc (.cells #[.slice A1 n1 c1] 22)).alloc (.cells #[.slice A2 n2 c2] 22)) := ⟨_, rfl⟩
  have kv : Kept [] w v := by rw [hv]; exact (((((Kept.refl [] w).alloc _).alloc _).alloc _).alloc _).alloc _
  have g1 := f1.kept kv (by simp)
  have g2 := f2.kept kv (by simp)
  have HZ0 := zb_FnBracesSeqStopsAt16384 (w := v) a b c s0 s1 s2 g1 hb1 g2 hb2
  rw [hz] at HZ0
  obtain ⟨q0, hq0⟩ : ∃ q, w.heap.size = q := ⟨_, rfl⟩
  obtain ⟨q1, hq1⟩ : ∃ q, q0 + 1 = q := ⟨_, rfl⟩
  obtain ⟨q2, hq2⟩ : ∃ q, q1 + 1 = q := ⟨_, rfl⟩
  obtain ⟨q3, hq3⟩ : ∃ q, q2 + 1 = q := ⟨_, rfl⟩
  obtain ⟨q4, hq4⟩ : ∃ q, q3 + 1 = q := ⟨_, rfl⟩
  have bx := box5_new w a b c (.slice A1 n1 c1) (.slice A2 n2 c2) hq0 hq1 hq2 hq3 hq4
  rw [← hv] at bx
  have r0 := row0 bx.h0; have r1 := row0 bx.h1; have r2 := row0 bx.h2; have r3 := row0 bx.h3; have r4 := row0 bx.h4
  have HZ : Calls Tryz.prog 13 #[.string a, .string b, .string c, .slice A1 n1 c1, .slice A2 n2 c2] (((((w.alloc (.cells #[.string a] 9)).alloc (.cells #[.string b] 9)).alloc (.cells #[.string c] 9)).alloc (.cells #[.slice A1 n1 c1] 22)).alloc (.cells #[.slice A2 n2 c2] 22)) fun e w' => e = .returned (.bool true) ∧ v = w' := by rw [← hv]; exact HZ0
  have HZ := Lib.hid HZ; have KV := Lib.hid kv; have BX := Lib.hid bx
  have HQ0 := Lib.hid hq0; have HQ1 := Lib.hid hq1; have HQ2 := Lib.hid hq2; have HQ3 := Lib.hid hq3; have HQ4 := Lib.hid hq4
  obtain ⟨m, hm⟩ := Option.isSome_iff_exists.1 hz
  have hmem := acc_mem hm
  have t0 := hmem a.size (by simp); have t1 := hmem b.size (by simp); have t2 := hmem c.size (by simp); have t3 := hmem n1 (by simp); have t4 := hmem n2 (by simp)
  have HC0 := seqlim_any g1 g2 hb1 hb2 t0 t1 t2 t3 t4
  rw [hlim] at HC0
  have HC := Lib.hid HC0
  obtain ⟨m1, m2, u1, u2, u3⟩ := sob_yes (lim_sob hlim)
  have l1 := strs_len h1
  have l2 := strs_len h2
  rw [l1] at m1
  rw [l2] at m2
  have hR0 := fin4 (k := -1) ht (by omega)
  have hR := (congrArg (finQ (-1)) (show xs.length * ys.length = n1 * n2 by rw [l1, l2])).trans hR0
  clear hR0
  obtain ⟨tot, htot⟩ : ∃ t, t = n1 * n2 := ⟨_, rfl⟩
  rw [← htot] at ht
  skip
  have htb : tot ≤ 65536 := by rw [htot]; exact Nat.mul_le_mul m1 m2
  have e12 : (n1 : Int) * n2 = tot := by rw [htot, Int.natCast_mul]
  have HTOT := Lib.hid htot; have HU := Lib.hid u3; have HL1 := Lib.hid l1; have HL2 := Lib.hid l2; have HR := Lib.hid hR
  have hq4v : q4 < v.heap.size := heap_lt bx.h4
  have HQV := Lib.hid hq4v
  have HF := Lib.hid (show F.answers v.tape by rw [kv.tape]; exact hF)
  have HK1 := Lib.hid (clone_any g1 t3)
  have HK2 : Hid (∀ (w1 : World) (x : Value), Kept [] v w1 → Calls Tryz.prog 7 #[.slice A2 n2 c2] (w1.setCell ⟨q3, 0, none⟩ x) (ClPost (w1.setCell ⟨q3, 0, none⟩ x) n2 ys)) := Lib.hid (fun w1 x k => clone_any (((g2.kept k (by simp)).kept (((Kept.refl [q3] w1).setCell (by simp) x)) (fun g hg _ => by simp; omega))) t4)
  have HTL := Lib.hid (fun (w' : World) (A1 A2 : Option Addr) (c1 c2 : Nat) (P Q : Nat → Prop) (g1 : RdV P w' (.slice A1 n1 c1) (strV xs)) (g2 : RdV Q w' (.slice A2 n2 c2) (strV ys)) => twolist_any (a := a) (b := b) (c := c) g1 g2 t3 t4)
  clear h1 h2 hb1 hb2 hz HZ0 HC0 f1 f2 g1 g2 kv bx hq0 hq1 hq2 hq3 hq4 hv hm hmem hlim u1 u2 u3 l1 l2 htot hR hF hq4v
  go_enter Tryz.func4, Tryz.ntmps4
  go_wp2_with (first
    | (go_at_call 13; refine HZ.out.mono ?_; rintro e w' ⟨rfl, rfl⟩; dsimp only; simp only [HQ0.out, HQ1.out, HQ2.out, HQ3.out, HQ4.out])
    | (go_at_call 14; refine HC.out.mono ?_; rintro e w' ⟨rfl, rfl⟩)
    | (go_at_call_of 7 (Value.slice A1 n1 c1); refine HK1.out.mono ?_; rintro e w1 ⟨B1, d1, rfl, hr1, hk1⟩; have hx1 := BX.out.kept hk1; have r31 := row0 hx1.h3; have f31 := row0f hx1.h3; have hx2 := hx1.set3 (.slice B1 n1 d1); have r42 := row0 hx2.h4; have HX2 := Lib.hid hx2; have HR1 := Lib.hid hr1; have K1 := Lib.hid hk1; clear hr1 hk1 hx1 hx2)
    | (go_at_call_of 7 (Value.slice A2 n2 c2); refine (HK2.out _ _ K1.out).mono ?_; rintro e w2 ⟨B2, d2, rfl, hr2, hk2⟩; have hx3 := HX2.out.kept hk2; have r43 := row0 hx3.h4; have f43 := row0f hx3.h4; have hx4 := hx3.set4 (.slice B2 n2 d2); have r44 := row0 hx4.h4; have hx5 := hx4.kept (((Kept.refl [] (w2.setCell ⟨q4, 0, none⟩ (.slice B2 n2 d2))).alloc (.cells #[.int .i64 n2] 3))); have r35 := row0 hx5.h3; have hx6 := hx5.kept (((Kept.refl [] ((w2.setCell ⟨q4, 0, none⟩ (.slice B2 n2 d2)).alloc (.cells #[.int .i64 n2] 3))).alloc (.cells #[.int .i64 tot] 3))); have r06 := row0 hx6.h0; have r16 := row0 hx6.h1; have r26 := row0 hx6.h2; have r36 := row0 hx6.h3; have r46 := row0 hx6.h4; have HX6 := Lib.hid hx6; have ka : Kept [q3, q4] w1 (((w2.setCell ⟨q4, 0, none⟩ (.slice B2 n2 d2)).alloc (.cells #[.int .i64 n2] 3)).alloc (.cells #[.int .i64 tot] 3)) := (((((Kept.refl [q3, q4] w1).setCell (by simp) (.slice B1 n1 d1)).trans (hk2.weaken (by simp))).setCell (by simp) (.slice B2 n2 d2)).alloc _).alloc _; have kb : Kept [q4] w2 (((w2.setCell ⟨q4, 0, none⟩ (.slice B2 n2 d2)).alloc (.cells #[.int .i64 n2] 3)).alloc (.cells #[.int .i64 tot] 3)) := (((Kept.refl [q4] w2).setCell (by simp) (.slice B2 n2 d2)).alloc _).alloc _; have HG1 := Lib.hid (HR1.out.kept ka (fun g hg _ => by have h1 := HQV.out; have h2 := HQ4.out; simp; omega)); have HG2 := Lib.hid (hr2.kept kb (fun g hg _ => by have h1 := HQV.out; have h2 := K1.out.size; simp at hg; simp; omega)); have KA := Lib.hid ((K1.out.weaken (S' := [q3, q4]) (by simp)).trans ka); have HNT := Lib.hid (alloc_two (u := (w2.setCell ⟨q4, 0, none⟩ (.slice B2 n2 d2))) (z := w2.heap.size) (by simp) (.int .i64 n2) (.int .i64 tot) 3 3); clear hr2 hk2 hx3 hx4 hx5 hx6 ka kb)
    | (go_at_call 8; refine (HTL.out _ _ _ _ _ _ _ HG1.out HG2.out).mono ?_; rintro e w3 ⟨pw, la, lb, lc, b1, b2, lx, ly, rfl, hT, hk3⟩; have hx7 := HX6.out.kept hk3; have hna := row0 ((hk3.block _ (heap_lt HNT.out.1) (by simp)).trans HNT.out.1); have hta := row0 ((hk3.block _ (heap_lt HNT.out.2) (by simp)).trans HNT.out.2); have EV : Env1 w3 w3.heap.size pw la lb lc b1 b2 (w2.heap.size + 1) w2.heap.size q0 q3 q1 q4 q2 lx ly a b c xs ys B1 B2 d1 d2 := ⟨rfl, hT, (by rw [HL1.out, HL2.out, ← HTOT.out]; exact htb), (by rw [HL1.out]; omega), (by rw [HL2.out]; omega), HU.out, row0 hx7.h0, row0 hx7.h1, row0 hx7.h2, (by rw [HL1.out]; exact row0 hx7.h3), (by rw [HL2.out]; exact row0 hx7.h4), (by rw [HL2.out]; exact hna), (by rw [HL1.out, HL2.out, ← HTOT.out]; exact hta), (strs_at (HG1.out.kept hk3 (by simp))).out, (strs_at (HG2.out.kept hk3 (by simp))).out⟩; have hkv3 := KA.out.trans (hk3.weaken (by simp)); have HST := Lib.hid (st_call EV F (by rw [hkv3.tape]; exact HF.out) _ HR.out); have K3 := Lib.hid hkv3; have htc := hta; clear hT hk3 hx7 hna EV hkv3 hta)
    | (go_at_call 10; refine (bs_any _ _ pw).mono ?_; rintro e w' ⟨rfl, rfl⟩)
    | (go_at_call 23; refine HST.out.mono ?_; rintro e w6 ⟨rfl, e1, e2, e3, e4⟩; have e5 : w6.cell? ⟨w3.heap.size + 1, 0, none⟩ = some (.int .i64 1) := e2; dsimp only at e1 e3 ⊢; have e6 := (e4.cell (p := ⟨w2.heap.size + 1, 0, none⟩) (block_lt_of_cell htc) (by simp)).trans htc; have K6 := Lib.hid e4; clear e2 e4))
  go_ret
  refine ⟨?_, ((KV.out.weaken (S' := [q3, q4]) (by simp)).trans (K3.out.trans (K6.out.weaken (by simp)))).weaken (fun x hx => .inr (by have h0 := HQ0.out; have h1 := HQ1.out; have h2 := HQ2.out; have h3 := HQ3.out; have h4 := HQ4.out; simp at hx; omega))⟩
  first | rfl | (simp; done) | (simp; omega)

end Go.Proofs.YtafgbgdehpcapaaGreatFmt
