/-
  FnBracesSeqAgreesWithBraces, walked: case 1 and 2.
-/
import Derived.Test.YtafgbgdehpcapaaGreatFmtZg
import Derived.Deep.RegionHeld3
namespace Go.Proofs.YtafgbgdehpcapaaGreatFmt
open Go.RowKit Go.Stop Go.Extern

set_option maxRecDepth 100000 in
set_option maxHeartbeats 1600000 in
theorem ok_Agr_1 {w : World} {P Q : Nat → Prop} {A1 A2 : Option Addr} {n1 c1 n2 c2 : Nat} {a b c : ByteArray} {xs ys : List ByteArray} (h1 : RdV P w (.slice A1 n1 c1) (strV xs)) (h2 : RdV Q w (.slice A2 n2 c2) (strV ys)) (hb1 : ∀ x ∈ xs, x.size ≤ 9223372036854775807) (hb2 : ∀ x ∈ ys, x.size ≤ 9223372036854775807) (s0 : a.size ≤ 9223372036854775807) (s1 : b.size ≤ 9223372036854775807) (s2 : c.size ≤ 9223372036854775807) (k : Int) 
    (hz : (acc 0 (a.size :: (b.size :: (c.size :: (n1 :: (szs xs ++ (n2 :: (szs ys ++ []))))))) ).isSome = true) (hcart : cartF a.size b.size c.size xs ys = true) (F : Interp) (hF : F.answers w.tape) (hc1 : n1 * n2 ≤ 16384) (hc2 : k < 0) :
    Calls Tryz.prog 3 #[.string a, .string b, .string c, .slice A1 n1 c1, .slice A2 n2 c2, .int .i64 k] w fun e w' => e = .returned (.bool true) ∧ Kept [] w w' := by
  have kz : Kept [] w (w.alloc (.cells #[.int .i64 k] 3)) := (Kept.refl _ _).alloc _
  have hkb := row0 (heap_alloc_new w (.cells #[.int .i64 k] 3))
  obtain ⟨v, hv⟩ : ∃ v, v = w.alloc (.cells #[.int .i64 k] 3) := ⟨_, rfl⟩
  have g1 := h1.kept kz (by simp)
  have g2 := h2.kept kz (by simp)
  rw [← hv] at g1 g2 kz hkb
  have hFv : F.answers v.tape := by rw [kz.tape]; exact hF
  have HZ := zb_FnBracesSeqAgreesWithBraces (w := v) a b c k s0 s1 s2 g1 hb1 g2 hb2
  rw [hz] at HZ
  obtain ⟨m, hm⟩ := Option.isSome_iff_exists.1 hz
  have hmem := acc_mem hm
  have t0 := hmem a.size (by simp); have t1 := hmem b.size (by simp); have t2 := hmem c.size (by simp); have t3 := hmem n1 (by simp); have t4 := hmem n2 (by simp)
  have HC := cart_any g1 g2 hb1 hb2 t0 t1 t2 t3 t4
  rw [hcart] at HC
  have hsob : sobF a.size b.size c.size xs ys 256 = true := by unfold cartF at hcart; simp only [Bool.and_eq_true] at hcart; exact hcart.1
  obtain ⟨m1, m2, u1, u2, u3⟩ := sob_yes hsob
  have l1 := strs_len h1
  have l2 := strs_len h2
  rw [l1] at m1
  rw [l2] at m2
  have HK1 := clone_any g1 t3
  have HK2 := Lib.hid (fun (w' : World) (k : Kept [] v w') => clone_any (g2.kept k (by simp)) t4)
  rw [hv] at HZ HC HK1 HK2
  have HZ := Lib.hid HZ; have HC := Lib.hid HC
  have HK1 := Lib.hid HK1
  have HTL := Lib.hid (fun (w' : World) (A1 A2 : Option Addr) (c1 c2 : Nat) (P Q : Nat → Prop) (g1 : RdV P w' (.slice A1 n1 c1) (strV xs)) (g2 : RdV Q w' (.slice A2 n2 c2) (strV ys)) => twolist_any (a := a) (b := b) (c := c) g1 g2 t3 t4)
  have hR := fin1 hc1 hc2
  obtain ⟨tot, htot⟩ : ∃ t, t = n1 * n2 := ⟨_, rfl⟩
  rw [← htot] at hc1 hR
  skip
  have htb : tot ≤ 65536 := by rw [htot]; exact Nat.mul_le_mul m1 m2
  have e12 : (n1 : Int) * n2 = tot := by rw [htot, Int.natCast_mul]
  have HTOT := Lib.hid htot
  have HU := Lib.hid u3
  have HL1 := Lib.hid l1; have HL2 := Lib.hid l2
  have HV := Lib.hid hv; have HKB := Lib.hid hkb; have KZ := Lib.hid kz; have HF := Lib.hid hFv; have HR := Lib.hid hR
  clear h1 h2 hb1 hb2 hz hcart hm hmem hsob u1 u2 u3 l1 l2 htot g1 g2 kz hkb hF hFv hR
  clear hv
  go_enter Tryz.func3, Tryz.ntmps3
  go_wp2_with (first
    | (go_at_call 5; refine HZ.out.mono ?_; rintro e w' ⟨rfl, rfl⟩)
    | (go_at_call 6; refine HC.out.mono ?_; rintro e w' ⟨rfl, rfl⟩)
    | (go_at_call_of 7 (Value.slice A1 n1 c1); refine HK1.out.mono ?_; rintro e w1 ⟨B1, d1, rfl, hr1, hk1⟩; have HR1 := Lib.hid hr1; have K1 := Lib.hid hk1; clear hr1 hk1)
    | (go_at_call_of 7 (Value.slice A2 n2 c2); refine (HK2.out _ K1.out).mono ?_; rintro e w2 ⟨B2, d2, rfl, hr2, hk2⟩; have HR2 := Lib.hid hr2; have K2 := Lib.hid hk2; clear hr2 hk2)
    | (go_at_call 8; refine (HTL.out _ _ _ _ _ _ _ (HR1.out.kept K2.out (by simp)) HR2.out).mono ?_; rintro e w3 ⟨pw, la, lb, lc, b1, b2, lx, ly, rfl, hT, hk3⟩; have HT := Lib.hid hT; have K3 := Lib.hid hk3; clear hT hk3)
    | (go_at_call 9; obtain ⟨vw, hvw, hrw⟩ := HT.out.word; have hbr := braces_any (HT.out.exp) (by simp) (by rw [prodW_length, HL1.out, HL2.out, ← HTOT.out]; omega) (fun y hy => by rw [prodW_mem y hy]; omega) hvw (hrw.weaken (fun g hg _ => hg)); refine hbr.mono ?_; clear hbr hvw hrw; rintro e w4 ⟨BA, dA, items, rfl, hall, hit, hk4⟩; rw [prodW_length, HL1.out, HL2.out, ← HTOT.out] at hall ⊢; have hkv := (K1.out.trans K2.out).trans (K3.out.trans hk4); rw [← HV.out] at hkv; have HKC := Lib.hid ((hkv.cell (p := ⟨w.heap.size, 0, none⟩) (block_lt_of_cell HKB.out) (by simp)).trans HKB.out); have hkc := HKC.out; have hkcl : w.heap.size < w4.heap.size := block_lt_of_cell hkc; have hkc2 : (w4.alloc (.cells #[.slice BA tot dA] 28)).cell? ⟨w.heap.size, 0, none⟩ = some (.int .i64 k) := (((Kept.refl [] w4).alloc _).cell (p := ⟨w.heap.size, 0, none⟩) hkcl (by simp)).trans hkc; have KW := Lib.hid (KZ.out.trans hkv); have HAGR := Lib.hid (agr_call (dA := dA) (HT.out.kept hk4) (by rw [HL1.out, HL2.out]; exact HTOT.out.symm) htb HU.out HKC.out (fun i j x y hx hy => two_word (HT.out.kept hk4) hall hit hx hy (by have := szs_mem hx; have := szs_mem hy; have := HU.out; omega)) F (by rw [hkv.tape]; exact HF.out) _ HR.out); clear hall hit hk4 hkv)
    | (go_at_call 10; refine (bs_any _ _ pw).mono ?_; rintro e w' ⟨rfl, rfl⟩)
    | (go_at_call 23; refine HAGR.out.mono ?_; rintro e w6 ⟨rfl, r1, r2, r3, r4⟩; dsimp only at r1 r2 r3 ⊢; have K6 := Lib.hid r4; clear r4))
  go_ret
  refine ⟨?_, KW.out.trans K6.out⟩
  first | rfl | (simp; done) | (simp; omega)

set_option maxRecDepth 100000 in
set_option maxHeartbeats 1600000 in
theorem ok_Agr_2 {w : World} {P Q : Nat → Prop} {A1 A2 : Option Addr} {n1 c1 n2 c2 : Nat} {a b c : ByteArray} {xs ys : List ByteArray} (h1 : RdV P w (.slice A1 n1 c1) (strV xs)) (h2 : RdV Q w (.slice A2 n2 c2) (strV ys)) (hb1 : ∀ x ∈ xs, x.size ≤ 9223372036854775807) (hb2 : ∀ x ∈ ys, x.size ≤ 9223372036854775807) (s0 : a.size ≤ 9223372036854775807) (s1 : b.size ≤ 9223372036854775807) (s2 : c.size ≤ 9223372036854775807) (k : Nat) 
    (hz : (acc 0 (a.size :: (b.size :: (c.size :: (n1 :: (szs xs ++ (n2 :: (szs ys ++ []))))))) ).isSome = true) (hcart : cartF a.size b.size c.size xs ys = true) (F : Interp) (hF : F.answers w.tape) (hc1 : n1 * n2 ≤ 16384) (hc2 : k < n1 * n2) :
    Calls Tryz.prog 3 #[.string a, .string b, .string c, .slice A1 n1 c1, .slice A2 n2 c2, .int .i64 (k : Int)] w fun e w' => e = .returned (.bool true) ∧ Kept [] w w' := by
  have kz : Kept [] w (w.alloc (.cells #[.int .i64 (k : Int)] 3)) := (Kept.refl _ _).alloc _
  have hkb := row0 (heap_alloc_new w (.cells #[.int .i64 (k : Int)] 3))
  obtain ⟨v, hv⟩ : ∃ v, v = w.alloc (.cells #[.int .i64 (k : Int)] 3) := ⟨_, rfl⟩
  have g1 := h1.kept kz (by simp)
  have g2 := h2.kept kz (by simp)
  rw [← hv] at g1 g2 kz hkb
  have hFv : F.answers v.tape := by rw [kz.tape]; exact hF
  have HZ := zb_FnBracesSeqAgreesWithBraces (w := v) a b c (k : Int) s0 s1 s2 g1 hb1 g2 hb2
  rw [hz] at HZ
  obtain ⟨m, hm⟩ := Option.isSome_iff_exists.1 hz
  have hmem := acc_mem hm
  have t0 := hmem a.size (by simp); have t1 := hmem b.size (by simp); have t2 := hmem c.size (by simp); have t3 := hmem n1 (by simp); have t4 := hmem n2 (by simp)
  have HC := cart_any g1 g2 hb1 hb2 t0 t1 t2 t3 t4
  rw [hcart] at HC
  have hsob : sobF a.size b.size c.size xs ys 256 = true := by unfold cartF at hcart; simp only [Bool.and_eq_true] at hcart; exact hcart.1
  obtain ⟨m1, m2, u1, u2, u3⟩ := sob_yes hsob
  have l1 := strs_len h1
  have l2 := strs_len h2
  rw [l1] at m1
  rw [l2] at m2
  have HK1 := clone_any g1 t3
  have HK2 := Lib.hid (fun (w' : World) (k : Kept [] v w') => clone_any (g2.kept k (by simp)) t4)
  rw [hv] at HZ HC HK1 HK2
  have HZ := Lib.hid HZ; have HC := Lib.hid HC
  have HK1 := Lib.hid HK1
  have HTL := Lib.hid (fun (w' : World) (A1 A2 : Option Addr) (c1 c2 : Nat) (P Q : Nat → Prop) (g1 : RdV P w' (.slice A1 n1 c1) (strV xs)) (g2 : RdV Q w' (.slice A2 n2 c2) (strV ys)) => twolist_any (a := a) (b := b) (c := c) g1 g2 t3 t4)
  have hR := fin2 hc1 hc2
  obtain ⟨tot, htot⟩ : ∃ t, t = n1 * n2 := ⟨_, rfl⟩
  rw [← htot] at hc1 hR
  rw [← htot] at hc2
  have htb : tot ≤ 65536 := by rw [htot]; exact Nat.mul_le_mul m1 m2
  have e12 : (n1 : Int) * n2 = tot := by rw [htot, Int.natCast_mul]
  have HTOT := Lib.hid htot
  have HU := Lib.hid u3
  have HL1 := Lib.hid l1; have HL2 := Lib.hid l2
  have HV := Lib.hid hv; have HKB := Lib.hid hkb; have KZ := Lib.hid kz; have HF := Lib.hid hFv; have HR := Lib.hid hR
  clear h1 h2 hb1 hb2 hz hcart hm hmem hsob u1 u2 u3 l1 l2 htot g1 g2 kz hkb hF hFv hR
  clear hv
  go_enter Tryz.func3, Tryz.ntmps3
  go_wp2_with (first
    | (go_at_call 5; refine HZ.out.mono ?_; rintro e w' ⟨rfl, rfl⟩)
    | (go_at_call 6; refine HC.out.mono ?_; rintro e w' ⟨rfl, rfl⟩)
    | (go_at_call_of 7 (Value.slice A1 n1 c1); refine HK1.out.mono ?_; rintro e w1 ⟨B1, d1, rfl, hr1, hk1⟩; have HR1 := Lib.hid hr1; have K1 := Lib.hid hk1; clear hr1 hk1)
    | (go_at_call_of 7 (Value.slice A2 n2 c2); refine (HK2.out _ K1.out).mono ?_; rintro e w2 ⟨B2, d2, rfl, hr2, hk2⟩; have HR2 := Lib.hid hr2; have K2 := Lib.hid hk2; clear hr2 hk2)
    | (go_at_call 8; refine (HTL.out _ _ _ _ _ _ _ (HR1.out.kept K2.out (by simp)) HR2.out).mono ?_; rintro e w3 ⟨pw, la, lb, lc, b1, b2, lx, ly, rfl, hT, hk3⟩; have HT := Lib.hid hT; have K3 := Lib.hid hk3; clear hT hk3)
    | (go_at_call 9; obtain ⟨vw, hvw, hrw⟩ := HT.out.word; have hbr := braces_any (HT.out.exp) (by simp) (by rw [prodW_length, HL1.out, HL2.out, ← HTOT.out]; omega) (fun y hy => by rw [prodW_mem y hy]; omega) hvw (hrw.weaken (fun g hg _ => hg)); refine hbr.mono ?_; clear hbr hvw hrw; rintro e w4 ⟨BA, dA, items, rfl, hall, hit, hk4⟩; rw [prodW_length, HL1.out, HL2.out, ← HTOT.out] at hall ⊢; have hkv := (K1.out.trans K2.out).trans (K3.out.trans hk4); rw [← HV.out] at hkv; have HKC := Lib.hid ((hkv.cell (p := ⟨w.heap.size, 0, none⟩) (block_lt_of_cell HKB.out) (by simp)).trans HKB.out); have hkc := HKC.out; have hkcl : w.heap.size < w4.heap.size := block_lt_of_cell hkc; have hkc2 : (w4.alloc (.cells #[.slice BA tot dA] 28)).cell? ⟨w.heap.size, 0, none⟩ = some (.int .i64 (k : Int)) := (((Kept.refl [] w4).alloc _).cell (p := ⟨w.heap.size, 0, none⟩) hkcl (by simp)).trans hkc; have KW := Lib.hid (KZ.out.trans hkv); have HAGR := Lib.hid (agr_call (dA := dA) (HT.out.kept hk4) (by rw [HL1.out, HL2.out]; exact HTOT.out.symm) htb HU.out HKC.out (fun i j x y hx hy => two_word (HT.out.kept hk4) hall hit hx hy (by have := szs_mem hx; have := szs_mem hy; have := HU.out; omega)) F (by rw [hkv.tape]; exact HF.out) _ HR.out); clear hall hit hk4 hkv)
    | (go_at_call 10; refine (bs_any _ _ pw).mono ?_; rintro e w' ⟨rfl, rfl⟩)
    | (go_at_call 23; refine HAGR.out.mono ?_; rintro e w6 ⟨rfl, r1, r2, r3, r4⟩; dsimp only at r1 r2 r3 ⊢; have K6 := Lib.hid r4; clear r4))
  go_ret
  refine ⟨?_, KW.out.trans K6.out⟩
  first | rfl | (simp; done) | (simp; omega)

end Go.Proofs.YtafgbgdehpcapaaGreatFmt
