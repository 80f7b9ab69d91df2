/-
  FnBracesSeqRecStopsWhenAsked, walked: it is stopped at the m-th word.
-/
import Derived.Test.YtcemnjieahpcnaaFmtHP2
import Derived.Deep.RegionHeld3
namespace Go.Proofs.YtcemnjieahpcnaaFmt
open Go.RowKit

set_option maxRecDepth 100000 in
set_option maxHeartbeats 600000 in
theorem ok_Stop_A {w : World} {P Q : Nat → Prop} {A1 A2 : Option Addr} {n1 c1 n2 c2 : Nat} {xs ys : List ByteArray} (h1 : RdV P w (.slice A1 n1 c1) (strV xs)) (h2 : RdV Q w (.slice A2 n2 c2) (strV ys)) (hb1 : ∀ x ∈ xs, x.size ≤ 9223372036854775807) (hb2 : ∀ x ∈ ys, x.size ≤ 9223372036854775807) (m : Nat) (hz : (acc 0 (n1 :: (szs xs ++ (n2 :: (szs ys ++ []))))).isSome = true) (hsob : sobF 0 0 0 xs ys 256 = true) (hm1 : 1 ≤ m) (hm2 : m ≤ xs.length * ys.length) :
    Calls Tryf.prog 6 #[.slice A1 n1 c1, .slice A2 n2 c2, .int .i64 (m : Int)] w fun e w' => e = .returned (.bool true) ∧ Kept [] w w' := by
  have kz : Kept [] w (w.alloc (.cells #[.int .i64 (m : Int)] 3)) := (Kept.refl _ _).alloc _
  have hkb := heap_alloc_new w (.cells #[.int .i64 (m : Int)] 3)
  obtain ⟨v, hv⟩ : ∃ v, v = w.alloc (.cells #[.int .i64 (m : Int)] 3) := ⟨_, rfl⟩
  have g1 := h1.kept kz (by simp)
  have g2 := h2.kept kz (by simp)
  rw [← hv] at g1 g2 kz hkb
  have HZ := zb_FnBracesSeqRecStopsWhenAsked (w := v) (m : Int) g1 hb1 g2 hb2
  rw [hz] at HZ
  obtain ⟨mz, hm⟩ := Option.isSome_iff_exists.1 hz
  have hmem := acc_mem hm
  have t3 := hmem n1 (by simp); have t4 := hmem n2 (by simp)
  have HC := stopok_any g1 g2 hb1 hb2 t3 t4
  rw [hsob] at HC
  obtain ⟨m1, m2, u1, u2, u3⟩ := sob_yes hsob
  have l1 := strs_len h1
  have l2 := strs_len h2
  rw [l1] at m1
  rw [l2] at m2
  have HK1 := clone_any g1 t3
  rw [hv] at HZ HC HK1
  have HK2 := Lib.hid (fun (w' : World) (kk : Kept [] v w') => clone_any (g2.kept kk (by simp)) t4)
  rw [hv] at HK2
  have HZ := Lib.hid HZ; have HC := Lib.hid HC; have HK1 := Lib.hid HK1
  have HTL := Lib.hid (fun (w' : World) (A1 A2 : Option Addr) (c1 c2 : Nat) (P Q : Nat → Prop) (g1 : RdV P w' (.slice A1 n1 c1) (strV xs)) (g2 : RdV Q w' (.slice A2 n2 c2) (strV ys)) => twolist_any (a := ⟨#[]⟩) (b := ⟨#[]⟩) (c := ⟨#[]⟩) g1 g2 t3 t4)
  obtain ⟨tot, htot⟩ : ∃ t, t = n1 * n2 := ⟨_, rfl⟩
  have htb : tot ≤ 65536 := by rw [htot]; exact Nat.mul_le_mul m1 m2
  have e12 : (n1 : Int) * n2 = tot := by rw [htot, Int.natCast_mul]
  have HTOT := Lib.hid htot
  have hm2' : m ≤ tot := by rw [htot, ← l1, ← l2]; exact hm2
  have HU := Lib.hid u3
  have HIJ := Lib.hid (fun (la lb lc : Nat) (lx ly : Nat → Nat) (ls : List Value) => prod_ij (la := la) (lb := lb) (lc := lc) (lx := lx) (ly := ly) (xs := xs) (ys := ys) (n1 := n1) (n2 := n2) (m := m) (ls := ls) l1 l2 (by omega) (by rw [← htot]; omega))
  have HL1 := Lib.hid l1; have HL2 := Lib.hid l2
  have hkb3 : ∀ w3, ∀ {w1 w2 : World}, Kept [] (w.alloc (.cells #[.int .i64 (m : Int)] 3)) w1 → Kept [] w1 w2 → Kept [] (w2.alloc (.cells #[.int .i64 tot] 3)) w3 → w3.heap[w.heap.size]? = some (.cells #[.int .i64 (m : Int)] 3 (0, 0)) := fun w3 w1 w2 a1 a2 a3 => ((a1.trans a2).trans (((Kept.refl _ _).alloc _).trans a3) |>.block _ (by simp) (by simp)).trans (heap_alloc_new w _)
  have HV := Lib.hid hv; have HKB := Lib.hid hkb; have KZ := Lib.hid kz
  clear h1 h2 g1 g2 hb1 hb2 hz hm hmem hsob u1 u2 u3 l1 l2 htot hkb kz
  clear hv
  go_enter Tryf.func6, Tryf.ntmps6
  go_wp2_with (first
    | (go_at_call 24; refine HZ.out.mono ?_; rintro e w' ⟨rfl, rfl⟩)
    | (go_at_call 25; refine HC.out.mono ?_; rintro e w' ⟨rfl, rfl⟩)
    | (go_at_call_of 9 (Value.slice A1 n1 c1); refine HK1.out.mono ?_; rintro e w1 ⟨B1, d1, rfl, hr1, hk1⟩; have HR1 := Lib.hid hr1; have K1 := Lib.hid hk1; clear hr1 hk1)
    | (go_at_call_of 9 (Value.slice A2 n2 c2); refine (HK2.out _ K1.out).mono ?_; rintro e w2 ⟨B2, d2, rfl, hr2, hk2⟩; have HR2 := Lib.hid hr2; have K2 := Lib.hid hk2; clear hr2 hk2)
    | (go_at_call 10; refine (HTL.out _ _ _ _ _ _ _ ((HR1.out.kept K2.out (by simp)).kept ((Kept.refl [] w2).alloc (.cells #[.int .i64 tot] 3)) (by simp)) (HR2.out.kept ((Kept.refl [] w2).alloc (.cells #[.int .i64 tot] 3)) (by simp))).mono ?_; rintro e w3 ⟨pw, la, lb, lc, b1, b2, lx, ly, rfl, hT, hk3⟩; have HT := Lib.hid hT; have K3 := Lib.hid hk3; have hz3 : w2.heap.size < w3.heap.size := (by have h := hk3.size; simp at h; omega); clear hT hk3)
    | (go_at_call 22; refine (stop_call HT.out (tot := tot) (by rw [HL1.out, HL2.out, ← HTOT.out]) htb ((K3.out.block _ (by simp) (by simp)).trans (heap_alloc_new w2 _)) (hkb3 w3 K1.out K2.out K3.out) m false (.inl ⟨rfl, hm1, hm2', rfl⟩)).mono ?_; rintro e w6 ⟨rfl, hp1, hp2, hp3, hp4, hp5⟩; dsimp only; have K6 := Lib.hid hp4; obtain ⟨pl, vl, lsl, hlc, hwl, hol, hyl⟩ := hp5 (by omega); obtain ⟨i, j, x, y, hq, hq2, hr, hr2, hx, hy, hls⟩ := HIJ.out la lb lc lx ly lsl hyl; subst hls; have hlz : w3.heap.size + 1 < w6.heap.size := block_lt_of_cell hlc; have hlc0 := hlc; have HLIT0 := Lib.hid (two_lit (HT.out.kept hp4) hwl hol hx hy (by have h1 := szs_mem hx; have h2 := szs_mem hy; have h3 := HU.out; show 0 + x.size + 0 + y.size + 0 ≤ _; omega)); have HLIT := Lib.hid (fun (w2 : World) (kq : Kept [] w6 w2) => (HLIT0.out w2 kq).mono (R' := fun e w' => e = .returned (.string (catB [⟨#[]⟩, x, ⟨#[]⟩, y, ⟨#[]⟩])) ∧ Kept [] w6 w') (fun e w' h => ⟨h.1, kq.trans h.2⟩)); have hB1 := (strs_at (HR1.out.kept (K2.out.trans (((Kept.refl [] w2).alloc _).trans (K3.out.trans hp4))) (by simp))).out i x hx; have hB2 := (strs_at (HR2.out.kept (((Kept.refl [] w2).alloc _).trans (K3.out.trans hp4)) (by simp))).out j y hy; obtain ⟨gb1, o1, hBe1, hc1⟩ := hB1; obtain ⟨gb2, o2, hBe2, hc2⟩ := hB2; have HCAT : Hid ((catB [⟨#[]⟩, x, ⟨#[]⟩, y, ⟨#[]⟩]).size ≤ 1000000000) := Lib.hid (by have h1 := szs_mem hx; have h2 := szs_mem hy; have h3 := HU.out; exact cat5_size x y (by omega)); have hin : i < n1 := (by have h := (List.getElem?_eq_some_iff.1 hx).1; have h' := HL1.out; omega); have hjn : j < n2 := (by have h := (List.getElem?_eq_some_iff.1 hy).1; have h' := HL2.out; omega); have F1 := Lib.hid (fun w' (h : Kept [] w6 w') => (h.cell (p := ⟨gb1, o1 + i, none⟩) (block_lt_of_cell hc1) (by simp)).trans hc1); have F2 := Lib.hid (fun w' (h : Kept [] w6 w') => (h.cell (p := ⟨gb2, o2 + j, none⟩) (block_lt_of_cell hc2) (by simp)).trans hc2); have HSS := Lib.hid (fun (w' : World) (h : Kept [] w6 w') => (show w'.cell? ⟨w3.heap.size + 1, 0, none⟩ = some (.pointer (some ⟨pl, 0, none⟩)) ∧ w'.cell? ⟨gb1, o1 + i, none⟩ = some (.string x) ∧ w'.cell? ⟨gb2, o2 + j, none⟩ = some (.string y) ∧ Kept [] w6 w' from ⟨(h.cell (p := ⟨w3.heap.size + 1, 0, none⟩) hlz (by simp)).trans hlc0, F1.out w' h, F2.out w' h, h⟩)); clear hp4 hp5 hwl hol hyl hx hy hlc0; subst hBe1 hBe2))
  go_region_held3 (fun w' => w'.cell? ⟨w3.heap.size + 1, 0, none⟩ = some (.pointer (some ⟨pl, 0, none⟩)) ∧ w'.cell? ⟨gb1, o1 + i, none⟩ = some (.string x) ∧ w'.cell? ⟨gb2, o2 + j, none⟩ = some (.string y) ∧ Kept [] w6 w') (first | exact HSS.out _ (by assumption) | exact HSS.out _ ((Kept.refl _ _).drew)) (first | (go_at_call 13; refine (HLIT.out _ ?_).mono ?_; (go_split_ands; assumption); rintro e w7 ⟨rfl, hk7⟩; dsimp only) | (go_at_call 12; refine (iscat_yes _ _ _ _ _ _ rfl HCAT.out _).mono ?_; rintro e w' ⟨rfl, rfl⟩; dsimp only))
  all_goals (
    go_split_ands
    go_wp2_with fail
    go_ret
    exact ⟨rfl, ((Kept.refl [] w).alloc _).trans ((K1.out.trans (K2.out.trans (((Kept.refl [] w2).alloc _).trans (K3.out.trans K6.out)))).trans (by assumption))⟩)

end Go.Proofs.YtcemnjieahpcnaaFmt
