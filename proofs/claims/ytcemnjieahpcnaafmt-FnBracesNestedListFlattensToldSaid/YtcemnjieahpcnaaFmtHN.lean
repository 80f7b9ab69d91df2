/-
  FnBracesTwoListsCartesian, walked.
-/
import Derived.Test.YtcemnjieahpcnaaFmtHM
namespace Go.Proofs.YtcemnjieahpcnaaFmt
open Go.RowKit

theorem all_at {w : World} {A : Option Addr} {n c k : Nat} {items : List (Nat × Value × List Value)} {t : Nat × Value × List Value} (h : AllAt w (.slice A n c) items) (hk : items[k]? = some t) : ∃ g, A = some ⟨g, 0, none⟩ ∧ w.cell? ⟨g, k, none⟩ = some (.pointer (some ⟨t.1, 0, none⟩)) ∧ g < w.heap.size ∧ WordAt w t.1 t.2.1 ∧ OwnV 54 w t.2.1 t.2.2 := by
  have hlt : k < items.length := (List.getElem?_eq_some_iff.1 hk).1
  have hm := List.mem_of_getElem? hk
  obtain ⟨h1, h2⟩ := h
  rcases h1.2 with ⟨e, h0⟩ | ⟨g, cap, cur, e, _, hg, hnc, hcm, hcs, htk⟩
  · simp at h0; subst h0; simp at hlt
  · cases e
    refine ⟨g, rfl, ?_, heap_lt hg, (h2 t hm).1, (h2 t hm).2⟩
    rw [Nat.mul_one] at htk
    rw [cell_of_row _ _ _ _ _ _ hg, ← Array.getElem?_toList, ← List.getElem?_take_of_lt (j := (items.map fun t => Value.pointer (some ⟨t.1, 0, none⟩)).length) (by simpa using hlt), htk, List.getElem?_map, hk]
    rfl

theorem two_word {w : World} {pw la lb lc b1 b2 : Nat} {lx ly : Nat → Nat} {a b c : ByteArray} {xs ys : List ByteArray} (hT : TwoW w pw la lb lc b1 b2 lx ly a b c xs ys) {A : Option Addr} {n cp : Nat} {items : List (Nat × Value × List Value)} (hall : AllAt w (.slice A n cp) items) (hi : items.map (·.2.2) = prodW la lb lc lx ly xs.length ys.length)
    {i j : Nat} {x y : ByteArray} (hx : xs[i]? = some x) (hy : ys[j]? = some y) (hsz : a.size + x.size + b.size + y.size + c.size ≤ 1000000000) :
    ∃ g pk, A = some ⟨g, 0, none⟩ ∧ w.cell? ⟨g, i * ys.length + j, none⟩ = some (.pointer (some ⟨pk, 0, none⟩)) ∧ g < w.heap.size ∧ ∀ w2, Kept [] w w2 → Calls Tryf.prog 13 #[.pointer (some ⟨pk, 0, none⟩)] w2 fun e w' => e = .returned (.string (catB [a, x, b, y, c])) ∧ Kept [] w2 w' := by
  have hil : i < xs.length := (List.getElem?_eq_some_iff.1 hx).1
  have hjl : j < ys.length := (List.getElem?_eq_some_iff.1 hy).1
  have hp := prodW_at (la := la) (lb := lb) (lc := lc) (lx := lx) (ly := ly) hil hjl
  rw [← hi, List.getElem?_map, Option.map_eq_some_iff] at hp
  obtain ⟨⟨pk, v, ls⟩, ht, hls⟩ := hp
  simp only at hls
  subst hls
  obtain ⟨g, hA, hc, hg, hw, ho⟩ := all_at hall ht
  refine ⟨g, pk, hA, hc, hg, fun w2 k => ?_⟩
  have hT2 := hT.kept k
  obtain ⟨_, e1, _, _, hl1⟩ := hT2.l1
  obtain ⟨_, e2, _, _, hl2⟩ := hT2.l2
  have q1 := (hl1 i hil).2.1
  have q2 := (hl2 j hjl).2.1
  rw [(List.getElem?_eq_some_iff.1 hx).2] at q1
  rw [(List.getElem?_eq_some_iff.1 hy).2] at q2
  refine lit_any [a, x, b, y, c] (hw.kept k (by simp)) (ho.rd.kept k (by simp)) rfl (by simp) (by simp) (fun k z hz => ?_) ?_
  · match k with
    | 0 => cases hz; exact ⟨a, rfl, _, rfl, hT2.ca⟩
    | 1 => cases hz; exact ⟨x, rfl, _, rfl, q1⟩
    | 2 => cases hz; exact ⟨b, rfl, _, rfl, hT2.cb⟩
    | 3 => cases hz; exact ⟨y, rfl, _, rfl, q2⟩
    | 4 => cases hz; exact ⟨c, rfl, _, rfl, hT2.cc⟩
    | k + 5 => simp at hz
  · have z : ∀ p : ByteArray, p.data.toList.length = p.size := fun _ => rfl
    simp only [List.flatMap_cons, List.flatMap_nil, List.length_append, List.length_nil, z]
    omega

theorem szs_mem {xs : List ByteArray} {i : Nat} {x : ByteArray} (h : xs[i]? = some x) : x.size ≤ (szs xs).sum := by
  induction xs generalizing i with
  | nil => simp at h
  | cons a t ih =>
    cases i with
    | zero => cases h; simp [szs]
    | succ i =>
      have := ih (i := i) (by simpa using h)
      simp only [szs, List.map_cons, List.sum_cons] at this ⊢
      omega

set_option maxRecDepth 100000 in
set_option maxHeartbeats 3200000 in
theorem ok_Two {w : World} {P Q : Nat → Prop} {A1 A2 : Option Addr} {n1 c1 n2 c2 : Nat} {a b c : ByteArray} {xs ys : List ByteArray} (h1 : RdV P w (.slice A1 n1 c1) (strV xs)) (h2 : RdV Q w (.slice A2 n2 c2) (strV ys)) (hb1 : ∀ x ∈ xs, x.size ≤ 9223372036854775807) (hb2 : ∀ x ∈ ys, x.size ≤ 9223372036854775807) (s0 : a.size ≤ 9223372036854775807) (s1 : b.size ≤ 9223372036854775807) (s2 : c.size ≤ 9223372036854775807)
    (hz : (acc 0 (a.size :: (b.size :: (c.size :: (n1 :: (szs xs ++ (n2 :: (szs ys ++ []))))))) ).isSome = true) (hcart : cartF a.size b.size c.size xs ys = true) :
    Calls Tryf.prog 3 #[.string a, .string b, .string c, .slice A1 n1 c1, .slice A2 n2 c2] w fun e w' => e = .returned (.bool true) ∧ Kept [] w w' := by
  have HZ := zb_FnBracesTwoListsCartesian (w := w) a b c s0 s1 s2 h1 hb1 h2 hb2
  rw [hz] at HZ
  obtain ⟨m, hm⟩ := Option.isSome_iff_exists.1 hz
  have hmem := acc_mem hm
  have t0 := hmem a.size (by simp); have t1 := hmem b.size (by simp); have t2 := hmem c.size (by simp); have t3 := hmem n1 (by simp); have t4 := hmem n2 (by simp)
  have HC := cart_any h1 h2 hb1 hb2 t0 t1 t2 t3 t4
  rw [hcart] at HC
  have hsob : sobF a.size b.size c.size xs ys 256 = true := by unfold cartF at hcart; simp only [Bool.and_eq_true] at hcart; exact hcart.1
  obtain ⟨m1, m2, u1, u2, u3⟩ := sob_yes hsob
  have l1 := strs_len h1
  have l2 := strs_len h2
  rw [l1] at m1
  rw [l2] at m2
  have HZ := Lib.hid HZ; have HC := Lib.hid HC
  have HK1 := Lib.hid (clone_any h1 t3)
  have HK2 := Lib.hid (fun (w' : World) (k : Kept [] w w') => clone_any (h2.kept k (by simp)) t4)
  have HTL := Lib.hid (fun (w' : World) (A1 A2 : Option Addr) (c1 c2 : Nat) (P Q : Nat → Prop) (g1 : RdV P w' (.slice A1 n1 c1) (strV xs)) (g2 : RdV Q w' (.slice A2 n2 c2) (strV ys)) => twolist_any (a := a) (b := b) (c := c) g1 g2 t3 t4)
  obtain ⟨tot, htot⟩ : ∃ t, t = n1 * n2 := ⟨_, rfl⟩
  have htb : tot ≤ 65536 := by rw [htot]; exact Nat.mul_le_mul m1 m2
  have e12 : (n1 : Int) * n2 = tot := by rw [htot, Int.natCast_mul]
  have HTOT := Lib.hid htot
  have HU := Lib.hid u3
  have HL1 := Lib.hid l1; have HL2 := Lib.hid l2
  clear h1 h2 hb1 hb2 hz hcart hm hmem hsob u1 u2 u3 l1 l2 htot
  have K0 : Hid (Kept [] w w) := Lib.hid (Kept.refl _ _)
  go_enter Tryf.func3, Tryf.ntmps3
  go_wp2_with (first
    | (go_at_call 7; refine HZ.out.mono ?_; rintro e w' ⟨rfl, rfl⟩)
    | (go_at_call 8; refine HC.out.mono ?_; rintro e w' ⟨rfl, rfl⟩)
    | (go_at_call_of 9 (Value.slice A1 n1 c1); refine HK1.out.mono ?_; rintro e w1 ⟨B1, d1, rfl, hr1, hk1⟩; have HR1 := Lib.hid hr1; have K1 := Lib.hid hk1; clear hr1 hk1)
    | (go_at_call_of 9 (Value.slice A2 n2 c2); refine (HK2.out _ K1.out).mono ?_; rintro e w2 ⟨B2, d2, rfl, hr2, hk2⟩; have HR2 := Lib.hid hr2; have K2 := Lib.hid hk2; clear hr2 hk2)
    | (go_at_call 10; refine (HTL.out _ _ _ _ _ _ _ (HR1.out.kept K2.out (by simp)) HR2.out).mono ?_; rintro e w3 ⟨pw, la, lb, lc, b1, b2, lx, ly, rfl, hT, hk3⟩; have HT := Lib.hid hT; have K3 := Lib.hid hk3; clear hT hk3)
    | (go_at_call 11; obtain ⟨vw, hvw, hrw⟩ := HT.out.word; have hbr := braces_any (HT.out.exp) (by simp) (by rw [prodW_length, HL1.out, HL2.out, ← HTOT.out]; omega) (fun y hy => by rw [prodW_mem y hy]; omega) hvw (hrw.weaken (fun g hg _ => hg)); refine hbr.mono ?_; clear hbr hvw hrw; rintro e w4 ⟨BA, dA, items, rfl, hall, hit, hk4⟩; rw [prodW_length, HL1.out, HL2.out, ← HTOT.out] at hall ⊢; have HALL := Lib.hid hall; have HIT := Lib.hid hit; have K4 := Lib.hid hk4; clear hall hit hk4))
  have hdA : dA ≤ 9223372036854775807 ∧ tot ≤ dA := by
    obtain ⟨_, _, e, q1, q2, _⟩ := HALL.out.1.rd
    cases e
    unfold maxLen at q2
    exact ⟨by omega, q1⟩
  obtain ⟨hdA1, hdA2⟩ := hdA
  have HW := Lib.hid (fun (i j : Nat) (x y : ByteArray) (hx : xs[i]? = some x) (hy : ys[j]? = some y) => two_word (HT.out.kept K4.out) HALL.out HIT.out hx hy (by have := szs_mem hx; have := szs_mem hy; have := HU.out; omega))
  have HX := Lib.hid (fun (i : Nat) (x : ByteArray) (hx : xs[i]? = some x) => (strs_at ((HR1.out.kept (K2.out.trans (K3.out.trans K4.out)) (by simp)))).out i x hx)
  have HY := Lib.hid (fun (j : Nat) (y : ByteArray) (hy : ys[j]? = some y) => (strs_at ((HR2.out.kept (K3.out.trans K4.out) (by simp)))).out j y hy)
  have hcap1 := rd_cap HR1.out
  have hcap2 := rd_cap HR2.out
  obtain ⟨q11, q12⟩ := hcap1
  obtain ⟨q21, q22⟩ := hcap2
  go_loopw [10, 15] (fun q i wr => ∃ k : Nat, k ≤ tot ∧ i = .int .i64 k ∧ q = .bool false ∧ Hid (Kept [] w4 wr)) (fun _ i _ => tot - (intOf i).toNat)
  case atStart => exact ⟨0, Nat.zero_le _, rfl, rfl, Lib.hid (Kept.refl _ _)⟩
  case round =>
    obtain ⟨k, hk, rfl, rfl, HK⟩ := hrel
    by_cases hlt : k < tot
    · have hn2 : 0 < n2 := by
        rcases Nat.eq_zero_or_pos n2 with h | h
        · have := HTOT.out; rw [h, Nat.mul_zero] at this; omega
        · exact h
      obtain ⟨i, hi⟩ : ∃ i, i = k / n2 := ⟨_, rfl⟩
      obtain ⟨j, hj⟩ : ∃ j, j = k % n2 := ⟨_, rfl⟩
      have hin : i < n1 := by rw [hi]; exact Nat.div_lt_of_lt_mul (by rw [Nat.mul_comm, ← HTOT.out]; exact hlt)
      have hjn : j < n2 := by rw [hj]; exact Nat.mod_lt _ hn2
      have hki : k = i * n2 + j := by rw [hi, hj, Nat.mul_comm]; exact (Nat.div_add_mod k n2).symm
      have hq : (k : Int) / n2 = i := by rw [hi, Int.natCast_ediv]
      have hr : (k : Int) % n2 = j := by rw [hj, Int.natCast_emod]
      have hr2 : (k : Int).tmod n2 = j := by rw [Int.tmod_eq_emod_of_nonneg (by omega)]; exact hr
      obtain ⟨x, hx⟩ : ∃ x, xs[i]? = some x := ⟨_, List.getElem?_eq_getElem (by rw [HL1.out]; exact hin)⟩
      obtain ⟨y, hy⟩ : ∃ y, ys[j]? = some y := ⟨_, List.getElem?_eq_getElem (by rw [HL2.out]; exact hjn)⟩
      obtain ⟨g, pk, hBA, hcw, hgw, hlit⟩ := HW.out i j x y hx hy
      rw [HL2.out, ← hki] at hcw
      obtain ⟨g1, o1, hB1, hc1⟩ := HX.out i x hx
      obtain ⟨g2, o2, hB2, hc2⟩ := HY.out j y hy
      have HCAT : Hid ((catB [a, x, b, y, c]).size ≤ 1000000000) := Lib.hid (by
        have e1 := szs_mem hx; have e2 := szs_mem hy; have e3 := HU.out
        have z : ∀ p : ByteArray, p.data.toList.length = p.size := fun _ => rfl
        show (List.flatMap _ _).length ≤ _
        simp only [List.flatMap_cons, List.flatMap_nil, List.length_append, List.length_nil, z]
        omega)
      have hg1 := block_lt_of_cell hc1
      have hg2 := block_lt_of_cell hc2
      have f0 : ∀ w', Kept [] w4 w' → w'.cell? ⟨g, k, none⟩ = some (.pointer (some ⟨pk, 0, none⟩)) := fun w' h => (h.cell (p := ⟨g, k, none⟩) hgw (by simp)).trans hcw
      have f1 : ∀ w', Kept [] w4 w' → w'.cell? ⟨g1, o1 + i, none⟩ = some (.string x) := fun w' h => (h.cell (p := ⟨g1, o1 + i, none⟩) hg1 (by simp)).trans hc1
      have f2 : ∀ w', Kept [] w4 w' → w'.cell? ⟨g2, o2 + j, none⟩ = some (.string y) := fun w' h => (h.cell (p := ⟨g2, o2 + j, none⟩) hg2 (by simp)).trans hc2
      have d0 := f0 wr HK.out; have d1 := f1 wr HK.out; have d2 := f2 wr HK.out
      have F0 := Lib.hid f0; have F1 := Lib.hid f1; have F2 := Lib.hid f2; have HLIT := Lib.hid hlit
      clear hi hj hki hx hy hcw hgw hc1 hc2 hg1 hg2 f0 f1 f2 hlit
      subst hBA hB1 hB2
      go_wp2_with fail
      go_region_with (first | (go_at_call 13; refine (HLIT.out _ (by first | exact HK.out.drew | exact HK.out)).mono ?_; rintro e w5 ⟨rfl, hk5⟩; dsimp only; have HK5 := Lib.hid (HK.out.drew.trans hk5); have d0 := F0.out w5 HK5.out; have d1 := F1.out w5 HK5.out; have d2 := F2.out w5 HK5.out; clear hk5) | (go_at_call 12; refine (iscat_yes _ _ _ _ _ _ rfl HCAT.out _).mono ?_; rintro e w' ⟨rfl, rfl⟩; dsimp only))
      all_goals (
        go_wp2_with fail
        go_roundw
        case rel => exact ⟨k + 1, by omega, by go_num, rfl, HK5⟩
        case measure => simp [intOf]; omega)
    · obtain rfl : k = tot := by omega
      go_wp2_with fail
      go_ret
      exact ⟨rfl, (((K1.out.trans K2.out).trans K3.out).trans K4.out).trans HK.out⟩
end Go.Proofs.YtcemnjieahpcnaaFmt
