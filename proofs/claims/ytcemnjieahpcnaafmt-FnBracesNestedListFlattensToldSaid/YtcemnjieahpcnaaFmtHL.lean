/-
  The bound on the total length, laid by program.
-/
import Derived.Test.YtcemnjieahpcnaaFmtHK
namespace Go.Proofs.YtcemnjieahpcnaaFmt
open Go.RowKit

theorem rd_cap {w : World} {P : Nat → Prop} {A : Option Addr} {n c : Nat} {l : List Value} (h : RdV P w (.slice A n c) l) : n ≤ c ∧ c ≤ 9223372036854775807 := by
  obtain ⟨_, _, e, h1, h2, _⟩ := h
  cases e
  unfold maxLen at h2
  exact ⟨h1, by omega⟩

set_option maxRecDepth 100000 in
set_option maxHeartbeats 1600000 in
theorem zb_FnBracesTwoListsCartesian {w : World} (p0 : ByteArray) (p1 : ByteArray) (p2 : ByteArray) {A3 : Option Addr} {n3 c3 : Nat} {x3 : List ByteArray} {P3 : Nat → Prop} {A4 : Option Addr} {n4 c4 : Nat} {x4 : List ByteArray} {P4 : Nat → Prop} (s0 : p0.size ≤ 9223372036854775807) (s1 : p1.size ≤ 9223372036854775807) (s2 : p2.size ≤ 9223372036854775807) (h3 : RdV P3 w (.slice A3 n3 c3) (strV x3)) (z3 : ∀ x ∈ x3, x.size ≤ 9223372036854775807) (h4 : RdV P4 w (.slice A4 n4 c4) (strV x4)) (z4 : ∀ x ∈ x4, x.size ≤ 9223372036854775807) : Calls Tryf.prog 7 #[.string p0, .string p1, .string p2, .slice A3 n3 c3, .slice A4 n4 c4] w fun e w' => e = .returned (.bool (acc 0 (p0.size :: (p1.size :: (p2.size :: (n3 :: (szs x3 ++ (n4 :: (szs x4 ++ [])))))))).isSome) ∧ w = w' := by
  have l3 := strs_len h3
  have hc3 := strs_at h3
  have hs3 : Hid (∀ (k : Nat) (x : ByteArray), x3[k]? = some x → x.size ≤ 9223372036854775807) := Lib.hid (fun k x hx => z3 x (List.mem_of_getElem? hx))
  have HL3 := Lib.hid l3
  have q3 := rd_cap h3
  obtain ⟨qa3, qb3⟩ := q3
  have l4 := strs_len h4
  have hc4 := strs_at h4
  have hs4 : Hid (∀ (k : Nat) (x : ByteArray), x4[k]? = some x → x.size ≤ 9223372036854775807) := Lib.hid (fun k x hx => z4 x (List.mem_of_getElem? hx))
  have HL4 := Lib.hid l4
  have q4 := rd_cap h4
  obtain ⟨qa4, qb4⟩ := q4
  clear l3 h3 z3 l4 h4 z4
  obtain ⟨bv, hbv⟩ : ∃ b, b = (acc 0 (p0.size :: (p1.size :: (p2.size :: (n3 :: (szs x3 ++ (n4 :: (szs x4 ++ [])))))))).isSome := ⟨_, rfl⟩
  rw [← hbv]
  have HBV := Lib.hid hbv
  clear hbv
  go_enter Tryf.func7, Tryf.ntmps7
  by_cases g0 : 1048576 < p0.size
  · go_wp2_with fail
    go_ret
    rw [HBV.out]
    have e : acc 0 (p0.size :: (p1.size :: (p2.size :: (n3 :: (szs x3 ++ (n4 :: (szs x4 ++ []))))))) = none := by
      simp only [acc, Nat.zero_add]
      repeat' split
      all_goals first | rfl | omega
    rw [e]
    exact ⟨rfl, rfl⟩
  by_cases g1 : 1048576 < p1.size
  · go_wp2_with fail
    go_ret
    rw [HBV.out]
    have e : acc 0 (p0.size :: (p1.size :: (p2.size :: (n3 :: (szs x3 ++ (n4 :: (szs x4 ++ []))))))) = none := by
      simp only [acc, Nat.zero_add]
      repeat' split
      all_goals first | rfl | omega
    rw [e]
    exact ⟨rfl, rfl⟩
  by_cases g2 : 1048576 < p0.size + p1.size
  · go_wp2_with fail
    go_ret
    rw [HBV.out]
    have e : acc 0 (p0.size :: (p1.size :: (p2.size :: (n3 :: (szs x3 ++ (n4 :: (szs x4 ++ []))))))) = none := by
      simp only [acc, Nat.zero_add]
      repeat' split
      all_goals first | rfl | omega
    rw [e]
    exact ⟨rfl, rfl⟩
  by_cases g3 : 1048576 < p2.size
  · go_wp2_with fail
    go_ret
    rw [HBV.out]
    have e : acc 0 (p0.size :: (p1.size :: (p2.size :: (n3 :: (szs x3 ++ (n4 :: (szs x4 ++ []))))))) = none := by
      simp only [acc, Nat.zero_add]
      repeat' split
      all_goals first | rfl | omega
    rw [e]
    exact ⟨rfl, rfl⟩
  by_cases g4 : 1048576 < p0.size + p1.size + p2.size
  · go_wp2_with fail
    go_ret
    rw [HBV.out]
    have e : acc 0 (p0.size :: (p1.size :: (p2.size :: (n3 :: (szs x3 ++ (n4 :: (szs x4 ++ []))))))) = none := by
      simp only [acc, Nat.zero_add]
      repeat' split
      all_goals first | rfl | omega
    rw [e]
    exact ⟨rfl, rfl⟩
  by_cases g5 : 1048576 < n3
  · go_wp2_with fail
    go_ret
    rw [HBV.out]
    have e : acc 0 (p0.size :: (p1.size :: (p2.size :: (n3 :: (szs x3 ++ (n4 :: (szs x4 ++ []))))))) = none := by
      simp only [acc, Nat.zero_add]
      repeat' split
      all_goals first | rfl | omega
    rw [e]
    exact ⟨rfl, rfl⟩
  by_cases g6 : 1048576 < p0.size + p1.size + p2.size + n3
  · go_wp2_with fail
    go_ret
    rw [HBV.out]
    have e : acc 0 (p0.size :: (p1.size :: (p2.size :: (n3 :: (szs x3 ++ (n4 :: (szs x4 ++ []))))))) = none := by
      simp only [acc, Nat.zero_add]
      repeat' split
      all_goals first | rfl | omega
    rw [e]
    exact ⟨rfl, rfl⟩
  have ha3 : Hid (acc 0 (p0.size :: (p1.size :: (p2.size :: (n3 :: (szs x3 ++ (n4 :: (szs x4 ++ []))))))) = acc (p0.size + p1.size + p2.size + n3) (szs x3 ++ (n4 :: (szs x4 ++ [])))) := Lib.hid (by
    simp only [acc, Nat.zero_add]
    repeat' split
    all_goals first | rfl | omega)
  have hb3 := ha3
  obtain ⟨t3, ht3⟩ : ∃ u, u = p0.size + p1.size + p2.size + n3 := ⟨_, rfl⟩
  have htl3 : t3 ≤ 1048576 := by rw [ht3]; omega
  have HT3 := Lib.hid ht3
  have hb3 : Hid (acc 0 (p0.size :: (p1.size :: (p2.size :: (n3 :: (szs x3 ++ (n4 :: (szs x4 ++ []))))))) = acc t3 (szs x3 ++ (n4 :: (szs x4 ++ [])))) := Lib.hid (by rw [ht3]; exact hb3.out)
  clear ht3 ha3
  go_wp2_with fail
  go_loop [10, 11, 12] (fun q m i => ∃ k t : Nat, k ≤ n3 ∧ i = .int .i64 k ∧ m = .int .i64 t ∧ t ≤ 1048576 ∧ q = .bool false ∧ Hid (acc 0 (p0.size :: (p1.size :: (p2.size :: (n3 :: (szs x3 ++ (n4 :: (szs x4 ++ []))))))) = acc t ((szs x3).drop k ++ (n4 :: (szs x4 ++ []))))) (fun _ _ i => n3 - (intOf i).toNat)
  case atStart => exact ⟨0, t3, Nat.zero_le _, rfl, by (rw [HT3.out]) <;> go_num, htl3, rfl, hb3⟩
  case round =>
    obtain ⟨k, t, hk, rfl, rfl, ht, rfl, HA3⟩ := hrel
    by_cases hlt : k < n3
    · have hlt' : k < x3.length := by rw [HL3.out]; exact hlt
      obtain ⟨x, hx⟩ : ∃ x, x3[k]? = some x := ⟨_, List.getElem?_eq_getElem hlt'⟩
      obtain ⟨g, o, hA, d0⟩ := hc3.out k x hx
      have hxs := hs3.out k x hx
      have HD : Hid (acc 0 (p0.size :: (p1.size :: (p2.size :: (n3 :: (szs x3 ++ (n4 :: (szs x4 ++ []))))))) = if 1048576 < x.size then none else if 1048576 < t + x.size then none else acc (t + x.size) ((szs x3).drop (k + 1) ++ (n4 :: (szs x4 ++ [])))) := Lib.hid (by rw [HA3.out, szs_drop hx]; rfl)
      clear hlt' hx
      subst hA
      by_cases h1 : 1048576 < x.size
      · go_wp2_with fail
        go_ret
        rw [HBV.out, HD.out, if_pos h1]
        exact ⟨rfl, rfl⟩
      · by_cases h2 : 1048576 < t + x.size
        · go_wp2_with fail
          go_ret
          rw [HBV.out, HD.out, if_neg h1, if_pos h2]
          exact ⟨rfl, rfl⟩
        · have HD2 := Lib.hid (HD.out.trans ((if_neg h1).trans (if_neg h2)))
          go_wp2_with fail
          go_round
          case rel => exact ⟨k + 1, t + x.size, by omega, by go_num, by go_num, by omega, rfl, HD2⟩
          case measure => simp [intOf]; omega
    · obtain rfl : n3 = k := by omega
      have HE3 : Hid (acc 0 (p0.size :: (p1.size :: (p2.size :: (n3 :: (szs x3 ++ (n4 :: (szs x4 ++ []))))))) = acc t (n4 :: (szs x4 ++ []))) := Lib.hid (by rw [HA3.out, szs_end (by rw [HL3.out]; exact Nat.le_refl _)]; rfl)
      have ht93 := ht
      by_cases g7 : 1048576 < n4
      · go_wp2_with fail
        go_ret
        rw [HBV.out, HE3.out]
        have e : acc t (n4 :: (szs x4 ++ [])) = none := by
          simp only [acc]
          repeat' split
          all_goals first | rfl | omega
        rw [e]
        exact ⟨rfl, rfl⟩
      by_cases g8 : 1048576 < t + n4
      · go_wp2_with fail
        go_ret
        rw [HBV.out, HE3.out]
        have e : acc t (n4 :: (szs x4 ++ [])) = none := by
          simp only [acc]
          repeat' split
          all_goals first | rfl | omega
        rw [e]
        exact ⟨rfl, rfl⟩
      have ha4 : Hid (acc t (n4 :: (szs x4 ++ [])) = acc (t + n4) (szs x4 ++ [])) := Lib.hid (by
        simp only [acc]
        repeat' split
        all_goals first | rfl | omega)
      have hb4 := Lib.hid (HE3.out.trans ha4.out)
      obtain ⟨t4, ht4⟩ : ∃ u, u = t + n4 := ⟨_, rfl⟩
      have htl4 : t4 ≤ 1048576 := by rw [ht4]; omega
      have HT4 := Lib.hid ht4
      have hb4 : Hid (acc 0 (p0.size :: (p1.size :: (p2.size :: (n3 :: (szs x3 ++ (n4 :: (szs x4 ++ []))))))) = acc t4 (szs x4 ++ [])) := Lib.hid (by rw [ht4]; exact hb4.out)
      clear ht4 ha4
      go_wp2_with fail
      go_loop [10, 11, 13] (fun q m i => ∃ k t : Nat, k ≤ n4 ∧ i = .int .i64 k ∧ m = .int .i64 t ∧ t ≤ 1048576 ∧ q = .bool false ∧ Hid (acc 0 (p0.size :: (p1.size :: (p2.size :: (n3 :: (szs x3 ++ (n4 :: (szs x4 ++ []))))))) = acc t ((szs x4).drop k ++ []))) (fun _ _ i => n4 - (intOf i).toNat)
      case atStart => exact ⟨0, t4, Nat.zero_le _, rfl, by (rw [HT4.out]) <;> go_num, htl4, rfl, hb4⟩
      case round =>
        obtain ⟨k, t, hk, rfl, rfl, ht, rfl, HA4⟩ := hrel
        by_cases hlt : k < n4
        · have hlt' : k < x4.length := by rw [HL4.out]; exact hlt
          obtain ⟨x, hx⟩ : ∃ x, x4[k]? = some x := ⟨_, List.getElem?_eq_getElem hlt'⟩
          obtain ⟨g, o, hA, d0⟩ := hc4.out k x hx
          have hxs := hs4.out k x hx
          have HD : Hid (acc 0 (p0.size :: (p1.size :: (p2.size :: (n3 :: (szs x3 ++ (n4 :: (szs x4 ++ []))))))) = if 1048576 < x.size then none else if 1048576 < t + x.size then none else acc (t + x.size) ((szs x4).drop (k + 1) ++ [])) := Lib.hid (by rw [HA4.out, szs_drop hx]; rfl)
          clear hlt' hx
          subst hA
          by_cases h1 : 1048576 < x.size
          · go_wp2_with fail
            go_ret
            rw [HBV.out, HD.out, if_pos h1]
            exact ⟨rfl, rfl⟩
          · by_cases h2 : 1048576 < t + x.size
            · go_wp2_with fail
              go_ret
              rw [HBV.out, HD.out, if_neg h1, if_pos h2]
              exact ⟨rfl, rfl⟩
            · have HD2 := Lib.hid (HD.out.trans ((if_neg h1).trans (if_neg h2)))
              go_wp2_with fail
              go_round
              case rel => exact ⟨k + 1, t + x.size, by omega, by go_num, by go_num, by omega, rfl, HD2⟩
              case measure => simp [intOf]; omega
        · obtain rfl : n4 = k := by omega
          have HE4 : Hid (acc 0 (p0.size :: (p1.size :: (p2.size :: (n3 :: (szs x3 ++ (n4 :: (szs x4 ++ []))))))) = acc t []) := Lib.hid (by rw [HA4.out, szs_end (by rw [HL4.out]; exact Nat.le_refl _)]; rfl)
          have ht94 := ht
          go_wp2_with fail
          go_ret
          rw [HBV.out, HE4.out]
          have e : (acc t []).isSome = true := by
            simp only [acc]
            repeat' split
            all_goals first | rfl | omega
          rw [e]
          exact ⟨rfl, rfl⟩

set_option maxRecDepth 100000 in
set_option maxHeartbeats 1600000 in
theorem zb_FnBracesNestedListFlattens {w : World} (p0 : ByteArray) (p1 : ByteArray) {A2 : Option Addr} {n2 c2 : Nat} {x2 : List ByteArray} {P2 : Nat → Prop} {A3 : Option Addr} {n3 c3 : Nat} {x3 : List ByteArray} {P3 : Nat → Prop} (s0 : p0.size ≤ 9223372036854775807) (s1 : p1.size ≤ 9223372036854775807) (h2 : RdV P2 w (.slice A2 n2 c2) (strV x2)) (z2 : ∀ x ∈ x2, x.size ≤ 9223372036854775807) (h3 : RdV P3 w (.slice A3 n3 c3) (strV x3)) (z3 : ∀ x ∈ x3, x.size ≤ 9223372036854775807) : Calls Tryf.prog 14 #[.string p0, .string p1, .slice A2 n2 c2, .slice A3 n3 c3] w fun e w' => e = .returned (.bool (acc 0 (p0.size :: (p1.size :: (n2 :: (szs x2 ++ (n3 :: (szs x3 ++ []))))))).isSome) ∧ w = w' := by
  have l2 := strs_len h2
  have hc2 := strs_at h2
  have hs2 : Hid (∀ (k : Nat) (x : ByteArray), x2[k]? = some x → x.size ≤ 9223372036854775807) := Lib.hid (fun k x hx => z2 x (List.mem_of_getElem? hx))
  have HL2 := Lib.hid l2
  have q2 := rd_cap h2
  obtain ⟨qa2, qb2⟩ := q2
  have l3 := strs_len h3
  have hc3 := strs_at h3
  have hs3 : Hid (∀ (k : Nat) (x : ByteArray), x3[k]? = some x → x.size ≤ 9223372036854775807) := Lib.hid (fun k x hx => z3 x (List.mem_of_getElem? hx))
  have HL3 := Lib.hid l3
  have q3 := rd_cap h3
  obtain ⟨qa3, qb3⟩ := q3
  clear l2 h2 z2 l3 h3 z3
  obtain ⟨bv, hbv⟩ : ∃ b, b = (acc 0 (p0.size :: (p1.size :: (n2 :: (szs x2 ++ (n3 :: (szs x3 ++ []))))))).isSome := ⟨_, rfl⟩
  rw [← hbv]
  have HBV := Lib.hid hbv
  clear hbv
  go_enter Tryf.func14, Tryf.ntmps14
  by_cases g0 : 1048576 < p0.size
  · go_wp2_with fail
    go_ret
    rw [HBV.out]
    have e : acc 0 (p0.size :: (p1.size :: (n2 :: (szs x2 ++ (n3 :: (szs x3 ++ [])))))) = none := by
      simp only [acc, Nat.zero_add]
      repeat' split
      all_goals first | rfl | omega
    rw [e]
    exact ⟨rfl, rfl⟩
  by_cases g1 : 1048576 < p1.size
  · go_wp2_with fail
    go_ret
    rw [HBV.out]
    have e : acc 0 (p0.size :: (p1.size :: (n2 :: (szs x2 ++ (n3 :: (szs x3 ++ [])))))) = none := by
      simp only [acc, Nat.zero_add]
      repeat' split
      all_goals first | rfl | omega
    rw [e]
    exact ⟨rfl, rfl⟩
  by_cases g2 : 1048576 < p0.size + p1.size
  · go_wp2_with fail
    go_ret
    rw [HBV.out]
    have e : acc 0 (p0.size :: (p1.size :: (n2 :: (szs x2 ++ (n3 :: (szs x3 ++ [])))))) = none := by
      simp only [acc, Nat.zero_add]
      repeat' split
      all_goals first | rfl | omega
    rw [e]
    exact ⟨rfl, rfl⟩
  by_cases g3 : 1048576 < n2
  · go_wp2_with fail
    go_ret
    rw [HBV.out]
    have e : acc 0 (p0.size :: (p1.size :: (n2 :: (szs x2 ++ (n3 :: (szs x3 ++ [])))))) = none := by
      simp only [acc, Nat.zero_add]
      repeat' split
      all_goals first | rfl | omega
    rw [e]
    exact ⟨rfl, rfl⟩
  by_cases g4 : 1048576 < p0.size + p1.size + n2
  · go_wp2_with fail
    go_ret
    rw [HBV.out]
    have e : acc 0 (p0.size :: (p1.size :: (n2 :: (szs x2 ++ (n3 :: (szs x3 ++ [])))))) = none := by
      simp only [acc, Nat.zero_add]
      repeat' split
      all_goals first | rfl | omega
    rw [e]
    exact ⟨rfl, rfl⟩
  have ha2 : Hid (acc 0 (p0.size :: (p1.size :: (n2 :: (szs x2 ++ (n3 :: (szs x3 ++ [])))))) = acc (p0.size + p1.size + n2) (szs x2 ++ (n3 :: (szs x3 ++ [])))) := Lib.hid (by
    simp only [acc, Nat.zero_add]
    repeat' split
    all_goals first | rfl | omega)
  have hb2 := ha2
  obtain ⟨t2, ht2⟩ : ∃ u, u = p0.size + p1.size + n2 := ⟨_, rfl⟩
  have htl2 : t2 ≤ 1048576 := by rw [ht2]; omega
  have HT2 := Lib.hid ht2
  have hb2 : Hid (acc 0 (p0.size :: (p1.size :: (n2 :: (szs x2 ++ (n3 :: (szs x3 ++ [])))))) = acc t2 (szs x2 ++ (n3 :: (szs x3 ++ [])))) := Lib.hid (by rw [ht2]; exact hb2.out)
  clear ht2 ha2
  go_wp2_with fail
  go_loop [8, 9, 10] (fun q m i => ∃ k t : Nat, k ≤ n2 ∧ i = .int .i64 k ∧ m = .int .i64 t ∧ t ≤ 1048576 ∧ q = .bool false ∧ Hid (acc 0 (p0.size :: (p1.size :: (n2 :: (szs x2 ++ (n3 :: (szs x3 ++ [])))))) = acc t ((szs x2).drop k ++ (n3 :: (szs x3 ++ []))))) (fun _ _ i => n2 - (intOf i).toNat)
  case atStart => exact ⟨0, t2, Nat.zero_le _, rfl, by (rw [HT2.out]) <;> go_num, htl2, rfl, hb2⟩
  case round =>
    obtain ⟨k, t, hk, rfl, rfl, ht, rfl, HA2⟩ := hrel
    by_cases hlt : k < n2
    · have hlt' : k < x2.length := by rw [HL2.out]; exact hlt
      obtain ⟨x, hx⟩ : ∃ x, x2[k]? = some x := ⟨_, List.getElem?_eq_getElem hlt'⟩
      obtain ⟨g, o, hA, d0⟩ := hc2.out k x hx
      have hxs := hs2.out k x hx
      have HD : Hid (acc 0 (p0.size :: (p1.size :: (n2 :: (szs x2 ++ (n3 :: (szs x3 ++ [])))))) = if 1048576 < x.size then none else if 1048576 < t + x.size then none else acc (t + x.size) ((szs x2).drop (k + 1) ++ (n3 :: (szs x3 ++ [])))) := Lib.hid (by rw [HA2.out, szs_drop hx]; rfl)
      clear hlt' hx
      subst hA
      by_cases h1 : 1048576 < x.size
      · go_wp2_with fail
        go_ret
        rw [HBV.out, HD.out, if_pos h1]
        exact ⟨rfl, rfl⟩
      · by_cases h2 : 1048576 < t + x.size
        · go_wp2_with fail
          go_ret
          rw [HBV.out, HD.out, if_neg h1, if_pos h2]
          exact ⟨rfl, rfl⟩
        · have HD2 := Lib.hid (HD.out.trans ((if_neg h1).trans (if_neg h2)))
          go_wp2_with fail
          go_round
          case rel => exact ⟨k + 1, t + x.size, by omega, by go_num, by go_num, by omega, rfl, HD2⟩
          case measure => simp [intOf]; omega
    · obtain rfl : n2 = k := by omega
      have HE2 : Hid (acc 0 (p0.size :: (p1.size :: (n2 :: (szs x2 ++ (n3 :: (szs x3 ++ [])))))) = acc t (n3 :: (szs x3 ++ []))) := Lib.hid (by rw [HA2.out, szs_end (by rw [HL2.out]; exact Nat.le_refl _)]; rfl)
      have ht92 := ht
      by_cases g5 : 1048576 < n3
      · go_wp2_with fail
        go_ret
        rw [HBV.out, HE2.out]
        have e : acc t (n3 :: (szs x3 ++ [])) = none := by
          simp only [acc]
          repeat' split
          all_goals first | rfl | omega
        rw [e]
        exact ⟨rfl, rfl⟩
      by_cases g6 : 1048576 < t + n3
      · go_wp2_with fail
        go_ret
        rw [HBV.out, HE2.out]
        have e : acc t (n3 :: (szs x3 ++ [])) = none := by
          simp only [acc]
          repeat' split
          all_goals first | rfl | omega
        rw [e]
        exact ⟨rfl, rfl⟩
      have ha3 : Hid (acc t (n3 :: (szs x3 ++ [])) = acc (t + n3) (szs x3 ++ [])) := Lib.hid (by
        simp only [acc]
        repeat' split
        all_goals first | rfl | omega)
      have hb3 := Lib.hid (HE2.out.trans ha3.out)
      obtain ⟨t3, ht3⟩ : ∃ u, u = t + n3 := ⟨_, rfl⟩
      have htl3 : t3 ≤ 1048576 := by rw [ht3]; omega
      have HT3 := Lib.hid ht3
      have hb3 : Hid (acc 0 (p0.size :: (p1.size :: (n2 :: (szs x2 ++ (n3 :: (szs x3 ++ [])))))) = acc t3 (szs x3 ++ [])) := Lib.hid (by rw [ht3]; exact hb3.out)
      clear ht3 ha3
      go_wp2_with fail
      go_loop [8, 9, 11] (fun q m i => ∃ k t : Nat, k ≤ n3 ∧ i = .int .i64 k ∧ m = .int .i64 t ∧ t ≤ 1048576 ∧ q = .bool false ∧ Hid (acc 0 (p0.size :: (p1.size :: (n2 :: (szs x2 ++ (n3 :: (szs x3 ++ [])))))) = acc t ((szs x3).drop k ++ []))) (fun _ _ i => n3 - (intOf i).toNat)
      case atStart => exact ⟨0, t3, Nat.zero_le _, rfl, by (rw [HT3.out]) <;> go_num, htl3, rfl, hb3⟩
      case round =>
        obtain ⟨k, t, hk, rfl, rfl, ht, rfl, HA3⟩ := hrel
        by_cases hlt : k < n3
        · have hlt' : k < x3.length := by rw [HL3.out]; exact hlt
          obtain ⟨x, hx⟩ : ∃ x, x3[k]? = some x := ⟨_, List.getElem?_eq_getElem hlt'⟩
          obtain ⟨g, o, hA, d0⟩ := hc3.out k x hx
          have hxs := hs3.out k x hx
          have HD : Hid (acc 0 (p0.size :: (p1.size :: (n2 :: (szs x2 ++ (n3 :: (szs x3 ++ [])))))) = if 1048576 < x.size then none else if 1048576 < t + x.size then none else acc (t + x.size) ((szs x3).drop (k + 1) ++ [])) := Lib.hid (by rw [HA3.out, szs_drop hx]; rfl)
          clear hlt' hx
          subst hA
          by_cases h1 : 1048576 < x.size
          · go_wp2_with fail
            go_ret
            rw [HBV.out, HD.out, if_pos h1]
            exact ⟨rfl, rfl⟩
          · by_cases h2 : 1048576 < t + x.size
            · go_wp2_with fail
              go_ret
              rw [HBV.out, HD.out, if_neg h1, if_pos h2]
              exact ⟨rfl, rfl⟩
            · have HD2 := Lib.hid (HD.out.trans ((if_neg h1).trans (if_neg h2)))
              go_wp2_with fail
              go_round
              case rel => exact ⟨k + 1, t + x.size, by omega, by go_num, by go_num, by omega, rfl, HD2⟩
              case measure => simp [intOf]; omega
        · obtain rfl : n3 = k := by omega
          have HE3 : Hid (acc 0 (p0.size :: (p1.size :: (n2 :: (szs x2 ++ (n3 :: (szs x3 ++ [])))))) = acc t []) := Lib.hid (by rw [HA3.out, szs_end (by rw [HL3.out]; exact Nat.le_refl _)]; rfl)
          have ht93 := ht
          go_wp2_with fail
          go_ret
          rw [HBV.out, HE3.out]
          have e : (acc t []).isSome = true := by
            simp only [acc]
            repeat' split
            all_goals first | rfl | omega
          rw [e]
          exact ⟨rfl, rfl⟩

set_option maxRecDepth 100000 in
set_option maxHeartbeats 1600000 in
theorem zb_FnBracesSeqRecStopsWhenAsked {w : World} {A0 : Option Addr} {n0 c0 : Nat} {x0 : List ByteArray} {P0 : Nat → Prop} {A1 : Option Addr} {n1 c1 : Nat} {x1 : List ByteArray} {P1 : Nat → Prop} (p2 : Int) (h0 : RdV P0 w (.slice A0 n0 c0) (strV x0)) (z0 : ∀ x ∈ x0, x.size ≤ 9223372036854775807) (h1 : RdV P1 w (.slice A1 n1 c1) (strV x1)) (z1 : ∀ x ∈ x1, x.size ≤ 9223372036854775807) : Calls Tryf.prog 24 #[.slice A0 n0 c0, .slice A1 n1 c1, .int .i64 p2] w fun e w' => e = .returned (.bool (acc 0 (n0 :: (szs x0 ++ (n1 :: (szs x1 ++ []))))).isSome) ∧ w = w' := by
  have l0 := strs_len h0
  have hc0 := strs_at h0
  have hs0 : Hid (∀ (k : Nat) (x : ByteArray), x0[k]? = some x → x.size ≤ 9223372036854775807) := Lib.hid (fun k x hx => z0 x (List.mem_of_getElem? hx))
  have HL0 := Lib.hid l0
  have q0 := rd_cap h0
  obtain ⟨qa0, qb0⟩ := q0
  have l1 := strs_len h1
  have hc1 := strs_at h1
  have hs1 : Hid (∀ (k : Nat) (x : ByteArray), x1[k]? = some x → x.size ≤ 9223372036854775807) := Lib.hid (fun k x hx => z1 x (List.mem_of_getElem? hx))
  have HL1 := Lib.hid l1
  have q1 := rd_cap h1
  obtain ⟨qa1, qb1⟩ := q1
  clear l0 h0 z0 l1 h1 z1
  obtain ⟨bv, hbv⟩ : ∃ b, b = (acc 0 (n0 :: (szs x0 ++ (n1 :: (szs x1 ++ []))))).isSome := ⟨_, rfl⟩
  rw [← hbv]
  have HBV := Lib.hid hbv
  clear hbv
  go_enter Tryf.func24, Tryf.ntmps24
  by_cases g0 : 1048576 < n0
  · go_wp2_with fail
    go_ret
    rw [HBV.out]
    have e : acc 0 (n0 :: (szs x0 ++ (n1 :: (szs x1 ++ [])))) = none := by
      simp only [acc, Nat.zero_add]
      repeat' split
      all_goals first | rfl | omega
    rw [e]
    exact ⟨rfl, rfl⟩
  have ha0 : Hid (acc 0 (n0 :: (szs x0 ++ (n1 :: (szs x1 ++ [])))) = acc (n0) (szs x0 ++ (n1 :: (szs x1 ++ [])))) := Lib.hid (by
    simp only [acc, Nat.zero_add]
    repeat' split
    all_goals first | rfl | omega)
  have hb0 := ha0
  obtain ⟨t0, ht0⟩ : ∃ u, u = n0 := ⟨_, rfl⟩
  have htl0 : t0 ≤ 1048576 := by rw [ht0]; omega
  have HT0 := Lib.hid ht0
  have hb0 : Hid (acc 0 (n0 :: (szs x0 ++ (n1 :: (szs x1 ++ [])))) = acc t0 (szs x0 ++ (n1 :: (szs x1 ++ [])))) := Lib.hid (by rw [ht0]; exact hb0.out)
  clear ht0 ha0
  go_wp2_with fail
  go_loop [6, 7, 8] (fun q m i => ∃ k t : Nat, k ≤ n0 ∧ i = .int .i64 k ∧ m = .int .i64 t ∧ t ≤ 1048576 ∧ q = .bool false ∧ Hid (acc 0 (n0 :: (szs x0 ++ (n1 :: (szs x1 ++ [])))) = acc t ((szs x0).drop k ++ (n1 :: (szs x1 ++ []))))) (fun _ _ i => n0 - (intOf i).toNat)
  case atStart => exact ⟨0, t0, Nat.zero_le _, rfl, by (rw [HT0.out]) <;> go_num, htl0, rfl, hb0⟩
  case round =>
    obtain ⟨k, t, hk, rfl, rfl, ht, rfl, HA0⟩ := hrel
    by_cases hlt : k < n0
    · have hlt' : k < x0.length := by rw [HL0.out]; exact hlt
      obtain ⟨x, hx⟩ : ∃ x, x0[k]? = some x := ⟨_, List.getElem?_eq_getElem hlt'⟩
      obtain ⟨g, o, hA, d0⟩ := hc0.out k x hx
      have hxs := hs0.out k x hx
      have HD : Hid (acc 0 (n0 :: (szs x0 ++ (n1 :: (szs x1 ++ [])))) = if 1048576 < x.size then none else if 1048576 < t + x.size then none else acc (t + x.size) ((szs x0).drop (k + 1) ++ (n1 :: (szs x1 ++ [])))) := Lib.hid (by rw [HA0.out, szs_drop hx]; rfl)
      clear hlt' hx
      subst hA
      by_cases h1 : 1048576 < x.size
      · go_wp2_with fail
        go_ret
        rw [HBV.out, HD.out, if_pos h1]
        exact ⟨rfl, rfl⟩
      · by_cases h2 : 1048576 < t + x.size
        · go_wp2_with fail
          go_ret
          rw [HBV.out, HD.out, if_neg h1, if_pos h2]
          exact ⟨rfl, rfl⟩
        · have HD2 := Lib.hid (HD.out.trans ((if_neg h1).trans (if_neg h2)))
          go_wp2_with fail
          go_round
          case rel => exact ⟨k + 1, t + x.size, by omega, by go_num, by go_num, by omega, rfl, HD2⟩
          case measure => simp [intOf]; omega
    · obtain rfl : n0 = k := by omega
      have HE0 : Hid (acc 0 (n0 :: (szs x0 ++ (n1 :: (szs x1 ++ [])))) = acc t (n1 :: (szs x1 ++ []))) := Lib.hid (by rw [HA0.out, szs_end (by rw [HL0.out]; exact Nat.le_refl _)]; rfl)
      have ht90 := ht
      by_cases g1 : 1048576 < n1
      · go_wp2_with fail
        go_ret
        rw [HBV.out, HE0.out]
        have e : acc t (n1 :: (szs x1 ++ [])) = none := by
          simp only [acc]
          repeat' split
          all_goals first | rfl | omega
        rw [e]
        exact ⟨rfl, rfl⟩
      by_cases g2 : 1048576 < t + n1
      · go_wp2_with fail
        go_ret
        rw [HBV.out, HE0.out]
        have e : acc t (n1 :: (szs x1 ++ [])) = none := by
          simp only [acc]
          repeat' split
          all_goals first | rfl | omega
        rw [e]
        exact ⟨rfl, rfl⟩
      have ha1 : Hid (acc t (n1 :: (szs x1 ++ [])) = acc (t + n1) (szs x1 ++ [])) := Lib.hid (by
        simp only [acc]
        repeat' split
        all_goals first | rfl | omega)
      have hb1 := Lib.hid (HE0.out.trans ha1.out)
      obtain ⟨t1, ht1⟩ : ∃ u, u = t + n1 := ⟨_, rfl⟩
      have htl1 : t1 ≤ 1048576 := by rw [ht1]; omega
      have HT1 := Lib.hid ht1
      have hb1 : Hid (acc 0 (n0 :: (szs x0 ++ (n1 :: (szs x1 ++ [])))) = acc t1 (szs x1 ++ [])) := Lib.hid (by rw [ht1]; exact hb1.out)
      clear ht1 ha1
      go_wp2_with fail
      go_loop [6, 7, 9] (fun q m i => ∃ k t : Nat, k ≤ n1 ∧ i = .int .i64 k ∧ m = .int .i64 t ∧ t ≤ 1048576 ∧ q = .bool false ∧ Hid (acc 0 (n0 :: (szs x0 ++ (n1 :: (szs x1 ++ [])))) = acc t ((szs x1).drop k ++ []))) (fun _ _ i => n1 - (intOf i).toNat)
      case atStart => exact ⟨0, t1, Nat.zero_le _, rfl, by (rw [HT1.out]) <;> go_num, htl1, rfl, hb1⟩
      case round =>
        obtain ⟨k, t, hk, rfl, rfl, ht, rfl, HA1⟩ := hrel
        by_cases hlt : k < n1
        · have hlt' : k < x1.length := by rw [HL1.out]; exact hlt
          obtain ⟨x, hx⟩ : ∃ x, x1[k]? = some x := ⟨_, List.getElem?_eq_getElem hlt'⟩
          obtain ⟨g, o, hA, d0⟩ := hc1.out k x hx
          have hxs := hs1.out k x hx
          have HD : Hid (acc 0 (n0 :: (szs x0 ++ (n1 :: (szs x1 ++ [])))) = if 1048576 < x.size then none else if 1048576 < t + x.size then none else acc (t + x.size) ((szs x1).drop (k + 1) ++ [])) := Lib.hid (by rw [HA1.out, szs_drop hx]; rfl)
          clear hlt' hx
          subst hA
          by_cases h1 : 1048576 < x.size
          · go_wp2_with fail
            go_ret
            rw [HBV.out, HD.out, if_pos h1]
            exact ⟨rfl, rfl⟩
          · by_cases h2 : 1048576 < t + x.size
            · go_wp2_with fail
              go_ret
              rw [HBV.out, HD.out, if_neg h1, if_pos h2]
              exact ⟨rfl, rfl⟩
            · have HD2 := Lib.hid (HD.out.trans ((if_neg h1).trans (if_neg h2)))
              go_wp2_with fail
              go_round
              case rel => exact ⟨k + 1, t + x.size, by omega, by go_num, by go_num, by omega, rfl, HD2⟩
              case measure => simp [intOf]; omega
        · obtain rfl : n1 = k := by omega
          have HE1 : Hid (acc 0 (n0 :: (szs x0 ++ (n1 :: (szs x1 ++ [])))) = acc t []) := Lib.hid (by rw [HA1.out, szs_end (by rw [HL1.out]; exact Nat.le_refl _)]; rfl)
          have ht91 := ht
          go_wp2_with fail
          go_ret
          rw [HBV.out, HE1.out]
          have e : (acc t []).isSome = true := by
            simp only [acc]
            repeat' split
            all_goals first | rfl | omega
          rw [e]
          exact ⟨rfl, rfl⟩

end Go.Proofs.YtcemnjieahpcnaaFmt
