/-
  The bound on the total length, laid by program.
-/
import Derived.Test.YtafgbgdehpcapaaGreatFmtHK
namespace Go.Proofs.YtafgbgdehpcapaaGreatFmt
open Go.RowKit


theorem rd_cap {w : World} {P : Nat → Prop} {A : Option Addr} {n c : Nat} {l : List Value} (h : RdV P w (.slice A n c) l) : n ≤ c ∧ c ≤ 9223372036854775807 := by
  obtain ⟨_, _, e, h1, h2, _⟩ := h
  cases e
  unfold maxLen at h2
  exact ⟨h1, by omega⟩

set_option maxRecDepth 100000 in
set_option maxHeartbeats 1600000 in
theorem zb_FnBracesSeqStopsAt16384 {w : World} (p0 : ByteArray) (p1 : ByteArray) (p2 : ByteArray) {A3 : Option Addr} {n3 c3 : Nat} {x3 : List ByteArray} {P3 : Nat → Prop} {A4 : Option Addr} {n4 c4 : Nat} {x4 : List ByteArray} {P4 : Nat → Prop} (s0 : p0.size ≤ 9223372036854775807) (s1 : p1.size ≤ 9223372036854775807) (s2 : p2.size ≤ 9223372036854775807) (h3 : RdV P3 w (.slice A3 n3 c3) (strV x3)) (z3 : ∀ x ∈ x3, x.size ≤ 9223372036854775807) (h4 : RdV P4 w (.slice A4 n4 c4) (strV x4)) (z4 : ∀ x ∈ x4, x.size ≤ 9223372036854775807) : Calls Tryz.prog 13 #[.string p0, .string p1, .string p2, .slice A3 n3 c3, .slice A4 n4 c4] w fun e w' => e = .returned (.bool (acc 0 (p0.size :: (p1.size :: (p2.size :: (n3 :: (szs x3 ++ (n4 :: (szs x4 ++ [])))))))).isSome) ∧ w = w' := by
  have l3 := strs_len h3
  have hc3 := strs_at h3
  have hs3 : Hid (∀ (k : Nat) (x : ByteArray), x3[k]? = some x → x.size ≤ 9223372036854775807) := Lib.hid (fun k x hx => z3 x (List.mem_of_getElem? hx))
  have HL3 := Lib.hid l3
  have q3 := rd_cap h3
  obtain ⟨qa3, qb3⟩ := q3
  have l4 := strs_len h4
  have hc4 := strs_at h4
  have hs4 : Hid (∀ (k : Nat) (x : ByteArray), x4[k]? = some x → x.size ≤ 9223372036854775807) := Lib.hid (fun k x hx => z4 x (List.mem_of_getElem? hx))
  have HL4 := Lib.hid l4
  have q4 := rd_cap h4
  obtain ⟨qa4, qb4⟩ := q4
  clear l3 h3 z3 l4 h4 z4
  obtain ⟨bv, hbv⟩ : ∃ b, b = (acc 0 (p0.size :: (p1.size :: (p2.size :: (n3 :: (szs x3 ++ (n4 :: (szs x4 ++ [])))))))).isSome := ⟨_, rfl⟩
  rw [← hbv]
  have HBV := Lib.hid hbv
  clear hbv
  go_enter Tryz.func13, Tryz.ntmps13
  by_cases g0 : 1048576 < p0.size
  · go_wp2_with fail
    go_ret
    rw [HBV.out]
    have e : acc 0 (p0.size :: (p1.size :: (p2.size :: (n3 :: (szs x3 ++ (n4 :: (szs x4 ++ []))))))) = none := by
      simp only [acc, Nat.zero_add]
      repeat' split
      all_goals first | rfl | omega
    rw [e]
    exact ⟨rfl, rfl⟩
  by_cases g1 : 1048576 < p1.size
  · go_wp2_with fail
    go_ret
    rw [HBV.out]
    have e : acc 0 (p0.size :: (p1.size :: (p2.size :: (n3 :: (szs x3 ++ (n4 :: (szs x4 ++ []))))))) = none := by
      simp only [acc, Nat.zero_add]
      repeat' split
      all_goals first | rfl | omega
    rw [e]
    exact ⟨rfl, rfl⟩
  by_cases g2 : 1048576 < p0.size + p1.size
  · go_wp2_with fail
    go_ret
    rw [HBV.out]
    have e : acc 0 (p0.size :: (p1.size :: (p2.size :: (n3 :: (szs x3 ++ (n4 :: (szs x4 ++ []))))))) = none := by
      simp only [acc, Nat.zero_add]
      repeat' split
      all_goals first | rfl | omega
    rw [e]
    exact ⟨rfl, rfl⟩
  by_cases g3 : 1048576 < p2.size
  · go_wp2_with fail
    go_ret
    rw [HBV.out]
    have e : acc 0 (p0.size :: (p1.size :: (p2.size :: (n3 :: (szs x3 ++ (n4 :: (szs x4 ++ []))))))) = none := by
      simp only [acc, Nat.zero_add]
      repeat' split
      all_goals first | rfl | omega
    rw [e]
    exact ⟨rfl, rfl⟩
  by_cases g4 : 1048576 < p0.size + p1.size + p2.size
  · go_wp2_with fail
    go_ret
    rw [HBV.out]
    have e : acc 0 (p0.size :: (p1.size :: (p2.size :: (n3 :: (szs x3 ++ (n4 :: (szs x4 ++ []))))))) = none := by
      simp only [acc, Nat.zero_add]
      repeat' split
      all_goals first | rfl | omega
    rw [e]
    exact ⟨rfl, rfl⟩
  by_cases g5 : 1048576 < n3
  · go_wp2_with fail
    go_ret
    rw [HBV.out]
    have e : acc 0 (p0.size :: (p1.size :: (p2.size :: (n3 :: (szs x3 ++ (n4 :: (szs x4 ++ []))))))) = none := by
      simp only [acc, Nat.zero_add]
      repeat' split
      all_goals first | rfl | omega
    rw [e]
    exact ⟨rfl, rfl⟩
  by_cases g6 : 1048576 < p0.size + p1.size + p2.size + n3
  · go_wp2_with fail
    go_ret
    rw [HBV.out]
    have e : acc 0 (p0.size :: (p1.size :: (p2.size :: (n3 :: (szs x3 ++ (n4 :: (szs x4 ++ []))))))) = none := by
      simp only [acc, Nat.zero_add]
      repeat' split
      all_goals first | rfl | omega
    rw [e]
    exact ⟨rfl, rfl⟩
  have ha3 : Hid (acc 0 (p0.size :: (p1.size :: (p2.size :: (n3 :: (szs x3 ++ (n4 :: (szs x4 ++ []))))))) = acc (p0.size + p1.size + p2.size + n3) (szs x3 ++ (n4 :: (szs x4 ++ [])))) := Lib.hid (by
    simp only [acc, Nat.zero_add]
    repeat' split
    all_goals first | rfl | omega)
  have hb3 := ha3
  obtain ⟨t3, ht3⟩ : ∃ u, u = p0.size + p1.size + p2.size + n3 := ⟨_, rfl⟩
  have htl3 : t3 ≤ 1048576 := by rw [ht3]; omega
  have HT3 := Lib.hid ht3
  have hb3 : Hid (acc 0 (p0.size :: (p1.size :: (p2.size :: (n3 :: (szs x3 ++ (n4 :: (szs x4 ++ []))))))) = acc t3 (szs x3 ++ (n4 :: (szs x4 ++ [])))) := Lib.hid (by rw [ht3]; exact hb3.out)
  clear ht3 ha3
  go_wp2_with fail
  go_loop [10, 11, 12] (fun q m i => ∃ k t : Nat, k ≤ n3 ∧ i = .int .i64 k ∧ m = .int .i64 t ∧ t ≤ 1048576 ∧ q = .bool false ∧ Hid (acc 0 (p0.size :: (p1.size :: (p2.size :: (n3 :: (szs x3 ++ (n4 :: (szs x4 ++ []))))))) = acc t ((szs x3).drop k ++ (n4 :: (szs x4 ++ []))))) (fun _ _ i => n3 - (intOf i).toNat)
  case atStart => exact ⟨0, t3, Nat.zero_le _, rfl, by (rw [HT3.out]) <;> go_num, htl3, rfl, hb3⟩
  case round =>
    obtain ⟨k, t, hk, rfl, rfl, ht, rfl, HA3⟩ := hrel
    by_cases hlt : k < n3
    · have hlt' : k < x3.length := by rw [HL3.out]; exact hlt
      obtain ⟨x, hx⟩ : ∃ x, x3[k]? = some x := ⟨_, List.getElem?_eq_getElem hlt'⟩
      obtain ⟨g, o, hA, d0⟩ := hc3.out k x hx
      have hxs := hs3.out k x hx
      have HD : Hid (acc 0 (p0.size :: (p1.size :: (p2.size :: (n3 :: (szs x3 ++ (n4 :: (szs x4 ++ []))))))) = if 1048576 < x.size then none else if 1048576 < t + x.size then none else acc (t + x.size) ((szs x3).drop (k + 1) ++ (n4 :: (szs x4 ++ [])))) := Lib.hid (by rw [HA3.out, szs_drop hx]; rfl)
      clear hlt' hx
      subst hA
      by_cases h1 : 1048576 < x.size
      · go_wp2_with fail
        go_ret
        rw [HBV.out, HD.out, if_pos h1]
        exact ⟨rfl, rfl⟩
      · by_cases h2 : 1048576 < t + x.size
        · go_wp2_with fail
          go_ret
          rw [HBV.out, HD.out, if_neg h1, if_pos h2]
          exact ⟨rfl, rfl⟩
        · have HD2 := Lib.hid (HD.out.trans ((if_neg h1).trans (if_neg h2)))
          go_wp2_with fail
          go_round
          case rel => exact ⟨k + 1, t + x.size, by omega, by go_num, by go_num, by omega, rfl, HD2⟩
          case measure => simp [intOf]; omega
    · obtain rfl : n3 = k := by omega
      have HE3 : Hid (acc 0 (p0.size :: (p1.size :: (p2.size :: (n3 :: (szs x3 ++ (n4 :: (szs x4 ++ []))))))) = acc t (n4 :: (szs x4 ++ []))) := Lib.hid (by rw [HA3.out, szs_end (by rw [HL3.out]; exact Nat.le_refl _)]; rfl)
      have ht93 := ht
      by_cases g7 : 1048576 < n4
      · go_wp2_with fail
        go_ret
        rw [HBV.out, HE3.out]
        have e : acc t (n4 :: (szs x4 ++ [])) = none := by
          simp only [acc]
          repeat' split
          all_goals first | rfl | omega
        rw [e]
        exact ⟨rfl, rfl⟩
      by_cases g8 : 1048576 < t + n4
      · go_wp2_with fail
        go_ret
        rw [HBV.out, HE3.out]
        have e : acc t (n4 :: (szs x4 ++ [])) = none := by
          simp only [acc]
          repeat' split
          all_goals first | rfl | omega
        rw [e]
        exact ⟨rfl, rfl⟩
      have ha4 : Hid (acc t (n4 :: (szs x4 ++ [])) = acc (t + n4) (szs x4 ++ [])) := Lib.hid (by
        simp only [acc]
        repeat' split
        all_goals first | rfl | omega)
      have hb4 := Lib.hid (HE3.out.trans ha4.out)
      obtain ⟨t4, ht4⟩ : ∃ u, u = t + n4 := ⟨_, rfl⟩
      have htl4 : t4 ≤ 1048576 := by rw [ht4]; omega
      have HT4 := Lib.hid ht4
      have hb4 : Hid (acc 0 (p0.size :: (p1.size :: (p2.size :: (n3 :: (szs x3 ++ (n4 :: (szs x4 ++ []))))))) = acc t4 (szs x4 ++ [])) := Lib.hid (by rw [ht4]; exact hb4.out)
      clear ht4 ha4
      go_wp2_with fail
      go_loop [10, 11, 13] (fun q m i => ∃ k t : Nat, k ≤ n4 ∧ i = .int .i64 k ∧ m = .int .i64 t ∧ t ≤ 1048576 ∧ q = .bool false ∧ Hid (acc 0 (p0.size :: (p1.size :: (p2.size :: (n3 :: (szs x3 ++ (n4 :: (szs x4 ++ []))))))) = acc t ((szs x4).drop k ++ []))) (fun _ _ i => n4 - (intOf i).toNat)
      case atStart => exact ⟨0, t4, Nat.zero_le _, rfl, by (rw [HT4.out]) <;> go_num, htl4, rfl, hb4⟩
      case round =>
        obtain ⟨k, t, hk, rfl, rfl, ht, rfl, HA4⟩ := hrel
        by_cases hlt : k < n4
        · have hlt' : k < x4.length := by rw [HL4.out]; exact hlt
          obtain ⟨x, hx⟩ : ∃ x, x4[k]? = some x := ⟨_, List.getElem?_eq_getElem hlt'⟩
          obtain ⟨g, o, hA, d0⟩ := hc4.out k x hx
          have hxs := hs4.out k x hx
          have HD : Hid (acc 0 (p0.size :: (p1.size :: (p2.size :: (n3 :: (szs x3 ++ (n4 :: (szs x4 ++ []))))))) = if 1048576 < x.size then none else if 1048576 < t + x.size then none else acc (t + x.size) ((szs x4).drop (k + 1) ++ [])) := Lib.hid (by rw [HA4.out, szs_drop hx]; rfl)
          clear hlt' hx
          subst hA
          by_cases h1 : 1048576 < x.size
          · go_wp2_with fail
            go_ret
            rw [HBV.out, HD.out, if_pos h1]
            exact ⟨rfl, rfl⟩
          · by_cases h2 : 1048576 < t + x.size
            · go_wp2_with fail
              go_ret
              rw [HBV.out, HD.out, if_neg h1, if_pos h2]
              exact ⟨rfl, rfl⟩
            · have HD2 := Lib.hid (HD.out.trans ((if_neg h1).trans (if_neg h2)))
              go_wp2_with fail
              go_round
              case rel => exact ⟨k + 1, t + x.size, by omega, by go_num, by go_num, by omega, rfl, HD2⟩
              case measure => simp [intOf]; omega
        · obtain rfl : n4 = k := by omega
          have HE4 : Hid (acc 0 (p0.size :: (p1.size :: (p2.size :: (n3 :: (szs x3 ++ (n4 :: (szs x4 ++ []))))))) = acc t []) := Lib.hid (by rw [HA4.out, szs_end (by rw [HL4.out]; exact Nat.le_refl _)]; rfl)
          have ht94 := ht
          go_wp2_with fail
          go_ret
          rw [HBV.out, HE4.out]
          have e : (acc t []).isSome = true := by
            simp only [acc]
            repeat' split
            all_goals first | rfl | omega
          rw [e]
          exact ⟨rfl, rfl⟩

set_option maxRecDepth 100000 in
set_option maxHeartbeats 1600000 in
theorem zb_FnBracesSeqAgreesWithBraces {w : World} (p0 : ByteArray) (p1 : ByteArray) (p2 : ByteArray) {A3 : Option Addr} {n3 c3 : Nat} {x3 : List ByteArray} {P3 : Nat → Prop} {A4 : Option Addr} {n4 c4 : Nat} {x4 : List ByteArray} {P4 : Nat → Prop} (p5 : Int) (s0 : p0.size ≤ 9223372036854775807) (s1 : p1.size ≤ 9223372036854775807) (s2 : p2.size ≤ 9223372036854775807) (h3 : RdV P3 w (.slice A3 n3 c3) (strV x3)) (z3 : ∀ x ∈ x3, x.size ≤ 9223372036854775807) (h4 : RdV P4 w (.slice A4 n4 c4) (strV x4)) (z4 : ∀ x ∈ x4, x.size ≤ 9223372036854775807) : Calls Tryz.prog 5 #[.string p0, .string p1, .string p2, .slice A3 n3 c3, .slice A4 n4 c4, .int .i64 p5] w fun e w' => e = .returned (.bool (acc 0 (p0.size :: (p1.size :: (p2.size :: (n3 :: (szs x3 ++ (n4 :: (szs x4 ++ [])))))))).isSome) ∧ w = w' := by
  have l3 := strs_len h3
  have hc3 := strs_at h3
  have hs3 : Hid (∀ (k : Nat) (x : ByteArray), x3[k]? = some x → x.size ≤ 9223372036854775807) := Lib.hid (fun k x hx => z3 x (List.mem_of_getElem? hx))
  have HL3 := Lib.hid l3
  have q3 := rd_cap h3
  obtain ⟨qa3, qb3⟩ := q3
  have l4 := strs_len h4
  have hc4 := strs_at h4
  have hs4 : Hid (∀ (k : Nat) (x : ByteArray), x4[k]? = some x → x.size ≤ 9223372036854775807) := Lib.hid (fun k x hx => z4 x (List.mem_of_getElem? hx))
  have HL4 := Lib.hid l4
  have q4 := rd_cap h4
  obtain ⟨qa4, qb4⟩ := q4
  clear l3 h3 z3 l4 h4 z4
  obtain ⟨bv, hbv⟩ : ∃ b, b = (acc 0 (p0.size :: (p1.size :: (p2.size :: (n3 :: (szs x3 ++ (n4 :: (szs x4 ++ [])))))))).isSome := ⟨_, rfl⟩
  rw [← hbv]
  have HBV := Lib.hid hbv
  clear hbv
  go_enter Tryz.func5, Tryz.ntmps5
  by_cases g0 : 1048576 < p0.size
  · go_wp2_with fail
    go_ret
    rw [HBV.out]
    have e : acc 0 (p0.size :: (p1.size :: (p2.size :: (n3 :: (szs x3 ++ (n4 :: (szs x4 ++ []))))))) = none := by
      simp only [acc, Nat.zero_add]
      repeat' split
      all_goals first | rfl | omega
    rw [e]
    exact ⟨rfl, rfl⟩
  by_cases g1 : 1048576 < p1.size
  · go_wp2_with fail
    go_ret
    rw [HBV.out]
    have e : acc 0 (p0.size :: (p1.size :: (p2.size :: (n3 :: (szs x3 ++ (n4 :: (szs x4 ++ []))))))) = none := by
      simp only [acc, Nat.zero_add]
      repeat' split
      all_goals first | rfl | omega
    rw [e]
    exact ⟨rfl, rfl⟩
  by_cases g2 : 1048576 < p0.size + p1.size
  · go_wp2_with fail
    go_ret
    rw [HBV.out]
    have e : acc 0 (p0.size :: (p1.size :: (p2.size :: (n3 :: (szs x3 ++ (n4 :: (szs x4 ++ []))))))) = none := by
      simp only [acc, Nat.zero_add]
      repeat' split
      all_goals first | rfl | omega
    rw [e]
    exact ⟨rfl, rfl⟩
  by_cases g3 : 1048576 < p2.size
  · go_wp2_with fail
    go_ret
    rw [HBV.out]
    have e : acc 0 (p0.size :: (p1.size :: (p2.size :: (n3 :: (szs x3 ++ (n4 :: (szs x4 ++ []))))))) = none := by
      simp only [acc, Nat.zero_add]
      repeat' split
      all_goals first | rfl | omega
    rw [e]
    exact ⟨rfl, rfl⟩
  by_cases g4 : 1048576 < p0.size + p1.size + p2.size
  · go_wp2_with fail
    go_ret
    rw [HBV.out]
    have e : acc 0 (p0.size :: (p1.size :: (p2.size :: (n3 :: (szs x3 ++ (n4 :: (szs x4 ++ []))))))) = none := by
      simp only [acc, Nat.zero_add]
      repeat' split
      all_goals first | rfl | omega
    rw [e]
    exact ⟨rfl, rfl⟩
  by_cases g5 : 1048576 < n3
  · go_wp2_with fail
    go_ret
    rw [HBV.out]
    have e : acc 0 (p0.size :: (p1.size :: (p2.size :: (n3 :: (szs x3 ++ (n4 :: (szs x4 ++ []))))))) = none := by
      simp only [acc, Nat.zero_add]
      repeat' split
      all_goals first | rfl | omega
    rw [e]
    exact ⟨rfl, rfl⟩
  by_cases g6 : 1048576 < p0.size + p1.size + p2.size + n3
  · go_wp2_with fail
    go_ret
    rw [HBV.out]
    have e : acc 0 (p0.size :: (p1.size :: (p2.size :: (n3 :: (szs x3 ++ (n4 :: (szs x4 ++ []))))))) = none := by
      simp only [acc, Nat.zero_add]
      repeat' split
      all_goals first | rfl | omega
    rw [e]
    exact ⟨rfl, rfl⟩
  have ha3 : Hid (acc 0 (p0.size :: (p1.size :: (p2.size :: (n3 :: (szs x3 ++ (n4 :: (szs x4 ++ []))))))) = acc (p0.size + p1.size + p2.size + n3) (szs x3 ++ (n4 :: (szs x4 ++ [])))) := Lib.hid (by
    simp only [acc, Nat.zero_add]
    repeat' split
    all_goals first | rfl | omega)
  have hb3 := ha3
  obtain ⟨t3, ht3⟩ : ∃ u, u = p0.size + p1.size + p2.size + n3 := ⟨_, rfl⟩
  have htl3 : t3 ≤ 1048576 := by rw [ht3]; omega
  have HT3 := Lib.hid ht3
  have hb3 : Hid (acc 0 (p0.size :: (p1.size :: (p2.size :: (n3 :: (szs x3 ++ (n4 :: (szs x4 ++ []))))))) = acc t3 (szs x3 ++ (n4 :: (szs x4 ++ [])))) := Lib.hid (by rw [ht3]; exact hb3.out)
  clear ht3 ha3
  go_wp2_with fail
  go_loop [12, 13, 14] (fun q m i => ∃ k t : Nat, k ≤ n3 ∧ i = .int .i64 k ∧ m = .int .i64 t ∧ t ≤ 1048576 ∧ q = .bool false ∧ Hid (acc 0 (p0.size :: (p1.size :: (p2.size :: (n3 :: (szs x3 ++ (n4 :: (szs x4 ++ []))))))) = acc t ((szs x3).drop k ++ (n4 :: (szs x4 ++ []))))) (fun _ _ i => n3 - (intOf i).toNat)
  case atStart => exact ⟨0, t3, Nat.zero_le _, rfl, by (rw [HT3.out]) <;> go_num, htl3, rfl, hb3⟩
  case round =>
    obtain ⟨k, t, hk, rfl, rfl, ht, rfl, HA3⟩ := hrel
    by_cases hlt : k < n3
    · have hlt' : k < x3.length := by rw [HL3.out]; exact hlt
      obtain ⟨x, hx⟩ : ∃ x, x3[k]? = some x := ⟨_, List.getElem?_eq_getElem hlt'⟩
      obtain ⟨g, o, hA, d0⟩ := hc3.out k x hx
      have hxs := hs3.out k x hx
      have HD : Hid (acc 0 (p0.size :: (p1.size :: (p2.size :: (n3 :: (szs x3 ++ (n4 :: (szs x4 ++ []))))))) = if 1048576 < x.size then none else if 1048576 < t + x.size then none else acc (t + x.size) ((szs x3).drop (k + 1) ++ (n4 :: (szs x4 ++ [])))) := Lib.hid (by rw [HA3.out, szs_drop hx]; rfl)
      clear hlt' hx
      subst hA
      by_cases h1 : 1048576 < x.size
      · go_wp2_with fail
        go_ret
        rw [HBV.out, HD.out, if_pos h1]
        exact ⟨rfl, rfl⟩
      · by_cases h2 : 1048576 < t + x.size
        · go_wp2_with fail
          go_ret
          rw [HBV.out, HD.out, if_neg h1, if_pos h2]
          exact ⟨rfl, rfl⟩
        · have HD2 := Lib.hid (HD.out.trans ((if_neg h1).trans (if_neg h2)))
          go_wp2_with fail
          go_round
          case rel => exact ⟨k + 1, t + x.size, by omega, by go_num, by go_num, by omega, rfl, HD2⟩
          case measure => simp [intOf]; omega
    · obtain rfl : n3 = k := by omega
      have HE3 : Hid (acc 0 (p0.size :: (p1.size :: (p2.size :: (n3 :: (szs x3 ++ (n4 :: (szs x4 ++ []))))))) = acc t (n4 :: (szs x4 ++ []))) := Lib.hid (by rw [HA3.out, szs_end (by rw [HL3.out]; exact Nat.le_refl _)]; rfl)
      have ht93 := ht
      by_cases g7 : 1048576 < n4
      · go_wp2_with fail
        go_ret
        rw [HBV.out, HE3.out]
        have e : acc t (n4 :: (szs x4 ++ [])) = none := by
          simp only [acc]
          repeat' split
          all_goals first | rfl | omega
        rw [e]
        exact ⟨rfl, rfl⟩
      by_cases g8 : 1048576 < t + n4
      · go_wp2_with fail
        go_ret
        rw [HBV.out, HE3.out]
        have e : acc t (n4 :: (szs x4 ++ [])) = none := by
          simp only [acc]
          repeat' split
          all_goals first | rfl | omega
        rw [e]
        exact ⟨rfl, rfl⟩
      have ha4 : Hid (acc t (n4 :: (szs x4 ++ [])) = acc (t + n4) (szs x4 ++ [])) := Lib.hid (by
        simp only [acc]
        repeat' split
        all_goals first | rfl | omega)
      have hb4 := Lib.hid (HE3.out.trans ha4.out)
      obtain ⟨t4, ht4⟩ : ∃ u, u = t + n4 := ⟨_, rfl⟩
      have htl4 : t4 ≤ 1048576 := by rw [ht4]; omega
      have HT4 := Lib.hid ht4
      have hb4 : Hid (acc 0 (p0.size :: (p1.size :: (p2.size :: (n3 :: (szs x3 ++ (n4 :: (szs x4 ++ []))))))) = acc t4 (szs x4 ++ [])) := Lib.hid (by rw [ht4]; exact hb4.out)
      clear ht4 ha4
      go_wp2_with fail
      go_loop [12, 13, 15] (fun q m i => ∃ k t : Nat, k ≤ n4 ∧ i = .int .i64 k ∧ m = .int .i64 t ∧ t ≤ 1048576 ∧ q = .bool false ∧ Hid (acc 0 (p0.size :: (p1.size :: (p2.size :: (n3 :: (szs x3 ++ (n4 :: (szs x4 ++ []))))))) = acc t ((szs x4).drop k ++ []))) (fun _ _ i => n4 - (intOf i).toNat)
      case atStart => exact ⟨0, t4, Nat.zero_le _, rfl, by (rw [HT4.out]) <;> go_num, htl4, rfl, hb4⟩
      case round =>
        obtain ⟨k, t, hk, rfl, rfl, ht, rfl, HA4⟩ := hrel
        by_cases hlt : k < n4
        · have hlt' : k < x4.length := by rw [HL4.out]; exact hlt
          obtain ⟨x, hx⟩ : ∃ x, x4[k]? = some x := ⟨_, List.getElem?_eq_getElem hlt'⟩
          obtain ⟨g, o, hA, d0⟩ := hc4.out k x hx
          have hxs := hs4.out k x hx
          have HD : Hid (acc 0 (p0.size :: (p1.size :: (p2.size :: (n3 :: (szs x3 ++ (n4 :: (szs x4 ++ []))))))) = if 1048576 < x.size then none else if 1048576 < t + x.size then none else acc (t + x.size) ((szs x4).drop (k + 1) ++ [])) := Lib.hid (by rw [HA4.out, szs_drop hx]; rfl)
          clear hlt' hx
          subst hA
          by_cases h1 : 1048576 < x.size
          · go_wp2_with fail
            go_ret
            rw [HBV.out, HD.out, if_pos h1]
            exact ⟨rfl, rfl⟩
          · by_cases h2 : 1048576 < t + x.size
            · go_wp2_with fail
              go_ret
              rw [HBV.out, HD.out, if_neg h1, if_pos h2]
              exact ⟨rfl, rfl⟩
            · have HD2 := Lib.hid (HD.out.trans ((if_neg h1).trans (if_neg h2)))
              go_wp2_with fail
              go_round
              case rel => exact ⟨k + 1, t + x.size, by omega, by go_num, by go_num, by omega, rfl, HD2⟩
              case measure => simp [intOf]; omega
        · obtain rfl : n4 = k := by omega
          have HE4 : Hid (acc 0 (p0.size :: (p1.size :: (p2.size :: (n3 :: (szs x3 ++ (n4 :: (szs x4 ++ []))))))) = acc t []) := Lib.hid (by rw [HA4.out, szs_end (by rw [HL4.out]; exact Nat.le_refl _)]; rfl)
          have ht94 := ht
          go_wp2_with fail
          go_ret
          rw [HBV.out, HE4.out]
          have e : (acc t []).isSome = true := by
            simp only [acc]
            repeat' split
            all_goals first | rfl | omega
          rw [e]
          exact ⟨rfl, rfl⟩

end Go.Proofs.YtafgbgdehpcapaaGreatFmt
