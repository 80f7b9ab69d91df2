/-
  n010_145: FnAdvanceLitNoneStopsAtBlank, walked.
-/
import Derived.Test.YtejlgdiepjiodaaFmtQz
import Derived.Test.YtejlgdiepjiodaaFmtQo
namespace Go.Proofs.YtejlgdiepjiodaaFmt
open Go.RowKit

set_option maxRecDepth 100000 in
set_option maxHeartbeats 1600000 in
theorem zb_FnAdvanceLitNoneStopsAtBlank {w : World} (p0 : ByteArray) (p1 : ByteArray) (p2 : ByteArray) (s0 : p0.size ≤ 9223372036854775807) (s1 : p1.size ≤ 9223372036854775807) (s2 : p2.size ≤ 9223372036854775807) : Calls Tryf.prog 16 #[.string p0, .string p1, .string p2] w fun e w' => e = .returned (.bool (acc 0 (p0.size :: (p1.size :: (p2.size :: [])))).isSome) ∧ w = w' := by
  obtain ⟨bv, hbv⟩ : ∃ b, b = (acc 0 (p0.size :: (p1.size :: (p2.size :: [])))).isSome := ⟨_, rfl⟩
  rw [← hbv]
  have HBV := Lib.hid hbv
  clear hbv
  go_enter Tryf.func16, Tryf.ntmps16
  by_cases g0 : 1048576 < p0.size
  · go_wp2_with fail
    go_ret
    rw [HBV.out]
    have e : acc 0 (p0.size :: (p1.size :: (p2.size :: []))) = none := by
      simp only [acc, Nat.zero_add]
      repeat' split
      all_goals first | rfl | omega
    rw [e]
    exact ⟨rfl, rfl⟩
  by_cases g1 : 1048576 < p1.size
  · go_wp2_with fail
    go_ret
    rw [HBV.out]
    have e : acc 0 (p0.size :: (p1.size :: (p2.size :: []))) = none := by
      simp only [acc, Nat.zero_add]
      repeat' split
      all_goals first | rfl | omega
    rw [e]
    exact ⟨rfl, rfl⟩
  by_cases g2 : 1048576 < p0.size + p1.size
  · go_wp2_with fail
    go_ret
    rw [HBV.out]
    have e : acc 0 (p0.size :: (p1.size :: (p2.size :: []))) = none := by
      simp only [acc, Nat.zero_add]
      repeat' split
      all_goals first | rfl | omega
    rw [e]
    exact ⟨rfl, rfl⟩
  by_cases g3 : 1048576 < p2.size
  · go_wp2_with fail
    go_ret
    rw [HBV.out]
    have e : acc 0 (p0.size :: (p1.size :: (p2.size :: []))) = none := by
      simp only [acc, Nat.zero_add]
      repeat' split
      all_goals first | rfl | omega
    rw [e]
    exact ⟨rfl, rfl⟩
  by_cases g4 : 1048576 < p0.size + p1.size + p2.size
  · go_wp2_with fail
    go_ret
    rw [HBV.out]
    have e : acc 0 (p0.size :: (p1.size :: (p2.size :: []))) = none := by
      simp only [acc, Nat.zero_add]
      repeat' split
      all_goals first | rfl | omega
    rw [e]
    exact ⟨rfl, rfl⟩
  go_wp2_with fail
  go_ret
  rw [HBV.out]
  have e : (acc 0 (p0.size :: (p1.size :: (p2.size :: [])))).isSome = true := by
    simp only [acc, Nat.zero_add]
    repeat' split
    all_goals first | rfl | omega
  rw [e]
  exact ⟨rfl, rfl⟩

def alphaN (c : UInt8) : Bool := decide (c.toNat < 128 ∧ c.toNat ≠ 0 ∧ c.toNat ≠ 92)
def allN (l : List UInt8) : Bool := l.all alphaN
set_option maxRecDepth 100000 in
set_option maxHeartbeats 800000 in
theorem noalpha (s : ByteArray) (w : World) (hs : s.size ≤ 10000000) :
    Calls Tryf.prog 17 #[.string s] w fun e w' => e = .returned (.bool (allN s.data.toList)) ∧ w = w' := by
  go_enter Tryf.func17, Tryf.ntmps17
  go_wp2
  go_loop [3, 4] (fun i _ => ∃ k : Nat, k ≤ s.size ∧ i = .int .i64 k ∧ Hid (∀ (j : Nat) (c : UInt8), j < k → s.data.toList[j]? = some c → alphaN c = true)) (fun i _ => s.size - (intOfV i).toNat)
  case atStart => exact ⟨0, Nat.zero_le _, rfl, Lib.hid (fun j c h => absurd h (by omega))⟩
  case round =>
    obtain ⟨k, hk, rfl, HN⟩ := hrel
    by_cases hlt : k < s.size
    · have hat := Lib.hid (str_at2 hlt)
      cases hx : alphaN s[k] with
      | false =>
        have HF : Hid (allN s.data.toList = false) := Lib.hid (by
          unfold allN
          rw [List.all_eq_false]
          exact ⟨s[k], List.mem_of_getElem? hat.out, by simp [hx]⟩)
        have hx' : ¬ (s[k].toNat < 128 ∧ s[k].toNat ≠ 0 ∧ s[k].toNat ≠ 92) := of_decide_eq_false hx
        clear hx
        by_cases h0 : (s[k].toNat : Int) = 0
        · clear hx'
          go_wp2
          go_ret
          rw [HF.out]
          exact ⟨rfl, rfl⟩
        have g0 : ((s[k].toNat : Int) == 0) = false := by simpa using h0
        by_cases h1 : (128 : Int) ≤ (s[k].toNat : Int)
        · clear hx'
          go_wp2
          go_ret
          rw [HF.out]
          exact ⟨rfl, rfl⟩
        have h2 : (s[k].toNat : Int) = 92 := by omega
        clear hx'
        go_wp2
        go_ret
        rw [HF.out]
        exact ⟨rfl, rfl⟩
      | true =>
        have hx' : s[k].toNat < 128 ∧ s[k].toNat ≠ 0 ∧ s[k].toNat ≠ 92 := of_decide_eq_true hx
        have HX := Lib.hid hx
        have g0 : ((s[k].toNat : Int) == 0) = false := by simp; omega
        have g1 : ¬ (128 : Int) ≤ (s[k].toNat : Int) := by omega
        have g2 : ((s[k].toNat : Int) == 92) = false := by simp; omega
        clear hx hx'
        go_wp2
        go_round
        case rel => exact ⟨k + 1, by omega, by go_num, Lib.hid (fun j c hj hc => by
          by_cases e : j = k
          · subst e; rw [hat.out] at hc; rw [← Option.some.inj hc]; exact HX.out
          · exact HN.out j c (by omega) hc)⟩
        case measure => simp [intOfV]; omega
    · obtain rfl : k = s.size := by omega
      have HF : Hid (allN s.data.toList = true) := Lib.hid (by
        unfold allN
        rw [List.all_eq_true]
        intro c hc
        obtain ⟨j, hj, e⟩ := List.mem_iff_getElem.1 hc
        exact HN.out j c hj (by rw [List.getElem?_eq_getElem hj, e]))
      go_wp2
      go_ret
      rw [HF.out]
      exact ⟨rfl, rfl⟩


def noZ (s : ByteArray) : Bool := allN s.data.toList
theorem noz (s : ByteArray) (hs : s.size ≤ 10000000) (w : World) : Calls Tryf.prog 17 #[.string s] w fun e w' => e = .returned (.bool (noZ s)) ∧ w = w' := noalpha s w hs
theorem noZ_al {s : ByteArray} (h : noZ s = true) : ∀ y ∈ s.data.toList, alN y := fun y hy => (of_decide_eq_true (List.all_eq_true.1 (show s.data.toList.all alphaN = true from h) y hy) : y.toNat < 128 ∧ y.toNat ≠ 0 ∧ y.toNat ≠ 92)

theorem acc_three {a b c : Nat} (h : (acc 0 [a, b, c]).isSome = true) : a ≤ 1048576 ∧ b ≤ 1048576 ∧ c ≤ 1048576 ∧ a + b + c ≤ 1048576 := by
  simp only [acc] at h
  repeat' split at h
  all_goals first | omega | (simp at h)

theorem skip1_nb (w : World) (b x y : ByteArray) (h1 : b.size ≤ 9223372036854775807) (h2 : x.size ≤ 9223372036854775807) (h3 : y.size ≤ 9223372036854775807) (h : (acc 0 [b.size, x.size, y.size]).isSome = false) : Calls Tryf.prog 6 #[.string b, .string x, .string y] w fun e w' => e = .returned (.bool true) ∧ Kept [] w w' := by
  have HB := Lib.hid (fun w => zb_FnAdvanceLitNoneStopsAtBlank (w := w) b x y h1 h2 h3)
  rw [h] at HB
  clear h
  go_enter Tryf.func6, Tryf.ntmps6
  go_wp2_with (go_at_call 16; refine (HB.out _).mono ?_; rintro e w' ⟨rfl, rfl⟩)
  go_ret
  exact ⟨rfl, Kept.refl _ _⟩
set_option maxRecDepth 100000 in
set_option maxHeartbeats 8000000 in
theorem skip2_nb (w : World) (b x y : ByteArray) (h : (acc 0 [b.size, x.size, y.size]).isSome = true) (g0 : noZ b = false) : Calls Tryf.prog 6 #[.string b, .string x, .string y] w fun e w' => e = .returned (.bool true) ∧ Kept [] w w' := by
  obtain ⟨h1, h2, h3, h4⟩ := acc_three h
  have HB := Lib.hid (fun w => zb_FnAdvanceLitNoneStopsAtBlank (w := w) b x y (by omega) (by omega) (by omega))
  rw [h] at HB
  clear h
  go_enter Tryf.func6, Tryf.ntmps6
  go_wp2_with (first | (go_at_call 16; refine (HB.out _).mono ?_; rintro e w' ⟨rfl, rfl⟩) | (go_at_call 17; refine (noz _ (by omega) _).mono ?_; rintro e w' ⟨rfl, rfl⟩))
  go_ret
  exact ⟨rfl, Kept.refl _ _⟩
set_option maxRecDepth 100000 in
set_option maxHeartbeats 8000000 in
theorem skip3_nb (w : World) (b x y : ByteArray) (h : (acc 0 [b.size, x.size, y.size]).isSome = true) (g0 : noZ b = true) (hp : 0 < b.size) (hv : ((b[0]).toNat : Int) = 60) : Calls Tryf.prog 6 #[.string b, .string x, .string y] w fun e w' => e = .returned (.bool true) ∧ Kept [] w w' := by
  obtain ⟨h1, h2, h3, h4⟩ := acc_three h
  have HB := Lib.hid (fun w => zb_FnAdvanceLitNoneStopsAtBlank (w := w) b x y (by omega) (by omega) (by omega))
  rw [h] at HB
  clear h
  go_enter Tryf.func6, Tryf.ntmps6
  go_wp2_with (first | (go_at_call 16; refine (HB.out _).mono ?_; rintro e w' ⟨rfl, rfl⟩) | (go_at_call 17; refine (noz _ (by omega) _).mono ?_; rintro e w' ⟨rfl, rfl⟩))
  go_ret
  exact ⟨rfl, Kept.refl _ _⟩
set_option maxRecDepth 100000 in
set_option maxHeartbeats 8000000 in
theorem skip4_nb (w : World) (b x y : ByteArray) (h : (acc 0 [b.size, x.size, y.size]).isSome = true) (g0 : noZ b = true) (hp : 0 < b.size) (hv : ((b[0]).toNat : Int) = 62) : Calls Tryf.prog 6 #[.string b, .string x, .string y] w fun e w' => e = .returned (.bool true) ∧ Kept [] w w' := by
  obtain ⟨h1, h2, h3, h4⟩ := acc_three h
  have HB := Lib.hid (fun w => zb_FnAdvanceLitNoneStopsAtBlank (w := w) b x y (by omega) (by omega) (by omega))
  rw [h] at HB
  clear h
  go_enter Tryf.func6, Tryf.ntmps6
  go_wp2_with (first | (go_at_call 16; refine (HB.out _).mono ?_; rintro e w' ⟨rfl, rfl⟩) | (go_at_call 17; refine (noz _ (by omega) _).mono ?_; rintro e w' ⟨rfl, rfl⟩))
  go_ret
  exact ⟨rfl, Kept.refl _ _⟩
set_option maxRecDepth 100000 in
set_option maxHeartbeats 8000000 in
theorem ok0_nb (w : World) (b x y : ByteArray) (h : (acc 0 [b.size, x.size, y.size]).isSome = true) (g0 : noZ b = true) (hp : b.size = 0) {tt ee rr : Int} (h6 : Calls Tryf.prog 18 #[.string (b ++ ⟨#[32]⟩ ++ x)] w fun e w' => e = .returned (.tuple #[.int .u32 tt, .string ⟨#[]⟩, .int .i64 ee, .int .i32 rr]) ∧ Kept [] w w') (h7 : ∀ w1, Kept [] w w1 → Calls Tryf.prog 18 #[.string (b ++ ⟨#[32]⟩ ++ y)] w1 fun e w' => e = .returned (.tuple #[.int .u32 tt, .string ⟨#[]⟩, .int .i64 ee, .int .i32 rr]) ∧ Kept [] w1 w') : Calls Tryf.prog 6 #[.string b, .string x, .string y] w fun e w' => e = .returned (.bool true) ∧ Kept [] w w' := by
  obtain ⟨h1, h2, h3, h4⟩ := acc_three h
  have HB := Lib.hid (fun w => zb_FnAdvanceLitNoneStopsAtBlank (w := w) b x y (by omega) (by omega) (by omega))
  rw [h] at HB
  have H1 := Lib.hid h6
  have H2 := Lib.hid h7
  clear h6 h7
  clear h
  go_enter Tryf.func6, Tryf.ntmps6
  go_wp2_with (first | (go_at_call 16; refine (HB.out _).mono ?_; rintro e w' ⟨rfl, rfl⟩) | (go_at_call 17; refine (noz _ (by omega) _).mono ?_; rintro e w' ⟨rfl, rfl⟩) | (go_at_call 18; first | (refine (H2.out _ HK1.out).mono ?_; rintro e w2 ⟨rfl, hk2⟩; have HK2 := Lib.hid hk2; clear hk2) | (refine H1.out.mono ?_; rintro e w1 ⟨rfl, hk1⟩; have HK1 := Lib.hid hk1; clear hk1)))
  go_ret
  exact ⟨rfl, HK1.out.trans HK2.out⟩
set_option maxRecDepth 100000 in
set_option maxHeartbeats 8000000 in
theorem ok1_nb (w : World) (b x y : ByteArray) (h : (acc 0 [b.size, x.size, y.size]).isSome = true) (g0 : noZ b = true) (hp : 0 < b.size) (hva : (((b[0]).toNat : Int) == 60) = false) (hvb : (((b[0]).toNat : Int) == 62) = false) {tt ee rr : Int} {V : ByteArray} (hv1 : V.size ≤ b.size) (hv2 : b.extract 0 V.size = V) (h6 : Calls Tryf.prog 18 #[.string (b ++ ⟨#[32]⟩ ++ x)] w fun e w' => e = .returned (.tuple #[.int .u32 tt, .string V, .int .i64 ee, .int .i32 rr]) ∧ Kept [] w w') (h7 : ∀ w1, Kept [] w w1 → Calls Tryf.prog 18 #[.string (b ++ ⟨#[32]⟩ ++ y)] w1 fun e w' => e = .returned (.tuple #[.int .u32 tt, .string V, .int .i64 ee, .int .i32 rr]) ∧ Kept [] w1 w') : Calls Tryf.prog 6 #[.string b, .string x, .string y] w fun e w' => e = .returned (.bool true) ∧ Kept [] w w' := by
  obtain ⟨h1, h2, h3, h4⟩ := acc_three h
  have HB := Lib.hid (fun w => zb_FnAdvanceLitNoneStopsAtBlank (w := w) b x y (by omega) (by omega) (by omega))
  rw [h] at HB
  have H1 := Lib.hid h6
  have H2 := Lib.hid h7
  clear h6 h7
  clear h
  go_enter Tryf.func6, Tryf.ntmps6
  go_wp2_with (first | (go_at_call 16; refine (HB.out _).mono ?_; rintro e w' ⟨rfl, rfl⟩) | (go_at_call 17; refine (noz _ (by omega) _).mono ?_; rintro e w' ⟨rfl, rfl⟩) | (go_at_call 18; first | (refine (H2.out _ HK1.out).mono ?_; rintro e w2 ⟨rfl, hk2⟩; have HK2 := Lib.hid hk2; clear hk2) | (refine H1.out.mono ?_; rintro e w1 ⟨rfl, hk1⟩; have HK1 := Lib.hid hk1; clear hk1)))
  go_ret
  exact ⟨rfl, HK1.out.trans HK2.out⟩

theorem cat_b (b x : ByteArray) : (b ++ ⟨#[32]⟩ ++ x).data.toList = b.data.toList ++ 32 :: x.data.toList := by
  simp [ByteArray.data_append]

theorem zz_nb {w : World} {b x : ByteArray} {ea : Addr} {F : Int × List UInt8 × Int × Int} (hs : b.size + x.size ≤ 1048576) (g0 : noZ b = true) (hh : ∀ z t, b.data.toList = z :: t → ¬ (z = 62 ∨ z = 60)) (hF : noF [] (-1) (b.data.toList ++ 32 :: x.data.toList) = F) (hg : w.cell? ⟨0, 0, none⟩ = some (EOFv ea)) :
    Calls Tryf.prog 18 #[.string (b ++ ⟨#[32]⟩ ++ x)] w fun e w' => e = .returned (.tuple #[.int .u32 F.1, .string ⟨F.2.1.toArray⟩, .int .i64 F.2.2.1, .int .i32 F.2.2.2]) ∧ Kept [] w w' := by
  have hsz : (b ++ ⟨#[32]⟩ ++ x).size < 10000000 := by
    have e : ∀ c : ByteArray, c.size = c.data.toList.length := fun _ => rfl
    rw [e, cat_b]
    simp
    have := e b; have := e x
    simp at *
    omega
  have := zz_none (s := b ++ ⟨#[32]⟩ ++ x) (by rw [cat_b]; exact ⟨_, _, rfl, noZ_al g0⟩) (by
    rw [cat_b]
    intro z t e
    cases hb : b.data.toList with
    | nil => rw [hb] at e; cases e; decide
    | cons c l => rw [hb] at e; cases e; exact hh _ _ hb) hsz hg
  rw [cat_b, hF] at this
  exact this

theorem ext_prefix2 {s : ByteArray} {l : List UInt8} (h : l <+: s.data.toList) : s.extract 0 (⟨l.toArray⟩ : ByteArray).size = ⟨l.toArray⟩ := by
  have e : (⟨l.toArray⟩ : ByteArray).size = l.length := rfl
  rw [e]
  apply ByteArray.ext
  apply Array.toList_inj.1
  rw [ext_list]
  obtain ⟨t, ht⟩ := h
  rw [← ht]
  simp

theorem law_FnAdvanceLitNoneStopsAtBlank (w : World) (b x y : ByteArray) (ea : Addr) (h1 : b.size ≤ 9223372036854775807) (h2 : x.size ≤ 9223372036854775807) (h3 : y.size ≤ 9223372036854775807) (hg : w.cell? ⟨0, 0, none⟩ = some (EOFv ea)) : Calls Tryf.prog 6 #[.string b, .string x, .string y] w fun e w' => e = .returned (.bool true) ∧ Kept [] w w' := by
  cases h : (acc 0 [b.size, x.size, y.size]).isSome with
  | false => exact skip1_nb w b x y h1 h2 h3 h
  | true =>
  cases g0 : noZ b with
  | false => exact skip2_nb w b x y h g0
  | true =>
  obtain ⟨s1, s2, s3, s4⟩ := acc_three h
  have elen : b.data.toList.length = b.size := rfl
  have up : ∀ w1, Kept [] w w1 → w1.cell? ⟨0, 0, none⟩ = some (EOFv ea) := fun w1 k => (k.cell (p := ⟨0, 0, none⟩) (block_lt_of_cell hg) (by simp)).trans hg
  obtain ⟨e1, _, e3⟩ := noF_same x.data.toList y.data.toList b.data.toList [] (-1)
  rw [List.nil_append] at e3
  obtain ⟨F, hF⟩ : ∃ F, noF [] (-1) (b.data.toList ++ 32 :: x.data.toList) = F := ⟨_, rfl⟩
  have hF2 := e1.symm.trans hF
  rw [hF] at e3
  have hv1 : (⟨F.2.1.toArray⟩ : ByteArray).size ≤ b.size := by
    have e : (⟨F.2.1.toArray⟩ : ByteArray).size = F.2.1.length := rfl
    rw [e, ← elen]; exact e3.length_le
  have hv2 := ext_prefix2 e3
  by_cases hz : b.size = 0
  · have hnil : b.data.toList = [] := List.eq_nil_of_length_eq_zero (by omega)
    have hh : ∀ z t, b.data.toList = z :: t → ¬ (z = 62 ∨ z = 60) := fun z t e => by rw [hnil] at e; cases e
    have hF0 : F.2.1 = [] := by rw [hnil] at e3; exact List.prefix_nil.1 e3
    have e0 : (⟨F.2.1.toArray⟩ : ByteArray) = ⟨#[]⟩ := by rw [hF0]
    exact ok0_nb w b x y h g0 hz (tt := F.1) (ee := F.2.2.1) (rr := F.2.2.2) (by rw [← e0]; exact zz_nb (by omega) g0 hh hF hg) (fun w1 k => by rw [← e0]; exact zz_nb (by omega) g0 hh hF2 (up w1 k))
  · have hp : 0 < b.size := by omega
    by_cases ha : ((b[0]).toNat : Int) = 60
    · exact skip3_nb w b x y h g0 hp ha
    by_cases hb : ((b[0]).toNat : Int) = 62
    · exact skip4_nb w b x y h g0 hp hb
    have hh : ∀ z t, b.data.toList = z :: t → ¬ (z = 62 ∨ z = 60) := fun z t e => by
      have h0 := str_at2 hp
      rw [e] at h0
      have h0' : z = b[0] := by simpa using h0
      rintro (rfl | rfl)
      · exact hb (by rw [← h0']; rfl)
      · exact ha (by rw [← h0']; rfl)
    exact ok1_nb w b x y h g0 hp (by simpa using ha) (by simpa using hb) hv1 hv2 (zz_nb (by omega) g0 hh hF hg) (fun w1 k => zz_nb (by omega) g0 hh hF2 (up w1 k))
end Go.Proofs.YtejlgdiepjiodaaFmt
