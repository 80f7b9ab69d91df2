/-
  n010_120: FnSinkAfterLinesKeepsOrder, walked.
-/
import Derived.Test.YtekgjhediaffbaaDoorInz
namespace Go.Proofs.YtekgjhediaffbaaDoor
open Go.RowKit

set_option maxRecDepth 100000 in
theorem yes_FnSinkAfterLinesKeepsOrder (w : World) (depth : Int) (base : Int) (t : ByteArray) (s : ByteArray) (h : t.size + s.size ≤ 1048576) :
    Calls Tryd.prog 30 #[.int .i64 depth, .int .i64 base, .string t, .string s] w fun e w' => e = .returned (.bool true) ∧ w = w' := by
  go_enter Tryd.func30, Tryd.ntmps30
  go_wp2
  go_ret
  exact ⟨rfl, rfl⟩
set_option maxRecDepth 100000 in
theorem no_FnSinkAfterLinesKeepsOrder (w : World) (depth : Int) (base : Int) (t : ByteArray) (s : ByteArray) (h : 1048576 < t.size + s.size) (hm0 : t.size ≤ 9223372036854775807) (hm1 : s.size ≤ 9223372036854775807) :
    Calls Tryd.prog 30 #[.int .i64 depth, .int .i64 base, .string t, .string s] w fun e w' => e = .returned (.bool false) ∧ w = w' := by
  go_enter Tryd.func30, Tryd.ntmps30
  go_wp2
  all_goals (
    go_ret
    exact ⟨rfl, rfl⟩)
set_option maxRecDepth 100000 in
set_option maxHeartbeats 1600000 in
theorem skip_FnSinkAfterLinesKeepsOrder (w : World) (depth : Int) (base : Int) (t : ByteArray) (s : ByteArray) (h : ¬ (t.size + s.size ≤ 1048576 ∧ t.size ≤ 65536 ∧ 1 ≤ depth ∧ depth ≤ 64 ∧ 0 ≤ base ∧ base ≤ 65536)) (hm0 : t.size ≤ 9223372036854775807) (hm1 : s.size ≤ 9223372036854775807) :
    Calls Tryd.prog 9 #[.int .i64 depth, .int .i64 base, .string t, .string s] w fun e w' => e = .returned (.bool true) ∧ w = w' := by
  by_cases h3 : t.size + s.size ≤ 1048576
  · have h4 : 65536 < t.size ∨ depth < 1 ∨ 64 < depth ∨ base < 0 ∨ 65536 < base := by omega
    clear h
    rcases h4 with h4 | h4 | h4 | h4 | h4
    all_goals (
      go_enter Tryd.func9, Tryd.ntmps9
      go_wp2_with (go_at_call 30; refine (yes_FnSinkAfterLinesKeepsOrder _ _ _ _ _ h3).mono ?_; rintro e w' ⟨rfl, rfl⟩)
      all_goals (
        go_ret
        exact ⟨rfl, rfl⟩))
  · clear h
    go_enter Tryd.func9, Tryd.ntmps9
    go_wp2_with (go_at_call 30; refine (no_FnSinkAfterLinesKeepsOrder _ _ _ _ _ (by omega) hm0 hm1).mono ?_; rintro e w' ⟨rfl, rfl⟩)
    go_ret
    exact ⟨rfl, rfl⟩

set_option maxRecDepth 100000 in
set_option maxHeartbeats 3200000 in
theorem ok_FnSinkAfterLinesKeepsOrder (w : World) (depth : Int) (base : Int) (t : ByteArray) (s : ByteArray) (hts : t.size + s.size ≤ 1048576) (hn : t.size ≤ 65536) (hd1 : 1 ≤ depth) (hd2 : depth ≤ 64) (hb1 : 0 ≤ base) (hb2 : base ≤ 65536) :
    Calls Tryd.prog 9 #[.int .i64 depth, .int .i64 base, .string t, .string s] w fun e w' => e = .returned (.bool true) ∧ Kept [] w w' := by
  obtain ⟨dp, rfl⟩ := Int.eq_ofNat_of_zero_le (show 0 ≤ depth by omega)
  have hp := prod_bound (a := (t.size : Int) + 1) (b := base + 3) (by omega) (by omega) (by omega) (by omega)
  obtain ⟨hp0, hp1⟩ := hp
  by_cases hP : 67108864 < ((t.size : Int) + 1) * (base + 3)
  · go_enter Tryd.func9, Tryd.ntmps9
    go_wp2_with (go_at_call 30; refine (yes_FnSinkAfterLinesKeepsOrder _ _ _ _ _ (by omega)).mono ?_; rintro e w' ⟨rfl, rfl⟩)
    all_goals (
      go_ret
      exact ⟨rfl, Kept.refl _ _⟩)
  have hP2 : ((t.size : Int) + 1) * (base + 3) ≤ 67108864 := by omega
  clear hP
  obtain ⟨l, hl⟩ : ∃ l, l = t.data.toList := ⟨_, rfl⟩
  have hll : l.length = t.size := by rw [hl]; rfl
  have hol := out_le hb1 hb2 l (by omega)
  have HL := Lib.hid hl; have HLL := Lib.hid hll
  clear hl hll
  obtain ⟨ls, hls⟩ : ∃ l, l = s.data.toList := ⟨_, rfl⟩
  have hlsl : ls.length = s.size := by rw [hls]; rfl
  have hget : ∀ k (hk : k < s.size), ls[k]? = some s[k] := fun k hk => by rw [hls]; exact List.getElem?_eq_getElem (show k < s.data.toList.length from hk)
  have HLS := Lib.hid hls; have HLSL := Lib.hid hlsl; have HGT := Lib.hid hget
  obtain ⟨O, hO⟩ : ∃ O, O = (foldI base is0 l).out := ⟨_, rfl⟩
  rw [← hO] at hol
  have HO := Lib.hid hO
  clear hls hlsl hget hO
  go_enter Tryd.func9, Tryd.ntmps9
  go_wp2_with (go_at_call 30; refine (yes_FnSinkAfterLinesKeepsOrder _ _ _ _ _ (by omega)).mono ?_; rintro e w' ⟨rfl, rfl⟩)
  refine (newind _ base).mono ?_
  rintro e w1 ⟨rfl, h1⟩
  have H1 := Lib.hid h1; clear h1
  obtain ⟨S0, hx0, hk0, hn0⟩ := H1.out.ixs
  have hlt0 := hx0.lt
  have HX0 := Lib.hid hx0; have HK0 := Lib.hid hk0; have HN0 := Lib.hid hn0; have HLT0 := Lib.hid hlt0
  clear H1 hx0 hk0 hn0 hlt0
  go_wp2_with fail
  have hst : Hid (Chain w1 w1.heap.size (w.heap.size + 3) 0 (w.heap.size + 3) ∧ Kept [] w1 w1) := Lib.hid ⟨rfl, Kept.refl _ _⟩
  go_loopw [12, 13] (fun se sk wr => ∃ d e : Nat, d + 1 ≤ dp ∧ sk = .int .i64 ((d : Int) + 1) ∧ se = .pointer (some ⟨e, 0, none⟩) ∧ Hid (Chain wr w1.heap.size (w.heap.size + 3) d e ∧ Kept [] w1 wr)) (fun _ sk _ => dp - (intOf sk).toNat)
  case atStart => exact ⟨0, _, by omega, rfl, rfl, hst⟩
  case round =>
    clear hst
    obtain ⟨d, e, hd, rfl, rfl, hrel⟩ := hrel
    by_cases hlt : d + 1 < dp
    · have hcon := nested hrel.out.1 hrel.out.2.size ((d : Int) + 1 + 1)
      have HC := Lib.hid hcon; have HKR := Lib.hid hrel.out.2
      clear hcon hrel
      have hltI : (d : Int) + 1 < dp := by omega
      go_wp2_with fail
      refine HC.out.mono ?_
      rintro r w2 ⟨rfl, hc2, hk2⟩
      have HR := Lib.hid (And.intro hc2 (HKR.out.trans hk2))
      clear hc2 hk2 HC
      go_wp2_with fail
      go_roundw
      case rel => exact ⟨d + 1, _, by omega, by go_num, rfl, HR⟩
      case measure => simp [intOf]; omega
    · have hltI : ¬ ((d : Int) + 1 < dp) := by omega
      obtain ⟨wo, rfl⟩ : ∃ wo : World, wo = wr := ⟨_, rfl⟩
      have hcon := zwstringX (HX0.out.kept hrel.out.2 (by simp)) (is0_ok base) hb1 hb2 t l HL.out (by omega)
      have HC := Lib.hid hcon; have HKR := Lib.hid hrel.out.2; have HCH := Lib.hid hrel.out.1
      clear hcon hrel
      have g0 : ((s.size : Int) != s.size) = false := by simp
      have g1 : ((t.size : Int) != t.size) = false := by simp
      go_wp2_with fail
      refine HC.out.mono ?_
      rintro r w2 ⟨rfl, S2, hx2, hf2⟩
      have hch := Chain.kept hf2.2 (fun x hx => .inl (HLT0.out x hx)) HCH.out
      have hcon := sinkwrite hx2 hch s ls HLS.out (by rw [← HO.out]; omega)
      have HC2 := Lib.hid hcon; have HF2 := Lib.hid hf2
      clear hx2 hf2 HC hch hcon
      go_wp2_with fail
      refine HC2.out.mono ?_
      rintro r w3 ⟨rfl, S3, hx3, hf3⟩
      have HX3 := Lib.hid hx3; have HF3 := Lib.hid hf3
      clear hx3 hf3 HC2
      go_wp2_with fail
      refine (HX3.out.flush (by show ((foldI base is0 l).out ++ ls).length ≤ _; rw [← HO.out]; have := HLSL.out; simp; omega)).mono ?_
      rintro e w4 ⟨rfl, S4, hx4, ⟨row4, hb4⟩, hf4⟩
      have hb4 : Bf w4 TB w.heap.size 0 R0 row4 (O ++ ls) := by rw [HO.out]; exact hb4
      have hk4 : Kept [] w w4 := by
        have h1 := HK0.out.trans HKR.out
        have h2 := h1.trans2 HF2.out.2 (fun x hx => .inr (HN0.out x hx))
        have n2 : ∀ x ∈ S2, w.heap.size ≤ x := fun x hx => (HF2.out.1 x hx).elim (HN0.out x) (fun h => Nat.le_trans h1.size h)
        have h3 := h2.trans2 HF3.out.2 (fun x hx => .inr (n2 x hx))
        have n3 : ∀ x ∈ S3, w.heap.size ≤ x := fun x hx => (HF3.out.1 x hx).elim (n2 x) (fun h => Nat.le_trans h2.size h)
        exact h3.trans2 hf4.2 (fun x hx => .inr (n3 x hx))
      have HB4 := Lib.hid hb4; have HK4 := Lib.hid hk4
      clear hx4 hf4 hb4 hk4
      go_wp2_with (refine wpList_bytesM rfl _ rfl t rfl (by omega) ?_; intro c5 w5 hs5 hc5 hc6 hk5 hz5; have HS5 := Lib.hid hs5; have HK5 := Lib.hid hk5; have HZ5 := Lib.hid hz5; have HCC := Lib.hid hc5; clear hs5 hk5 hz5 hc5)
      have hs5 := HS5.out
      rw [← HL.out] at hs5
      refine (mind_own (base := base) hs5 ⟨rfl, by rw [HZ5.out]; simp⟩ HCC.out hb1 hb2 (by omega)).mono ?_
      rw [← HO.out]
      rintro e w6 ⟨v6, rfl, ho6, hav6⟩
      have hst : Hid (Own w6 v6 (O ++ ls.take 0) ∧ Av nilS v6 w5 w6) := Lib.hid (by simpa using ⟨ho6, hav6⟩)
      clear hs5 ho6 hav6
      go_wp2_with fail
      go_loopw [18, 19] (fun s18 s19 wr => ∃ (k : Nat) (v : Value), k ≤ s.size ∧ s19 = .int .i64 k ∧ v = s18 ∧ Hid (Own wr v (O ++ ls.take k) ∧ Av nilS v w5 wr)) (fun _ s19 _ => s.size - (intOf s19).toNat)
      case atStart => exact ⟨0, v6, Nat.zero_le _, rfl, rfl, hst⟩
      case round =>
        clear hst
        obtain ⟨k, v, hk, rfl, rfl, hrl⟩ := hrel
        by_cases hks : k < s.size
        · obtain ⟨P, hP⟩ : ∃ P, P = O ++ ls.take k := ⟨_, rfl⟩
          have hPl : P.length + 1 ≤ 1000000000000 := by rw [hP, List.length_append, List.length_take]; omega
          have hPo : Own wr v P := by rw [hP]; exact hrl.out.1
          have hnx : P ++ [s[k]] = O ++ ls.take (k + 1) := by rw [hP, take_snoc' (HGT.out k hks), List.append_assoc]
          have HPO := Lib.hid hPo; have HNX := Lib.hid hnx; have HAV := Lib.hid hrl.out.2
          clear hP hPo hnx hrl
          go_wp2_with (at_builtin; refine wpList_app_lit rfl _ _ rfl v P rfl HPO.out 1 1 _ [s[k]] rfl rfl (by omega) rfl hPl ?_; intro g1 cap1 w7 ho1 hn1 hk1; have HR := Lib.hid (show Own w7 _ _ ∧ Av nilS _ w5 w7 from ⟨HNX.out ▸ ho1, HAV.out.trans (Av.step (n := P.length + 1) (c := cap1) hn1 hk1)⟩); clear ho1 hn1 hk1)
          go_roundw
          case rel => exact ⟨k + 1, _, by omega, by go_num, rfl, HR⟩
          case measure => simp [intOf]; omega
        · have hke : k = s.size := by omega
          subst hke
          have h7 := hrl.out.1
          rw [List.take_of_length_le (by have := HLSL.out; omega)] at h7
          obtain ⟨Bv, cv, rfl⟩ := h7.slice
          obtain ⟨Q, hQ⟩ : ∃ Q, Q = O ++ ls := ⟨_, rfl⟩
          rw [← hQ] at h7 HB4 ⊢
          have hQl : Q.length ≤ 10000000000 := by rw [hQ, List.length_append, HLSL.out]; omega
          have hk5r := HK5.out.trans hrl.out.2.2
          have hbf := HB4.out.kept hk5r (by simp) (by simp)
          have HBF := Lib.hid hbf; have H7 := Lib.hid h7; have HK5R := Lib.hid hk5r
          clear hQ h7 hbf hk5r hrl
          go_wp2_with fail
          refine (buf_bytes HBF.out).mono ?_
          rintro e w8 ⟨A8, c8, rfl, _, _, hs8, hk8⟩
          have HC9 := Lib.hid (zeq w8 A8 Bv Q.length c8 cv Q hs8 (H7.out.src.1.kept hk8 (by simp)) (by omega))
          have HK8 := Lib.hid hk8
          clear hs8 hk8
          go_wp2_with fail
          refine HC9.out.mono ?_
          rintro e w9 ⟨rfl, hk9⟩
          have HK9 := Lib.hid hk9; clear hk9
          go_wp2_with fail
          go_ret
          exact ⟨rfl, ((HK4.out.trans HK5R.out).trans HK8.out).trans HK9.out⟩
end Go.Proofs.YtekgjhediaffbaaDoor
