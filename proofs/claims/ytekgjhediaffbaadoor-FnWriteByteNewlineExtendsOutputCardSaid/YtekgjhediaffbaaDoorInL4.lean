/-
  n010_120: FnWriteByteNewlineExtendsOutput, walked.
-/
import Derived.Test.YtekgjhediaffbaaDoorInz
namespace Go.Proofs.YtekgjhediaffbaaDoor
open Go.RowKit

set_option maxRecDepth 100000 in
theorem yes_FnWriteByteNewlineExtendsOutput (w : World) (base : Int) (s : ByteArray) (h : s.size ≤ 1048576) :
    Calls Tryd.prog 31 #[.int .i64 base, .string s] w fun e w' => e = .returned (.bool true) ∧ w = w' := by
  go_enter Tryd.func31, Tryd.ntmps31
  go_wp2
  go_ret
  exact ⟨rfl, rfl⟩
set_option maxRecDepth 100000 in
theorem no_FnWriteByteNewlineExtendsOutput (w : World) (base : Int) (s : ByteArray) (h : 1048576 < s.size) (hm0 : s.size ≤ 9223372036854775807) :
    Calls Tryd.prog 31 #[.int .i64 base, .string s] w fun e w' => e = .returned (.bool false) ∧ w = w' := by
  go_enter Tryd.func31, Tryd.ntmps31
  go_wp2
  all_goals (
    go_ret
    exact ⟨rfl, rfl⟩)
set_option maxRecDepth 100000 in
set_option maxHeartbeats 1600000 in
theorem skip_FnWriteByteNewlineExtendsOutput (w : World) (base : Int) (s : ByteArray) (h : ¬ (s.size ≤ 1048576 ∧ s.size ≤ 65536 ∧ 0 ≤ base ∧ base ≤ 65536)) (hm0 : s.size ≤ 9223372036854775807) :
    Calls Tryd.prog 10 #[.int .i64 base, .string s] w fun e w' => e = .returned (.bool true) ∧ w = w' := by
  by_cases h3 : s.size ≤ 1048576
  · have h4 : 65536 < s.size ∨ base < 0 ∨ 65536 < base := by omega
    clear h
    rcases h4 with h4 | h4 | h4
    all_goals (
      go_enter Tryd.func10, Tryd.ntmps10
      go_wp2_with (go_at_call 31; refine (yes_FnWriteByteNewlineExtendsOutput _ _ _ h3).mono ?_; rintro e w' ⟨rfl, rfl⟩)
      all_goals (
        go_ret
        exact ⟨rfl, rfl⟩))
  · clear h
    go_enter Tryd.func10, Tryd.ntmps10
    go_wp2_with (go_at_call 31; refine (no_FnWriteByteNewlineExtendsOutput _ _ _ (by omega) hm0).mono ?_; rintro e w' ⟨rfl, rfl⟩)
    go_ret
    exact ⟨rfl, rfl⟩

set_option maxRecDepth 100000 in
set_option maxHeartbeats 3200000 in
theorem ok_FnWriteByteNewlineExtendsOutput (w : World) (base : Int) (s : ByteArray) (hn : s.size ≤ 65536) (hb1 : 0 ≤ base) (hb2 : base ≤ 65536) :
    Calls Tryd.prog 10 #[.int .i64 base, .string s] w fun e w' => e = .returned (.bool true) ∧ Kept [] w w' := by
  have hp := prod_bound (a := (s.size : Int) + 2) (b := base + 3) (by omega) (by omega) (by omega) (by omega)
  obtain ⟨hp0, hp1⟩ := hp
  by_cases hP : 67108864 < ((s.size : Int) + 2) * (base + 3)
  · go_enter Tryd.func10, Tryd.ntmps10
    go_wp2_with (go_at_call 31; refine (yes_FnWriteByteNewlineExtendsOutput _ _ _ (by omega)).mono ?_; rintro e w' ⟨rfl, rfl⟩)
    all_goals (
      go_ret
      exact ⟨rfl, Kept.refl _ _⟩)
  have hP2 : ((s.size : Int) + 2) * (base + 3) ≤ 67108864 := by omega
  clear hP
  obtain ⟨l, hl⟩ : ∃ l, l = s.data.toList := ⟨_, rfl⟩
  have hll : l.length = s.size := by rw [hl]; rfl
  have hol := out_le hb1 hb2 l (by omega)
  have HL := Lib.hid hl; have HLL := Lib.hid hll
  clear hl hll
  have hget : ∀ k (hk : k < s.size), l[k]? = some s[k] := fun k hk => by rw [HL.out]; exact List.getElem?_eq_getElem (show k < s.data.toList.length from hk)
  have HGT := Lib.hid hget; clear hget
  have hol2 := out_le hb1 hb2 (l ++ [10]) (by rw [List.length_append, HLL.out]; simp; omega)
  obtain ⟨P, hPn⟩ := fold_newline base l
  obtain ⟨O1, hO1⟩ : ∃ O, O = (foldI base is0 l).out := ⟨_, rfl⟩
  obtain ⟨O2, hO2⟩ : ∃ O, O = (foldI base is0 (l ++ [10])).out := ⟨_, rfl⟩
  rw [← hO1, ← hO2] at hPn
  rw [← hO1] at hol
  rw [← hO2] at hol2
  have hlen : O2.length = O1.length + P.length + 1 := by rw [hPn]; simp; omega
  have hlast : O2[O1.length + P.length]? = some 10 := by rw [hPn, List.getElem?_append_right (by simp)]; simp
  have hpre : O2 = O1 ++ (P ++ [10]) := by rw [hPn, List.append_assoc]
  obtain ⟨n1, hn1⟩ : ∃ n, n = O1.length := ⟨_, rfl⟩
  obtain ⟨m, hm⟩ : ∃ m, m = O1.length + P.length := ⟨_, rfl⟩
  have hn2 : O2.length = m + 1 := by rw [hlen, hm]
  rw [← hm] at hlast
  have hnm : n1 ≤ m := by omega
  have hmb : m ≤ 5000000000 := by omega
  have HO1 := Lib.hid hO1; have HO2 := Lib.hid hO2; have HLA := Lib.hid hlast; have HPRE := Lib.hid hpre; have HN1 := Lib.hid hn1; have HN2 := Lib.hid hn2
  clear hPn hO1 hO2 hlen hlast hpre hn1 hm hn2
  go_enter Tryd.func10, Tryd.ntmps10
  go_wp2_with (go_at_call 31; refine (yes_FnWriteByteNewlineExtendsOutput _ _ _ (by omega)).mono ?_; rintro e w' ⟨rfl, rfl⟩)
  refine (newind _ base).mono ?_
  rintro e w1 ⟨rfl, h1⟩
  have H1 := Lib.hid h1; clear h1
  go_wp2_with fail
  have hst : Hid (In w w1 (w.heap.size + 3) (w.heap.size + 2) (w.heap.size + 1) w.heap.size base (foldI base is0 (l.take 0))) := H1
  clear H1
  go_loopw [8] (fun si wr => ∃ k : Nat, k ≤ s.size ∧ si = .int .i64 k ∧ Hid (In w wr (w.heap.size + 3) (w.heap.size + 2) (w.heap.size + 1) w.heap.size base (foldI base is0 (l.take k)))) (fun si _ => s.size - (intOf si).toNat)
  case atStart => exact ⟨0, Nat.zero_le _, rfl, hst⟩
  case round =>
   clear hst
   obtain ⟨k, hk, rfl, hrel⟩ := hrel
   by_cases hlt : k < s.size
   · have hcon := zwbyte hrel.out (take_ok hb1 l k) hb1 hb2 (by omega) s[k] _ rfl
     rw [← foldI_take (HGT.out k hlt)] at hcon
     have HC := Lib.hid hcon; clear hcon hrel
     go_wp2_with fail
     refine HC.out.mono ?_
     rintro e w2 ⟨rfl, h2⟩
     have H2 := Lib.hid h2; clear h2
     go_wp2_with fail
     go_roundw
     case rel => exact ⟨k + 1, by omega, by go_num, H2⟩
     case measure => simp [intOf]; omega
   · have hkn : k = s.size := by omega
     subst hkn
     have hR := hrel.out
     rw [List.take_of_length_le (by have := HLL.out; omega)] at hR
     obtain ⟨S, hx, hkx, hnx⟩ := hR.ixs
     have HX := Lib.hid hx; have HKX := Lib.hid hkx; have HNX := Lib.hid hnx
     clear hR hrel hx hkx hnx
     go_wp2_with fail
     refine (HX.out.flush (by rw [← HO1.out]; omega)).mono ?_
     rintro e w3 ⟨rfl, S3, hx3, ⟨row3, hb3⟩, hf3⟩
     rw [← HO1.out] at hb3
     have HX3 := Lib.hid hx3; have HB3 := Lib.hid hb3; have HF3 := Lib.hid hf3
     clear hx3 hb3 hf3
     go_wp2_with fail
     refine (buf_bytes HB3.out).mono ?_
     rintro e w4 ⟨A4, c4, rfl, _, _, hs4, hk4⟩
     have HK4 := Lib.hid hk4
     have hcp := zcopy w4 A4 _ c4 O1 (by omega) hs4
     rw [← HN1.out] at hcp ⊢
     have HCP := Lib.hid hcp
     clear hs4 hk4 hcp
     go_wp2_with fail
     refine HCP.out.mono ?_
     rintro e w5 ⟨rfl, hb5, hk5⟩
     have hx5 := (HX3.out.kept HK4.out (by simp)).kept hk5 (by simp)
     have hz45 := HK4.out.size
     have hlt5 := heap_lt hb5
     have HB5 := Lib.hid hb5; have HK5 := Lib.hid hk5
     have hS3 : ∀ x ∈ S3, x < w4.heap.size := fun x hx => Nat.lt_of_lt_of_le (HX3.out.lt x hx) hz45
     have HS3 := Lib.hid hS3
     have hcon := zwbyteX hx5 (foldI_ok hb1 l (is0_ok base)) hb1 hb2 (by have := HLL.out; omega) 10 10 rfl
     rw [← foldI_snoc] at hcon
     have HC := Lib.hid hcon
     clear hb5 hk5 hS3 hcon hx5
     go_wp2_with fail
     refine HC.out.mono ?_
     rintro e w6 ⟨rfl, S6, hx6, hf6⟩
     have HX6 := Lib.hid hx6; have HF6 := Lib.hid hf6
     clear hx6 hf6
     go_wp2_with fail
     refine (HX6.out.flush (by rw [← HO2.out]; omega)).mono ?_
     rintro e w7 ⟨rfl, S7, hx7, ⟨row7, hb7⟩, hf7⟩
     rw [← HO2.out] at hb7
     have HX7 := Lib.hid hx7; have HB7 := Lib.hid hb7; have HF7 := Lib.hid hf7
     clear hx7 hb7 hf7
     go_wp2_with fail
     refine (buf_bytes HB7.out).mono ?_
     rintro e w8 ⟨A8, c8, rfl, _, _, hs8, hk8⟩
     have HK8 := Lib.hid hk8
     have hcp := zcopy w8 A8 _ c8 O2 (by omega) hs8
     rw [HN2.out] at hcp ⊢
     have HCP2 := Lib.hid hcp
     clear hs8 hk8 hcp
     go_wp2_with fail
     refine HCP2.out.mono ?_
     rintro e w9 ⟨rfl, hb9, hk9⟩
     have hlt9 := heap_lt hb9
     have hb5b : w9.heap[w4.heap.size]? = some (.cells (Bys O1).toArray 5 (0, 0)) := by
       have hn6 : w4.heap.size ∉ S3 := fun hm => by have := HS3.out _ hm; omega
       have hn7 : w4.heap.size ∉ S6 := fun hm => by
         rcases HF6.out.1 _ hm with h | h
         · exact hn6 h
         · omega
       have h6 := (HF6.out.2.block _ hlt5 hn6).trans HB5.out
       have h7 := (HF7.out.2.block _ (heap_lt h6) hn7).trans h6
       have h8 := (HK8.out.block _ (heap_lt h7) (by simp)).trans h7
       exact (hk9.block _ (heap_lt h8) (by simp)).trans h8
     have hkall : Kept [] w w9 := by
       have h3 := HKX.out.trans2 HF3.out.2 (fun x hx => .inr (HNX.out x hx))
       have hn3 : ∀ x ∈ S3, w.heap.size ≤ x := fun x hx => (HF3.out.1 x hx).elim (HNX.out x) (fun h => Nat.le_trans HKX.out.size h)
       have h5 := (h3.trans HK4.out).trans HK5.out
       have h6 := h5.trans2 HF6.out.2 (fun x hx => .inr (hn3 x hx))
       have hn6 : ∀ x ∈ S6, w.heap.size ≤ x := fun x hx => (HF6.out.1 x hx).elim (hn3 x) (fun h => Nat.le_trans h5.size h)
       have h7 := h6.trans2 HF7.out.2 (fun x hx => .inr (hn6 x hx))
       exact (h7.trans HK8.out).trans hk9
     have hb9p := hb9
     rw [HPRE.out] at hb9p
     have HEQ := Lib.hid (zeq w9 (some ⟨w8.heap.size, 0, none⟩) (some ⟨w4.heap.size, 0, none⟩) n1 (m + 1) n1 O1 (SrcB.pre hb9p HN1.out.symm) (SrcB.row hb5b HN1.out.symm) (by omega))
     have HB9 := Lib.hid hb9; have HKA := Lib.hid hkall
     clear hb9 hk9 hb5b hkall hb9p
     have q1 := fun w => slice_to w8.heap.size (m + 1) (m + 1) n1 (by omega) w
     have e1 : ((m : Int) + 1 - 1) = m := by omega
     have hnm2 : ¬ ((m : Int) + 1 ≤ n1) := by omega
     go_wp2_with fail
     refine HEQ.out.mono ?_
     rintro e w10 ⟨rfl, hk10⟩
     have hcl : w10.cell? ⟨w8.heap.size, m, none⟩ = some (.int .u8 10) := by
       rw [hk10.cell (p := ⟨w8.heap.size, m, none⟩) (heap_lt HB9.out) (by simp), row_cell HB9.out]
       simp only [Bys, List.getElem?_map, HLA.out]; rfl
     have hs10 : SrcB w10 (some ⟨w8.heap.size, 0, none⟩) (m + 1) O2 := (SrcB.row HB9.out HN2.out).kept hk10 (by simp)
     have HS10 := Lib.hid hs10; have HK10 := Lib.hid hk10
     clear hs10 hk10 q1 HEQ
     go_wp2_with (refine wpList_bytesM rfl _ rfl (s ++ ⟨#[10]⟩) rfl (by rw [ByteArray.size_append]; show s.size + 1 ≤ _; omega) ?_; intro c5 w11 hs5 hc5 hc6 hk5 hz5; have HS5 := Lib.hid hs5; have HK5b := Lib.hid hk5; have HZ5 := Lib.hid hz5; have HCC := Lib.hid hc5; clear hs5 hk5 hz5 hc5)
     have hs5 := HS5.out
     have hl2 : (s ++ ⟨#[10]⟩ : ByteArray).data.toList = l ++ [10] := by rw [ByteArray.data_append, Array.toList_append, HL.out]
     rw [hl2] at hs5
     have hsz : (s ++ ⟨#[10]⟩ : ByteArray).size = s.size + 1 := by rw [ByteArray.size_append]; rfl
     have hcc := HCC.out
     rw [hsz] at hs5 hcc
     refine (mind_of (base := base) hs5 ⟨rfl, by rw [HZ5.out]; simp⟩ hcc hb1 hb2 (by omega)).mono ?_
     rw [← HO2.out]
     clear hsz hcc
     rintro e w12 ⟨B6, c6, rfl, hs6, hk6⟩
     rw [HN2.out] at hs6 ⊢
     have HC2 := Lib.hid (zeq w12 (some ⟨w8.heap.size, 0, none⟩) B6 (m + 1) (m + 1) c6 O2 ((HS10.out.kept HK5b.out (by simp)).kept hk6 (by simp)) hs6 (by omega))
     have HK6 := Lib.hid hk6
     clear hs5 hs6 hk6
     go_wp2_with fail
     refine HC2.out.mono ?_
     rintro e w13 ⟨rfl, hk13⟩
     have HK13 := Lib.hid hk13; clear hk13
     go_wp2_with fail
     go_ret
     exact ⟨rfl, (((HKA.out.trans HK10.out).trans HK5b.out).trans HK6.out).trans HK13.out⟩
end Go.Proofs.YtekgjhediaffbaaDoor
