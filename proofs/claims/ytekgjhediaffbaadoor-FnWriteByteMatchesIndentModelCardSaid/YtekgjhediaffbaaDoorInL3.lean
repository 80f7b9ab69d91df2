/-
  n010_120: FnWriteByteMatchesIndentModel, walked.
-/
import Derived.Test.YtekgjhediaffbaaDoorInx
namespace Go.Proofs.YtekgjhediaffbaaDoor
open Go.RowKit

set_option maxRecDepth 100000 in
theorem yes_FnWriteByteMatchesIndentModel (w : World) (base : Int) (s : ByteArray) (h : s.size ≤ 1048576) :
    Calls Tryd.prog 25 #[.int .i64 base, .string s] w fun e w' => e = .returned (.bool true) ∧ w = w' := by
  go_enter Tryd.func25, Tryd.ntmps25
  go_wp2
  go_ret
  exact ⟨rfl, rfl⟩
set_option maxRecDepth 100000 in
theorem no_FnWriteByteMatchesIndentModel (w : World) (base : Int) (s : ByteArray) (h : 1048576 < s.size) (hm0 : s.size ≤ 9223372036854775807) :
    Calls Tryd.prog 25 #[.int .i64 base, .string s] w fun e w' => e = .returned (.bool false) ∧ w = w' := by
  go_enter Tryd.func25, Tryd.ntmps25
  go_wp2
  all_goals (
    go_ret
    exact ⟨rfl, rfl⟩)
set_option maxRecDepth 100000 in
set_option maxHeartbeats 1600000 in
theorem skip_FnWriteByteMatchesIndentModel (w : World) (base : Int) (s : ByteArray) (h : ¬ (s.size ≤ 1048576 ∧ s.size ≤ 65536 ∧ 0 ≤ base ∧ base ≤ 65536)) (hm0 : s.size ≤ 9223372036854775807) :
    Calls Tryd.prog 6 #[.int .i64 base, .string s] w fun e w' => e = .returned (.bool true) ∧ w = w' := by
  by_cases h3 : s.size ≤ 1048576
  · have h4 : 65536 < s.size ∨ base < 0 ∨ 65536 < base := by omega
    clear h
    rcases h4 with h4 | h4 | h4
    all_goals (
      go_enter Tryd.func6, Tryd.ntmps6
      go_wp2_with (go_at_call 25; refine (yes_FnWriteByteMatchesIndentModel _ _ _ h3).mono ?_; rintro e w' ⟨rfl, rfl⟩)
      all_goals (
        go_ret
        exact ⟨rfl, rfl⟩))
  · clear h
    go_enter Tryd.func6, Tryd.ntmps6
    go_wp2_with (go_at_call 25; refine (no_FnWriteByteMatchesIndentModel _ _ _ (by omega) hm0).mono ?_; rintro e w' ⟨rfl, rfl⟩)
    go_ret
    exact ⟨rfl, rfl⟩

set_option maxRecDepth 100000 in
set_option maxHeartbeats 3200000 in
theorem ok_FnWriteByteMatchesIndentModel (w : World) (base : Int) (s : ByteArray) (hn : s.size ≤ 65536) (hb1 : 0 ≤ base) (hb2 : base ≤ 65536) :
    Calls Tryd.prog 6 #[.int .i64 base, .string s] w fun e w' => e = .returned (.bool true) ∧ Kept [] w w' := by
  have hp := prod_bound (a := (s.size : Int) + 1) (b := base + 3) (by omega) (by omega) (by omega) (by omega)
  obtain ⟨hp0, hp1⟩ := hp
  by_cases hP : 67108864 < ((s.size : Int) + 1) * (base + 3)
  · go_enter Tryd.func6, Tryd.ntmps6
    go_wp2_with (go_at_call 25; refine (yes_FnWriteByteMatchesIndentModel _ _ _ (by omega)).mono ?_; rintro e w' ⟨rfl, rfl⟩)
    all_goals (
      go_ret
      exact ⟨rfl, Kept.refl _ _⟩)
  have hP2 : ((s.size : Int) + 1) * (base + 3) ≤ 67108864 := by omega
  clear hP
  obtain ⟨l, hl⟩ : ∃ l, l = s.data.toList := ⟨_, rfl⟩
  have hll : l.length = s.size := by rw [hl]; rfl
  have hol := out_le hb1 hb2 l (by omega)
  have HL := Lib.hid hl; have HLL := Lib.hid hll
  clear hl hll
  have hget : ∀ k (hk : k < s.size), l[k]? = some s[k] := fun k hk => by rw [HL.out]; exact List.getElem?_eq_getElem (show k < s.data.toList.length from hk)
  have HGT := Lib.hid hget; clear hget
  go_enter Tryd.func6, Tryd.ntmps6
  go_wp2_with (go_at_call 25; refine (yes_FnWriteByteMatchesIndentModel _ _ _ (by omega)).mono ?_; rintro e w' ⟨rfl, rfl⟩)
  refine (newind _ base).mono ?_
  rintro e w1 ⟨rfl, h1⟩
  have H1 := Lib.hid h1; clear h1
  go_wp2_with fail
  have hst : Hid (In w w1 (w.heap.size + 3) (w.heap.size + 2) (w.heap.size + 1) w.heap.size base (foldI base is0 (l.take 0))) := H1
  clear H1
  go_loopw [8] (fun si wr => ∃ k : Nat, k ≤ s.size ∧ si = .int .i64 k ∧ Hid (In w wr (w.heap.size + 3) (w.heap.size + 2) (w.heap.size + 1) w.heap.size base (foldI base is0 (l.take k)))) (fun si _ => s.size - (intOf si).toNat)
  case atStart => exact ⟨0, Nat.zero_le _, rfl, hst⟩
  case round =>
   clear hst
   obtain ⟨k, hk, rfl, hrel⟩ := hrel
   by_cases hlt : k < s.size
   · have hcon := zwbyte hrel.out (take_ok hb1 l k) hb1 hb2 (by omega) s[k] _ rfl
     rw [← foldI_take (HGT.out k hlt)] at hcon
     have HC := Lib.hid hcon; clear hcon hrel
     go_wp2_with fail
     refine HC.out.mono ?_
     rintro e w2 ⟨rfl, h2⟩
     have H2 := Lib.hid h2; clear h2
     go_wp2_with fail
     go_roundw
     case rel => exact ⟨k + 1, by omega, by go_num, H2⟩
     case measure => simp [intOf]; omega
   · have hkn : k = s.size := by omega
     subst hkn
     have hR := hrel.out
     rw [List.take_of_length_le (by have := HLL.out; omega)] at hR
     have H2 := Lib.hid hR; clear hR hrel
     go_wp2_with fail
     refine (H2.out.flush (by omega)).mono ?_
     rintro e w3 ⟨rfl, h3⟩
     have H3 := Lib.hid h3; clear h3
     go_wp2_with fail
     refine H3.out.bytes.mono ?_
     rintro e w4 ⟨A4, c4, rfl, hs4, _, _, hk4⟩
     have HS4 := Lib.hid hs4; have HK4 := Lib.hid hk4; clear hs4 hk4
     go_wp2_with (refine wpList_bytesM rfl _ rfl s rfl (by omega) ?_; intro c5 w5 hs5 hc5 hc6 hk5 hz5; have HS5 := Lib.hid hs5; have HK5 := Lib.hid hk5; have HZ5 := Lib.hid hz5; clear hs5 hk5 hz5)
     have hs5 := HS5.out
     rw [← HL.out] at hs5
     refine (mind_of (base := base) hs5 ⟨rfl, by rw [HZ5.out]; simp⟩ hc5 hb1 hb2 (by omega)).mono ?_
     rintro e w6 ⟨B6, c6, rfl, hs6, hk6⟩
     have HC := Lib.hid (zeq w6 A4 B6 _ c4 c6 _ ((HS4.out.kept HK5.out (by simp)).kept hk6 (by simp)) hs6 (by omega))
     have HK6 := Lib.hid hk6
     clear hs5 hs6 hk6
     go_wp2_with fail
     refine HC.out.mono ?_
     rintro e w7 ⟨rfl, hk7⟩
     have HK7 := Lib.hid hk7; clear hk7
     go_wp2_with fail
     go_ret
     exact ⟨rfl, ((((H3.out.inn.kept).trans HK4.out).trans HK5.out).trans HK6.out).trans HK7.out⟩
end Go.Proofs.YtekgjhediaffbaaDoor
