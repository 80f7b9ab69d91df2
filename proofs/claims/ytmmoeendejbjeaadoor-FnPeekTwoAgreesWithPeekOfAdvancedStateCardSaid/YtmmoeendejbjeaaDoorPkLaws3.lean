/-
  n010_87: the law on advanced states, walked.
-/
import Derived.Test.YtmmoeendejbjeaaDoorPkLaws
namespace Go.Proofs.YtmmoeendejbjeaaDoor
open Go.RowKit

theorem yes_FnPeekTwoAgreesWithPeekOfAdvancedState (w : World) (A A' : Option Addr) (n c n' c' : Nat) (b : Value) (h : n + n' ≤ 1048576) :
    Calls Tryd.prog 21 #[.slice A n c, b, .slice A' n' c'] w fun e w' => e = .returned (.bool true) ∧ w = w' := by
  go_enter Tryd.func21, Tryd.ntmps21
  go_wp2
  go_ret
  exact ⟨rfl, rfl⟩
theorem no_FnPeekTwoAgreesWithPeekOfAdvancedState (w : World) (A A' : Option Addr) (n c n' c' : Nat) (b : Value) (h : 1048576 < n + n') (h1 : n ≤ 9223372036854775807) (h2 : n' ≤ 9223372036854775807) :
    Calls Tryd.prog 21 #[.slice A n c, b, .slice A' n' c'] w fun e w' => e = .returned (.bool false) ∧ w = w' := by
  by_cases h3 : n ≤ 1048576
  · by_cases h4 : n' ≤ 1048576
    · go_enter Tryd.func21, Tryd.ntmps21
      go_wp2
      go_ret
      exact ⟨rfl, rfl⟩
    · go_enter Tryd.func21, Tryd.ntmps21
      go_wp2
      go_ret
      exact ⟨rfl, rfl⟩
  · go_enter Tryd.func21, Tryd.ntmps21
    go_wp2
    go_ret
    exact ⟨rfl, rfl⟩
set_option maxHeartbeats 400000 in
theorem skip_FnPeekTwoAgreesWithPeekOfAdvancedState (w : World) (A A' : Option Addr) (n c n' c' bsp : Nat) (h1 : n ≤ 9223372036854775807) (h2 : n' ≤ 9223372036854775807) (h : ¬ (n + n' ≤ 1048576 ∧ n ≤ 1024 ∧ bsp ≤ n)) :
    Calls Tryd.prog 8 #[.slice A n c, .int .u64 bsp, .slice A' n' c'] w fun e w' => e = .returned (.bool true) ∧ w = w' := by
  by_cases h3 : n + n' ≤ 1048576
  · by_cases h4 : n ≤ 1024
    · have h5 : n < bsp := by omega
      clear h
      go_enter Tryd.func8, Tryd.ntmps8
      go_wp2_with (go_at_call 21; refine (yes_FnPeekTwoAgreesWithPeekOfAdvancedState _ _ _ _ _ _ _ _ h3).mono ?_; rintro e w' ⟨rfl, rfl⟩)
      go_ret
      exact ⟨rfl, rfl⟩
    · clear h
      go_enter Tryd.func8, Tryd.ntmps8
      go_wp2_with (go_at_call 21; refine (yes_FnPeekTwoAgreesWithPeekOfAdvancedState _ _ _ _ _ _ _ _ h3).mono ?_; rintro e w' ⟨rfl, rfl⟩)
      go_ret
      exact ⟨rfl, rfl⟩
  · clear h
    go_enter Tryd.func8, Tryd.ntmps8
    go_wp2_with (go_at_call 21; refine (no_FnPeekTwoAgreesWithPeekOfAdvancedState _ _ _ _ _ _ _ _ (by omega) h1 h2).mono ?_; rintro e w' ⟨rfl, rfl⟩)
    go_ret
    exact ⟨rfl, rfl⟩
theorem stream_len (w : World) (A A' : Option Addr) (n c n' c' bsp : Nat) (hb : bsp ≤ n) (hn : n ≤ 1048576) (hn' : n' ≤ 1048576) :
    Calls Tryd.prog 22 #[.slice A n c, .int .u64 bsp, .slice A' n' c'] w fun e w' => e = .returned (.int .i64 (n - bsp + n' : Nat)) ∧ w = w' := by
  go_enter Tryd.func22, Tryd.ntmps22
  go_wp2
  go_ret
  refine ⟨?_, rfl⟩
  show Ending.returned (.int .i64 ((n : Int) - bsp + n')) = _
  rw [show ((n : Int) - bsp + n') = ((n - bsp + n' : Nat) : Int) by omega]

theorem SrcB.tail1 {w : World} {g o n : Nat} {l : List UInt8} (h : SrcB w (some ⟨g, o, none⟩) n l) (h1 : 1 < n) : SrcB w (some ⟨g, o + 1, none⟩) (n - 1) l.tail := by
  obtain ⟨g', o', e, hg, hc⟩ := h.2 (by omega)
  cases e
  refine ⟨by rw [List.length_tail, h.1], fun _ => ⟨g, o + 1, rfl, hg, fun j c hj => ?_⟩⟩
  rw [Nat.add_assoc, Nat.add_comm 1 j]
  exact hc (j + 1) c (by rw [← hj]; simp)
theorem SrcB.tail0 {w : World} {A A' : Option Addr} {n : Nat} {l : List UInt8} (h : SrcB w A n l) (h1 : n = 1) : SrcB w A' (n - 1) l.tail :=
  ⟨by rw [List.length_tail, h.1], fun h0 => absurd h0 (by omega)⟩
/-- Where rest[1:] begins. -/
def tailA (g o n : Nat) : Addr := if n = 1 then ⟨g, o, none⟩ else ⟨g, o + 1, none⟩
@[go_sem high] theorem slice_tail (w : World) (g o n : Nat) (h : 1 ≤ n) : (Instr.slice 22 (.slice (some ⟨g, o, none⟩) n n) (some (.int .i64 1)) none none).run Tryd.prog w = .ok (.slice (some (tailA g o n)) (n - 1) (n - 1)) w := by
  have hs : (sizeOf (Tryd.prog.elem 22)).run Tryd.prog w = .ok 1 w := by kernel_rfl
  rw [run_slice_l w _ _ _ _ (by kernel_rfl) .i64 1 (by omega) (by omega), hs]
  simp only [Result.andThen_ok, sliced, tailA]
  by_cases h1 : n = 1 <;> simp [h1, addr_add]
theorem SrcB.tailA {w : World} {g o n : Nat} {l : List UInt8} (h : SrcB w (some ⟨g, o, none⟩) n l) (h1 : 1 ≤ n) : SrcB w (some (tailA g o n)) (n - 1) l.tail := by
  unfold YtmmoeendejbjeaaDoor.tailA
  by_cases h2 : n = 1
  · exact h.tail0 h2
  · rw [if_neg h2]; exact h.tail1 (by omega)
theorem atD_next_in (l l' : List UInt8) (bsp : Nat) (h : bsp < l.length) : atD (l.drop (bsp + 1) ++ l') 0 = atD (l.drop bsp ++ l') 1 := by
  rw [List.drop_eq_getElem_cons h]
  rfl
theorem atD_next_out (l l' : List UInt8) (bsp : Nat) (h : l.length ≤ bsp) : atD (l.drop bsp ++ l'.tail) 0 = atD (l.drop bsp ++ l') 1 := by
  rw [List.drop_of_length_le h]
  cases l' with
  | nil => rfl
  | cons a t => rfl
theorem atD_nil (k : Nat) : atD [] k = 128 := rfl

set_option maxRecDepth 100000 in
set_option maxHeartbeats 800000 in
theorem ok_nil_FnPeekTwoAgreesWithPeekOfAdvancedState (w : World) (A A' : Option Addr) (n c n' c' bsp : Nat) (l l' : List UInt8) (ea : Addr) (h : SrcB w A n l) (h' : SrcB w A' n' l') (hA : A = none → n = 0 ∧ c = 0) (hA' : A' = none → n' = 0 ∧ c' = 0)
    (h0 : (((n - bsp + n' : Nat) : Int) == 0) = true) (h00 : Hid (n ≤ bsp ∧ n' = 0)) (hN : n + n' ≤ 1048576) (hn : n ≤ 1024) (hb : bsp ≤ n) (hg : w.cell? ⟨0, 0, none⟩ = some (EOFv ea)) :
    Calls Tryd.prog 8 #[.slice A n c, .int .u64 bsp, .slice A' n' c'] w fun e w' => e = .returned (.bool true) ∧ Kept [] w w' := by
  have HS := Lib.hid h
  have HS' := Lib.hid h'
  have HA := Lib.hid hA
  have HA' := Lib.hid hA'
  have HG := Lib.hid hg
  clear h h' hA hA' hg
  go_enter Tryd.func8, Tryd.ntmps8
  go_wp2_with (go_at_call 21; refine (yes_FnPeekTwoAgreesWithPeekOfAdvancedState _ _ _ _ _ _ _ _ hN).mono ?_; rintro e w' ⟨rfl, rfl⟩)
  refine (clone_spec w A n c l (by omega) HA.out HS.out).mono ?_
  rintro e w1 ⟨A1, rfl, hs1, hk1⟩
  have HS1 := Lib.hid hs1; have HK1 := Lib.hid hk1; clear hs1 hk1
  go_wp2_with fail
  refine (clone_spec w1 A' n' c' l' (by omega) HA'.out (HS'.out.kept HK1.out (by simp))).mono ?_
  rintro e w2 ⟨A2, rfl, hs2, hk2⟩
  have HS2 := Lib.hid hs2; have HK2 := Lib.hid (HK1.out.trans hk2); have HS1' := Lib.hid (HS1.out.kept hk2 (by simp)); clear hs2 hk2
  have HG2 := Lib.hid ((HK2.out.cell (p := ⟨0, 0, none⟩) (block_lt_of_cell HG.out) (by simp)).trans HG.out)
  have hz : l.drop bsp ++ l' = [] := by
    have e1 := HS.out.1
    have e2 := HS'.out.1
    have h00 := h00.out
    rw [List.drop_of_length_le (by omega), List.eq_nil_of_length_eq_zero (l := l') (by omega)]
    rfl
  have HZ := Lib.hid hz; clear hz h00
  go_wp2_with fail
  refine (new_at w2 A1 A2 n n n' n' bsp l l' 1 ⟨#[]⟩ ea HS1'.out HS2.out hn (by omega) (by omega) hb HG2.out).mono ?_
  rintro e w3 ⟨rfl, hm3, hk3⟩
  have HM3 := Lib.hid hm3; have HK3 := Lib.hid (hk3.weaken (S' := [w2.heap.size, w2.heap.size + 1]) (by simp)); clear hm3 hk3
  go_wp2_with fail
  refine (zpeek2 HM3.out).mono ?_
  rintro e w4 ⟨rfl, hk, hm⟩
  rw [HZ.out, atD_nil, atD_nil]
  have HM4 := Lib.hid hm; have HK4 := Lib.hid (HK3.out.trans hk); clear hk hm
  go_wp2_with fail
  refine (stream_len w4 A1 A2 n n n' n' bsp hb (by omega) (by omega)).mono ?_
  rintro e w' ⟨rfl, rfl⟩
  go_wp2_with fail
  go_ret
  exact ⟨rfl, ((HK2.out.weaken (S' := [w2.heap.size, w2.heap.size + 1]) (by simp)).trans HK4.out).weaken (by have := HK2.out.size; simp; omega)⟩

set_option maxRecDepth 100000 in
set_option maxHeartbeats 800000 in
theorem ok_in_FnPeekTwoAgreesWithPeekOfAdvancedState (w : World) (A A' : Option Addr) (n c n' c' bsp : Nat) (l l' : List UInt8) (ea : Addr) (h : SrcB w A n l) (h' : SrcB w A' n' l') (hA : A = none → n = 0 ∧ c = 0) (hA' : A' = none → n' = 0 ∧ c' = 0)
    (h0 : (((n - bsp + n' : Nat) : Int) == 0) = false) (hlt : bsp < n) (hN : n + n' ≤ 1048576) (hn : n ≤ 1024) (hb : bsp ≤ n) (hg : w.cell? ⟨0, 0, none⟩ = some (EOFv ea)) :
    Calls Tryd.prog 8 #[.slice A n c, .int .u64 bsp, .slice A' n' c'] w fun e w' => e = .returned (.bool true) ∧ Kept [] w w' := by
  have HS := Lib.hid h
  have HS' := Lib.hid h'
  have HA := Lib.hid hA
  have HA' := Lib.hid hA'
  have HG := Lib.hid hg
  clear h h' hA hA' hg
  go_enter Tryd.func8, Tryd.ntmps8
  go_wp2_with (go_at_call 21; refine (yes_FnPeekTwoAgreesWithPeekOfAdvancedState _ _ _ _ _ _ _ _ hN).mono ?_; rintro e w' ⟨rfl, rfl⟩)
  refine (clone_spec w A n c l (by omega) HA.out HS.out).mono ?_
  rintro e w1 ⟨A1, rfl, hs1, hk1⟩
  have HS1 := Lib.hid hs1; have HK1 := Lib.hid hk1; clear hs1 hk1
  go_wp2_with fail
  refine (clone_spec w1 A' n' c' l' (by omega) HA'.out (HS'.out.kept HK1.out (by simp))).mono ?_
  rintro e w2 ⟨A2, rfl, hs2, hk2⟩
  have HS2 := Lib.hid hs2; have HK2 := Lib.hid (HK1.out.trans hk2); have HS1' := Lib.hid (HS1.out.kept hk2 (by simp)); clear hs2 hk2
  have HG2 := Lib.hid ((HK2.out.cell (p := ⟨0, 0, none⟩) (block_lt_of_cell HG.out) (by simp)).trans HG.out)
  have hnx : atD (l.drop (bsp + 1) ++ l') 0 = atD (l.drop bsp ++ l') 1 := atD_next_in l l' bsp (by have := HS.out.1; omega)
  have HNX := Lib.hid hnx; clear hnx
  go_wp2_with fail
  refine (new_at w2 A1 A2 n n n' n' bsp l l' 1 ⟨#[]⟩ ea HS1'.out HS2.out hn (by omega) (by omega) hb HG2.out).mono ?_
  rintro e w3 ⟨rfl, hm3, hk3⟩
  have HM3 := Lib.hid hm3; have HK3 := Lib.hid (hk3.weaken (S' := [w2.heap.size, w2.heap.size + 1]) (by simp)); clear hm3 hk3
  go_wp2_with fail
  refine (zpeek2 HM3.out).mono ?_
  rintro e w4 ⟨rfl, hk, hm⟩
  have HM4 := Lib.hid hm; have HK4 := Lib.hid (HK3.out.trans hk); clear hk hm
  go_wp2_with fail
  refine (stream_len w4 A1 A2 n n n' n' bsp hb (by omega) (by omega)).mono ?_
  rintro e w' ⟨rfl, rfl⟩
  have HS1b := Lib.hid (HS1'.out.after HK4.out); have HS2b := Lib.hid (HS2.out.after HK4.out)
  have HG4 := Lib.hid ((HK4.out.cell (p := ⟨0, 0, none⟩) (block_lt_of_cell HG2.out) (by have h1 := block_lt_of_cell HG2.out; have h2 : 0 < w2.heap.size := h1; simp; omega)).trans HG2.out)
  go_wp2_with fail
  refine (new_at w4 A1 A2 n n n' n' bsp l l' 1 ⟨#[]⟩ ea HS1b.out HS2b.out hn (by omega) (by omega) hb HG4.out).mono ?_
  rintro e w5 ⟨rfl, hm5, hk5⟩
  have HM5 := Lib.hid hm5; have HK5 := Lib.hid (hk5.weaken (S' := [w4.heap.size, w4.heap.size + 1]) (by simp)); clear hm5 hk5
  go_wp2_with fail
  refine (zpeek HM5.out).mono ?_
  rintro e w6 ⟨rfl, hk, hm⟩
  have HM6 := Lib.hid hm; have HK6 := Lib.hid (HK5.out.trans hk); clear hk hm
  have HK7 := Lib.hid (HK4.out.trans (HK6.out.weaken (S' := [w2.heap.size, w2.heap.size + 1]) (by simp)))
  have HS1c := Lib.hid (HS1'.out.after HK7.out); have HS2c := Lib.hid (HS2.out.after HK7.out)
  have HG6 := Lib.hid ((HK7.out.cell (p := ⟨0, 0, none⟩) (block_lt_of_cell HG2.out) (by have h1 := block_lt_of_cell HG2.out; have h2 : 0 < w2.heap.size := h1; simp; omega)).trans HG2.out)
  go_wp2_with fail
  rw [show ((bsp : Int) + 1) = ((bsp + 1 : Nat) : Int) by omega]
  refine (new_at w6 A1 A2 n n n' n' (bsp + 1) l l' 1 ⟨#[]⟩ ea HS1c.out HS2c.out hn (by omega) (by omega) (by omega) HG6.out).mono ?_
  rintro e w7 ⟨rfl, hm7, hk7⟩
  have HM7 := Lib.hid hm7; have HKq := Lib.hid (hk7.weaken (S' := [w6.heap.size, w6.heap.size + 1]) (by simp)); clear hm7 hk7
  go_wp2_with fail
  refine (zpeek HM7.out).mono ?_
  rintro e w8 ⟨rfl, hk, hm⟩
  rw [HNX.out]
  have HM8 := Lib.hid hm; have HK8 := Lib.hid (HKq.out.trans hk); clear hk hm
  have HK9 := Lib.hid (HK7.out.trans (HK8.out.weaken (S' := [w2.heap.size, w2.heap.size + 1]) (by simp)))
  go_wp2_with fail
  go_ret
  exact ⟨rfl, ((HK2.out.weaken (S' := [w2.heap.size, w2.heap.size + 1]) (by simp)).trans HK9.out).weaken (by have := HK2.out.size; simp; omega)⟩

set_option maxRecDepth 100000 in
set_option maxHeartbeats 800000 in
theorem ok_out_FnPeekTwoAgreesWithPeekOfAdvancedState (w : World) (A A' : Option Addr) (n c n' c' bsp : Nat) (l l' : List UInt8) (ea : Addr) (h : SrcB w A n l) (h' : SrcB w A' n' l') (hA : A = none → n = 0 ∧ c = 0) (hA' : A' = none → n' = 0 ∧ c' = 0)
    (h0 : (((n - bsp + n' : Nat) : Int) == 0) = false) (hge : n ≤ bsp) (h1n : 1 ≤ n') (hN : n + n' ≤ 1048576) (hn : n ≤ 1024) (hb : bsp ≤ n) (hg : w.cell? ⟨0, 0, none⟩ = some (EOFv ea)) :
    Calls Tryd.prog 8 #[.slice A n c, .int .u64 bsp, .slice A' n' c'] w fun e w' => e = .returned (.bool true) ∧ Kept [] w w' := by
  have HS := Lib.hid h
  have HS' := Lib.hid h'
  have HA := Lib.hid hA
  have HA' := Lib.hid hA'
  have HG := Lib.hid hg
  clear h h' hA hA' hg
  go_enter Tryd.func8, Tryd.ntmps8
  go_wp2_with (go_at_call 21; refine (yes_FnPeekTwoAgreesWithPeekOfAdvancedState _ _ _ _ _ _ _ _ hN).mono ?_; rintro e w' ⟨rfl, rfl⟩)
  refine (clone_spec w A n c l (by omega) HA.out HS.out).mono ?_
  rintro e w1 ⟨A1, rfl, hs1, hk1⟩
  have HS1 := Lib.hid hs1; have HK1 := Lib.hid hk1; clear hs1 hk1
  go_wp2_with fail
  refine (clone_spec w1 A' n' c' l' (by omega) HA'.out (HS'.out.kept HK1.out (by simp))).mono ?_
  rintro e w2 ⟨A2, rfl, hs2, hk2⟩
  have HS2 := Lib.hid hs2; have HK2 := Lib.hid (HK1.out.trans hk2); have HS1' := Lib.hid (HS1.out.kept hk2 (by simp)); clear hs2 hk2
  have HG2 := Lib.hid ((HK2.out.cell (p := ⟨0, 0, none⟩) (block_lt_of_cell HG.out) (by simp)).trans HG.out)
  have hnx : atD (l.drop bsp ++ l'.tail) 0 = atD (l.drop bsp ++ l') 1 := atD_next_out l l' bsp (by have := HS.out.1; omega)
  have HNX := Lib.hid hnx; clear hnx
  have hnb : ¬ bsp < n := by omega
  obtain ⟨g2, o2, rfl⟩ : ∃ g o, A2 = some ⟨g, o, none⟩ := by
    obtain ⟨g, o, e, _⟩ := HS2.out.2 (by omega)
    exact ⟨g, o, e⟩
  go_wp2_with fail
  refine (new_at w2 A1 (some ⟨g2, o2, none⟩) n n n' n' bsp l l' 1 ⟨#[]⟩ ea HS1'.out HS2.out hn (by omega) (by omega) hb HG2.out).mono ?_
  rintro e w3 ⟨rfl, hm3, hk3⟩
  have HM3 := Lib.hid hm3; have HK3 := Lib.hid (hk3.weaken (S' := [w2.heap.size, w2.heap.size + 1]) (by simp)); clear hm3 hk3
  go_wp2_with fail
  refine (zpeek2 HM3.out).mono ?_
  rintro e w4 ⟨rfl, hk, hm⟩
  have HM4 := Lib.hid hm; have HK4 := Lib.hid (HK3.out.trans hk); clear hk hm
  go_wp2_with fail
  refine (stream_len w4 A1 (some ⟨g2, o2, none⟩) n n n' n' bsp hb (by omega) (by omega)).mono ?_
  rintro e w' ⟨rfl, rfl⟩
  have HS1b := Lib.hid (HS1'.out.after HK4.out); have HS2b := Lib.hid (HS2.out.after HK4.out)
  have HG4 := Lib.hid ((HK4.out.cell (p := ⟨0, 0, none⟩) (block_lt_of_cell HG2.out) (by have h1 := block_lt_of_cell HG2.out; have h2 : 0 < w2.heap.size := h1; simp; omega)).trans HG2.out)
  go_wp2_with fail
  refine (new_at w4 A1 (some ⟨g2, o2, none⟩) n n n' n' bsp l l' 1 ⟨#[]⟩ ea HS1b.out HS2b.out hn (by omega) (by omega) hb HG4.out).mono ?_
  rintro e w5 ⟨rfl, hm5, hk5⟩
  have HM5 := Lib.hid hm5; have HK5 := Lib.hid (hk5.weaken (S' := [w4.heap.size, w4.heap.size + 1]) (by simp)); clear hm5 hk5
  go_wp2_with fail
  refine (zpeek HM5.out).mono ?_
  rintro e w6 ⟨rfl, hk, hm⟩
  have HM6 := Lib.hid hm; have HK6 := Lib.hid (HK5.out.trans hk); clear hk hm
  have HK7 := Lib.hid (HK4.out.trans (HK6.out.weaken (S' := [w2.heap.size, w2.heap.size + 1]) (by simp)))
  have HS1c := Lib.hid (HS1'.out.after HK7.out); have HS2c := Lib.hid (HS2.out.after HK7.out)
  have HG6 := Lib.hid ((HK7.out.cell (p := ⟨0, 0, none⟩) (block_lt_of_cell HG2.out) (by have h1 := block_lt_of_cell HG2.out; have h2 : 0 < w2.heap.size := h1; simp; omega)).trans HG2.out)
  have HS2d := Lib.hid (HS2c.out.tailA h1n)
  go_wp2_with fail
  refine (new_at w6 A1 (some (tailA g2 o2 n')) n n (n' - 1) (n' - 1) bsp l l'.tail 1 ⟨#[]⟩ ea HS1c.out HS2d.out hn (by omega) (by omega) hb HG6.out).mono ?_
  rintro e w7 ⟨rfl, hm7, hk7⟩
  have HM7 := Lib.hid hm7; have HKq := Lib.hid (hk7.weaken (S' := [w6.heap.size, w6.heap.size + 1]) (by simp)); clear hm7 hk7
  go_wp2_with fail
  refine (zpeek HM7.out).mono ?_
  rintro e w8 ⟨rfl, hk, hm⟩
  rw [HNX.out]
  have HM8 := Lib.hid hm; have HK8 := Lib.hid (HKq.out.trans hk); clear hk hm
  have HK9 := Lib.hid (HK7.out.trans (HK8.out.weaken (S' := [w2.heap.size, w2.heap.size + 1]) (by simp)))
  go_wp2_with fail
  go_ret
  exact ⟨rfl, ((HK2.out.weaken (S' := [w2.heap.size, w2.heap.size + 1]) (by simp)).trans HK9.out).weaken (by have := HK2.out.size; simp; omega)⟩

theorem ok_FnPeekTwoAgreesWithPeekOfAdvancedState (w : World) (A A' : Option Addr) (n c n' c' bsp : Nat) (l l' : List UInt8) (ea : Addr) (h : SrcB w A n l) (h' : SrcB w A' n' l') (hA : A = none → n = 0 ∧ c = 0) (hA' : A' = none → n' = 0 ∧ c' = 0)
    (hN : n + n' ≤ 1048576) (hn : n ≤ 1024) (hb : bsp ≤ n) (hg : w.cell? ⟨0, 0, none⟩ = some (EOFv ea)) :
    Calls Tryd.prog 8 #[.slice A n c, .int .u64 bsp, .slice A' n' c'] w fun e w' => e = .returned (.bool true) ∧ Kept [] w w' := by
  by_cases h1 : bsp < n
  · exact ok_in_FnPeekTwoAgreesWithPeekOfAdvancedState w A A' n c n' c' bsp l l' ea h h' hA hA' (beq_eq_false_iff_ne.2 (by omega)) h1 hN hn hb hg
  · by_cases h2 : 1 ≤ n'
    · exact ok_out_FnPeekTwoAgreesWithPeekOfAdvancedState w A A' n c n' c' bsp l l' ea h h' hA hA' (beq_eq_false_iff_ne.2 (by omega)) (by omega) h2 hN hn hb hg
    · exact ok_nil_FnPeekTwoAgreesWithPeekOfAdvancedState w A A' n c n' c' bsp l l' ea h h' hA hA' (beq_iff_eq.2 (by omega)) (show n ≤ bsp ∧ n' = 0 by omega) hN hn hb hg
end Go.Proofs.YtmmoeendejbjeaaDoor
