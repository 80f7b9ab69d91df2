/-
  n010_87: the laws on extendedGlob and on advanced states, walked.
-/
import Derived.Test.YtmmoeendejbjeaaDoorPkGlob
namespace Go.Proofs.YtmmoeendejbjeaaDoor
open Go.RowKit

theorem yes_FnExtendedGlobConsumesNothing (w : World) (A A' : Option Addr) (n c n' c' : Nat) (b d : Value) (v : ByteArray) (h : n + n' + v.size ≤ 1048576) :
    Calls Tryd.prog 19 #[.slice A n c, b, .slice A' n' c', d, .string v] w fun e w' => e = .returned (.bool true) ∧ w = w' := by
  go_enter Tryd.func19, Tryd.ntmps19
  go_wp2
  go_ret
  exact ⟨rfl, rfl⟩
theorem no_FnExtendedGlobConsumesNothing (w : World) (A A' : Option Addr) (n c n' c' : Nat) (b d : Value) (v : ByteArray) (h : 1048576 < n + n' + v.size) (h1 : n ≤ 9223372036854775807) (h2 : n' ≤ 9223372036854775807) (h3 : v.size ≤ 9223372036854775807) :
    Calls Tryd.prog 19 #[.slice A n c, b, .slice A' n' c', d, .string v] w fun e w' => e = .returned (.bool false) ∧ w = w' := by
  by_cases h3 : n ≤ 1048576
  · by_cases h4 : n' ≤ 1048576
    · by_cases h5 : n + n' ≤ 1048576
      · by_cases h6 : v.size ≤ 1048576
        · go_enter Tryd.func19, Tryd.ntmps19
          go_wp2
          go_ret
          exact ⟨rfl, rfl⟩
        · go_enter Tryd.func19, Tryd.ntmps19
          go_wp2
          go_ret
          exact ⟨rfl, rfl⟩
      · go_enter Tryd.func19, Tryd.ntmps19
        go_wp2
        go_ret
        exact ⟨rfl, rfl⟩
    · go_enter Tryd.func19, Tryd.ntmps19
      go_wp2
      go_ret
      exact ⟨rfl, rfl⟩
  · go_enter Tryd.func19, Tryd.ntmps19
    go_wp2
    go_ret
    exact ⟨rfl, rfl⟩
set_option maxHeartbeats 400000 in
theorem skip_FnExtendedGlobConsumesNothing (w : World) (A A' : Option Addr) (n c n' c' bsp : Nat) (li : Int) (v : ByteArray) (h1 : n ≤ 9223372036854775807) (h2 : n' ≤ 9223372036854775807) (hv : v.size ≤ 9223372036854775807) (h : ¬ (n + n' + v.size ≤ 1048576 ∧ n ≤ 1024 ∧ v.size ≤ 65536 ∧ bsp ≤ n ∧ 0 ≤ li ∧ li ≤ 4)) :
    Calls Tryd.prog 6 #[.slice A n c, .int .u64 bsp, .slice A' n' c', .int .i64 li, .string v] w fun e w' => e = .returned (.bool true) ∧ w = w' := by
  by_cases h3 : n + n' + v.size ≤ 1048576
  · by_cases h4 : n ≤ 1024
    · by_cases h5 : v.size ≤ 65536
      · by_cases h6 : bsp ≤ n
        · by_cases h7 : 0 ≤ li
          · have h8 : 4 < li := by omega
            clear h
            go_enter Tryd.func6, Tryd.ntmps6
            go_wp2_with (go_at_call 19; refine (yes_FnExtendedGlobConsumesNothing _ _ _ _ _ _ _ _ _ _ h3).mono ?_; rintro e w' ⟨rfl, rfl⟩)
            go_ret
            exact ⟨rfl, rfl⟩
          · clear h
            go_enter Tryd.func6, Tryd.ntmps6
            go_wp2_with (go_at_call 19; refine (yes_FnExtendedGlobConsumesNothing _ _ _ _ _ _ _ _ _ _ h3).mono ?_; rintro e w' ⟨rfl, rfl⟩)
            go_ret
            exact ⟨rfl, rfl⟩
        · clear h
          go_enter Tryd.func6, Tryd.ntmps6
          go_wp2_with (go_at_call 19; refine (yes_FnExtendedGlobConsumesNothing _ _ _ _ _ _ _ _ _ _ h3).mono ?_; rintro e w' ⟨rfl, rfl⟩)
          go_ret
          exact ⟨rfl, rfl⟩
      · clear h
        go_enter Tryd.func6, Tryd.ntmps6
        go_wp2_with (go_at_call 19; refine (yes_FnExtendedGlobConsumesNothing _ _ _ _ _ _ _ _ _ _ h3).mono ?_; rintro e w' ⟨rfl, rfl⟩)
        go_ret
        exact ⟨rfl, rfl⟩
    · clear h
      go_enter Tryd.func6, Tryd.ntmps6
      go_wp2_with (go_at_call 19; refine (yes_FnExtendedGlobConsumesNothing _ _ _ _ _ _ _ _ _ _ h3).mono ?_; rintro e w' ⟨rfl, rfl⟩)
      go_ret
      exact ⟨rfl, rfl⟩
  · clear h
    go_enter Tryd.func6, Tryd.ntmps6
    go_wp2_with (go_at_call 19; refine (no_FnExtendedGlobConsumesNothing _ _ _ _ _ _ _ _ _ _ (by omega) h1 h2 hv).mono ?_; rintro e w' ⟨rfl, rfl⟩)
    go_ret
    exact ⟨rfl, rfl⟩
set_option maxRecDepth 100000 in
set_option maxHeartbeats 800000 in
theorem ok_FnExtendedGlobConsumesNothing (w : World) (A A' : Option Addr) (n c n' c' bsp : Nat) (l l' : List UInt8) (ea : Addr) (h : SrcB w A n l) (h' : SrcB w A' n' l') (hA : A = none → n = 0 ∧ c = 0) (hA' : A' = none → n' = 0 ∧ c' = 0)
    (li : Int) (v : ByteArray) (hN : n + n' + v.size ≤ 1048576) (hvs : v.size ≤ 65536) (hl0 : 0 ≤ li) (hl4 : li ≤ 4) (hn : n ≤ 1024) (hb : bsp ≤ n) (hg : w.cell? ⟨0, 0, none⟩ = some (EOFv ea)) :
    Calls Tryd.prog 6 #[.slice A n c, .int .u64 bsp, .slice A' n' c', .int .i64 li, .string v] w fun e w' => e = .returned (.bool true) ∧ Kept [] w w' := by
  have HS := Lib.hid h
  have HS' := Lib.hid h'
  have HA := Lib.hid hA
  have HA' := Lib.hid hA'
  have HG := Lib.hid hg
  clear h h' hA hA' hg
  go_enter Tryd.func6, Tryd.ntmps6
  go_wp2_with (go_at_call 19; refine (yes_FnExtendedGlobConsumesNothing _ _ _ _ _ _ _ _ _ _ hN).mono ?_; rintro e w' ⟨rfl, rfl⟩)
  refine (clone_spec w A n c l (by omega) HA.out HS.out).mono ?_
  rintro e w1 ⟨A1, rfl, hs1, hk1⟩
  have HS1 := Lib.hid hs1; have HK1 := Lib.hid hk1; clear hs1 hk1
  go_wp2_with fail
  refine (clone_spec w1 A' n' c' l' (by omega) HA'.out (HS'.out.kept HK1.out (by simp))).mono ?_
  rintro e w2 ⟨A2, rfl, hs2, hk2⟩
  have HS2 := Lib.hid hs2; have HK2 := Lib.hid (HK1.out.trans hk2); have HS1' := Lib.hid (HS1.out.kept hk2 (by simp)); clear hs2 hk2
  have HG2 := Lib.hid ((HK2.out.cell (p := ⟨0, 0, none⟩) (block_lt_of_cell HG.out) (by simp)).trans HG.out)
  go_wp2_with fail
  refine (lang_at w2 li hl0 hl4).mono ?_
  rintro e w' ⟨rfl, rfl⟩
  go_wp2_with fail
  refine (new_at w2 A1 A2 n n n' n' bsp l l' (langOf li) v ea HS1'.out HS2.out hn (by omega) (by omega) hb HG2.out).mono ?_
  rintro e w3 ⟨rfl, hm3, hk3⟩
  have HM3 := Lib.hid hm3; have HK3 := Lib.hid (hk3.weaken (S' := [w2.heap.size, w2.heap.size + 1]) (by simp)); clear hm3 hk3
  go_wp2_with fail
  refine (zeg HM3.out (langOf_is li)).mono ?_
  rintro e w4 ⟨rfl, hk, hm⟩
  have HM4 := Lib.hid hm; have HK4 := Lib.hid (HK3.out.trans hk); clear hk hm
  go_wp2_with fail
  refine (zpeek2 HM4.out).mono ?_
  rintro e w5 ⟨rfl, hk, hm⟩
  have HM5 := Lib.hid hm; have HK5 := Lib.hid (HK4.out.trans hk); clear hk hm
  go_wp2_with fail
  refine (zpeek HM5.out).mono ?_
  rintro e w6 ⟨rfl, hk, hm⟩
  have HM6 := Lib.hid hm; have HK6 := Lib.hid (HK5.out.trans hk); clear hk hm
  go_wp2_with fail
  refine (stream_at w6 A1 A2 n n n' n' bsp 0 l l' (HS1'.out.after HK6.out) (HS2.out.after HK6.out) hb (by omega) (by omega) (by omega)).mono ?_
  rintro e w' ⟨rfl, rfl⟩
  go_wp2_with fail
  refine (stream_at w6 A1 A2 n n n' n' bsp 1 l l' (HS1'.out.after HK6.out) (HS2.out.after HK6.out) hb (by omega) (by omega) (by omega)).mono ?_
  rintro e w' ⟨rfl, rfl⟩
  go_wp2_with fail
  go_ret
  exact ⟨rfl, ((HK2.out.weaken (S' := [w2.heap.size, w2.heap.size + 1]) (by simp)).trans HK6.out).weaken (by have := HK2.out.size; simp; omega)⟩

theorem yes_FnExtendedGlobCaseTable (w : World) (A A' : Option Addr) (n c n' c' : Nat) (b d : Value) (v : ByteArray) (h : n + n' + v.size ≤ 1048576) :
    Calls Tryd.prog 16 #[.slice A n c, b, .slice A' n' c', d, .string v] w fun e w' => e = .returned (.bool true) ∧ w = w' := by
  go_enter Tryd.func16, Tryd.ntmps16
  go_wp2
  go_ret
  exact ⟨rfl, rfl⟩
theorem no_FnExtendedGlobCaseTable (w : World) (A A' : Option Addr) (n c n' c' : Nat) (b d : Value) (v : ByteArray) (h : 1048576 < n + n' + v.size) (h1 : n ≤ 9223372036854775807) (h2 : n' ≤ 9223372036854775807) (h3 : v.size ≤ 9223372036854775807) :
    Calls Tryd.prog 16 #[.slice A n c, b, .slice A' n' c', d, .string v] w fun e w' => e = .returned (.bool false) ∧ w = w' := by
  by_cases h3 : n ≤ 1048576
  · by_cases h4 : n' ≤ 1048576
    · by_cases h5 : n + n' ≤ 1048576
      · by_cases h6 : v.size ≤ 1048576
        · go_enter Tryd.func16, Tryd.ntmps16
          go_wp2
          go_ret
          exact ⟨rfl, rfl⟩
        · go_enter Tryd.func16, Tryd.ntmps16
          go_wp2
          go_ret
          exact ⟨rfl, rfl⟩
      · go_enter Tryd.func16, Tryd.ntmps16
        go_wp2
        go_ret
        exact ⟨rfl, rfl⟩
    · go_enter Tryd.func16, Tryd.ntmps16
      go_wp2
      go_ret
      exact ⟨rfl, rfl⟩
  · go_enter Tryd.func16, Tryd.ntmps16
    go_wp2
    go_ret
    exact ⟨rfl, rfl⟩
set_option maxHeartbeats 400000 in
theorem skip_FnExtendedGlobCaseTable (w : World) (A A' : Option Addr) (n c n' c' bsp : Nat) (li : Int) (v : ByteArray) (h1 : n ≤ 9223372036854775807) (h2 : n' ≤ 9223372036854775807) (hv : v.size ≤ 9223372036854775807) (h : ¬ (n + n' + v.size ≤ 1048576 ∧ n ≤ 1024 ∧ v.size ≤ 65536 ∧ bsp ≤ n ∧ 0 ≤ li ∧ li ≤ 4)) :
    Calls Tryd.prog 5 #[.slice A n c, .int .u64 bsp, .slice A' n' c', .int .i64 li, .string v] w fun e w' => e = .returned (.bool true) ∧ w = w' := by
  by_cases h3 : n + n' + v.size ≤ 1048576
  · by_cases h4 : n ≤ 1024
    · by_cases h5 : v.size ≤ 65536
      · by_cases h6 : bsp ≤ n
        · by_cases h7 : 0 ≤ li
          · have h8 : 4 < li := by omega
            clear h
            go_enter Tryd.func5, Tryd.ntmps5
            go_wp2_with (go_at_call 16; refine (yes_FnExtendedGlobCaseTable _ _ _ _ _ _ _ _ _ _ h3).mono ?_; rintro e w' ⟨rfl, rfl⟩)
            go_ret
            exact ⟨rfl, rfl⟩
          · clear h
            go_enter Tryd.func5, Tryd.ntmps5
            go_wp2_with (go_at_call 16; refine (yes_FnExtendedGlobCaseTable _ _ _ _ _ _ _ _ _ _ h3).mono ?_; rintro e w' ⟨rfl, rfl⟩)
            go_ret
            exact ⟨rfl, rfl⟩
        · clear h
          go_enter Tryd.func5, Tryd.ntmps5
          go_wp2_with (go_at_call 16; refine (yes_FnExtendedGlobCaseTable _ _ _ _ _ _ _ _ _ _ h3).mono ?_; rintro e w' ⟨rfl, rfl⟩)
          go_ret
          exact ⟨rfl, rfl⟩
      · clear h
        go_enter Tryd.func5, Tryd.ntmps5
        go_wp2_with (go_at_call 16; refine (yes_FnExtendedGlobCaseTable _ _ _ _ _ _ _ _ _ _ h3).mono ?_; rintro e w' ⟨rfl, rfl⟩)
        go_ret
        exact ⟨rfl, rfl⟩
    · clear h
      go_enter Tryd.func5, Tryd.ntmps5
      go_wp2_with (go_at_call 16; refine (yes_FnExtendedGlobCaseTable _ _ _ _ _ _ _ _ _ _ h3).mono ?_; rintro e w' ⟨rfl, rfl⟩)
      go_ret
      exact ⟨rfl, rfl⟩
  · clear h
    go_enter Tryd.func5, Tryd.ntmps5
    go_wp2_with (go_at_call 16; refine (no_FnExtendedGlobCaseTable _ _ _ _ _ _ _ _ _ _ (by omega) h1 h2 hv).mono ?_; rintro e w' ⟨rfl, rfl⟩)
    go_ret
    exact ⟨rfl, rfl⟩
set_option maxRecDepth 100000 in
set_option maxHeartbeats 800000 in
theorem ok_zsh_FnExtendedGlobCaseTable (w : World) (A A' : Option Addr) (n c n' c' bsp : Nat) (l l' : List UInt8) (ea : Addr) (h : SrcB w A n l) (h' : SrcB w A' n' l') (hA : A = none → n = 0 ∧ c = 0) (hA' : A' = none → n' = 0 ∧ c' = 0)
    (li : Int) (v : ByteArray) (hN : n + n' + v.size ≤ 1048576) (hvs : v.size ≤ 65536) (hl0 : 0 ≤ li) (hl4 : li ≤ 4) (h4n : (li != 4) = false) (hE : egB (langOf li) v (l.drop bsp ++ l') = false) (hn : n ≤ 1024) (hb : bsp ≤ n) (hg : w.cell? ⟨0, 0, none⟩ = some (EOFv ea)) :
    Calls Tryd.prog 5 #[.slice A n c, .int .u64 bsp, .slice A' n' c', .int .i64 li, .string v] w fun e w' => e = .returned (.bool true) ∧ Kept [] w w' := by
  have HS := Lib.hid h
  have HS' := Lib.hid h'
  have HA := Lib.hid hA
  have HA' := Lib.hid hA'
  have HG := Lib.hid hg
  clear h h' hA hA' hg
  go_enter Tryd.func5, Tryd.ntmps5
  go_wp2_with (go_at_call 16; refine (yes_FnExtendedGlobCaseTable _ _ _ _ _ _ _ _ _ _ hN).mono ?_; rintro e w' ⟨rfl, rfl⟩)
  refine (clone_spec w A n c l (by omega) HA.out HS.out).mono ?_
  rintro e w1 ⟨A1, rfl, hs1, hk1⟩
  have HS1 := Lib.hid hs1; have HK1 := Lib.hid hk1; clear hs1 hk1
  go_wp2_with fail
  refine (clone_spec w1 A' n' c' l' (by omega) HA'.out (HS'.out.kept HK1.out (by simp))).mono ?_
  rintro e w2 ⟨A2, rfl, hs2, hk2⟩
  have HS2 := Lib.hid hs2; have HK2 := Lib.hid (HK1.out.trans hk2); have HS1' := Lib.hid (HS1.out.kept hk2 (by simp)); clear hs2 hk2
  have HG2 := Lib.hid ((HK2.out.cell (p := ⟨0, 0, none⟩) (block_lt_of_cell HG.out) (by simp)).trans HG.out)
  go_wp2_with fail
  refine (lang_at w2 li hl0 hl4).mono ?_
  rintro e w' ⟨rfl, rfl⟩
  go_wp2_with fail
  refine (new_at w2 A1 A2 n n n' n' bsp l l' (langOf li) v ea HS1'.out HS2.out hn (by omega) (by omega) hb HG2.out).mono ?_
  rintro e w3 ⟨rfl, hm3, hk3⟩
  have HM3 := Lib.hid hm3; have HK3 := Lib.hid (hk3.weaken (S' := [w2.heap.size, w2.heap.size + 1]) (by simp)); clear hm3 hk3
  go_wp2_with fail
  refine (zeg HM3.out (langOf_is li)).mono ?_
  rintro e w4 ⟨rfl, hk, hm⟩
  have HM4 := Lib.hid hm; have HK4 := Lib.hid (HK3.out.trans hk); clear hk hm
  rw [hE]
  go_wp2_with fail
  go_ret
  exact ⟨rfl, ((HK2.out.weaken (S' := [w2.heap.size, w2.heap.size + 1]) (by simp)).trans HK4.out).weaken (by have := HK2.out.size; simp; omega)⟩

set_option maxRecDepth 100000 in
set_option maxHeartbeats 800000 in
theorem ok_fn_FnExtendedGlobCaseTable (w : World) (A A' : Option Addr) (n c n' c' bsp : Nat) (l l' : List UInt8) (ea : Addr) (h : SrcB w A n l) (h' : SrcB w A' n' l') (hA : A = none → n = 0 ∧ c = 0) (hA' : A' = none → n' = 0 ∧ c' = 0)
    (li : Int) (v : ByteArray) (hN : n + n' + v.size ≤ 1048576) (hvs : v.size ≤ 65536) (hl0 : 0 ≤ li) (hl4 : li ≤ 4) (h4n : (li != 4) = true) (hf : (v.toList == [102, 117, 110, 99, 116, 105, 111, 110]) = true) (hE : egB (langOf li) v (l.drop bsp ++ l') = false) (hn : n ≤ 1024) (hb : bsp ≤ n) (hg : w.cell? ⟨0, 0, none⟩ = some (EOFv ea)) :
    Calls Tryd.prog 5 #[.slice A n c, .int .u64 bsp, .slice A' n' c', .int .i64 li, .string v] w fun e w' => e = .returned (.bool true) ∧ Kept [] w w' := by
  have HS := Lib.hid h
  have HS' := Lib.hid h'
  have HA := Lib.hid hA
  have HA' := Lib.hid hA'
  have HG := Lib.hid hg
  clear h h' hA hA' hg
  go_enter Tryd.func5, Tryd.ntmps5
  go_wp2_with (go_at_call 16; refine (yes_FnExtendedGlobCaseTable _ _ _ _ _ _ _ _ _ _ hN).mono ?_; rintro e w' ⟨rfl, rfl⟩)
  refine (clone_spec w A n c l (by omega) HA.out HS.out).mono ?_
  rintro e w1 ⟨A1, rfl, hs1, hk1⟩
  have HS1 := Lib.hid hs1; have HK1 := Lib.hid hk1; clear hs1 hk1
  go_wp2_with fail
  refine (clone_spec w1 A' n' c' l' (by omega) HA'.out (HS'.out.kept HK1.out (by simp))).mono ?_
  rintro e w2 ⟨A2, rfl, hs2, hk2⟩
  have HS2 := Lib.hid hs2; have HK2 := Lib.hid (HK1.out.trans hk2); have HS1' := Lib.hid (HS1.out.kept hk2 (by simp)); clear hs2 hk2
  have HG2 := Lib.hid ((HK2.out.cell (p := ⟨0, 0, none⟩) (block_lt_of_cell HG.out) (by simp)).trans HG.out)
  go_wp2_with fail
  refine (lang_at w2 li hl0 hl4).mono ?_
  rintro e w' ⟨rfl, rfl⟩
  go_wp2_with fail
  refine (new_at w2 A1 A2 n n n' n' bsp l l' (langOf li) v ea HS1'.out HS2.out hn (by omega) (by omega) hb HG2.out).mono ?_
  rintro e w3 ⟨rfl, hm3, hk3⟩
  have HM3 := Lib.hid hm3; have HK3 := Lib.hid (hk3.weaken (S' := [w2.heap.size, w2.heap.size + 1]) (by simp)); clear hm3 hk3
  go_wp2_with fail
  refine (zeg HM3.out (langOf_is li)).mono ?_
  rintro e w4 ⟨rfl, hk, hm⟩
  have HM4 := Lib.hid hm; have HK4 := Lib.hid (HK3.out.trans hk); clear hk hm
  rw [hE]
  go_wp2_with fail
  go_ret
  exact ⟨rfl, ((HK2.out.weaken (S' := [w2.heap.size, w2.heap.size + 1]) (by simp)).trans HK4.out).weaken (by have := HK2.out.size; simp; omega)⟩

set_option maxRecDepth 100000 in
set_option maxHeartbeats 800000 in
theorem ok_a_FnExtendedGlobCaseTable (w : World) (A A' : Option Addr) (n c n' c' bsp : Nat) (l l' : List UInt8) (ea : Addr) (h : SrcB w A n l) (h' : SrcB w A' n' l') (hA : A = none → n = 0 ∧ c = 0) (hA' : A' = none → n' = 0 ∧ c' = 0)
    (li : Int) (v : ByteArray) (hN : n + n' + v.size ≤ 1048576) (hvs : v.size ≤ 65536) (hl0 : 0 ≤ li) (hl4 : li ≤ 4) (h4n : (li != 4) = true) (hf : (v.toList == [102, 117, 110, 99, 116, 105, 111, 110]) = false) (h0 : (((atD (l.drop bsp ++ l') 0).toNat : Int) == 40) = false) (hE : egB (langOf li) v (l.drop bsp ++ l') = false) (hn : n ≤ 1024) (hb : bsp ≤ n) (hg : w.cell? ⟨0, 0, none⟩ = some (EOFv ea)) :
    Calls Tryd.prog 5 #[.slice A n c, .int .u64 bsp, .slice A' n' c', .int .i64 li, .string v] w fun e w' => e = .returned (.bool true) ∧ Kept [] w w' := by
  have HS := Lib.hid h
  have HS' := Lib.hid h'
  have HA := Lib.hid hA
  have HA' := Lib.hid hA'
  have HG := Lib.hid hg
  clear h h' hA hA' hg
  go_enter Tryd.func5, Tryd.ntmps5
  go_wp2_with (go_at_call 16; refine (yes_FnExtendedGlobCaseTable _ _ _ _ _ _ _ _ _ _ hN).mono ?_; rintro e w' ⟨rfl, rfl⟩)
  refine (clone_spec w A n c l (by omega) HA.out HS.out).mono ?_
  rintro e w1 ⟨A1, rfl, hs1, hk1⟩
  have HS1 := Lib.hid hs1; have HK1 := Lib.hid hk1; clear hs1 hk1
  go_wp2_with fail
  refine (clone_spec w1 A' n' c' l' (by omega) HA'.out (HS'.out.kept HK1.out (by simp))).mono ?_
  rintro e w2 ⟨A2, rfl, hs2, hk2⟩
  have HS2 := Lib.hid hs2; have HK2 := Lib.hid (HK1.out.trans hk2); have HS1' := Lib.hid (HS1.out.kept hk2 (by simp)); clear hs2 hk2
  have HG2 := Lib.hid ((HK2.out.cell (p := ⟨0, 0, none⟩) (block_lt_of_cell HG.out) (by simp)).trans HG.out)
  go_wp2_with fail
  refine (lang_at w2 li hl0 hl4).mono ?_
  rintro e w' ⟨rfl, rfl⟩
  go_wp2_with fail
  refine (new_at w2 A1 A2 n n n' n' bsp l l' (langOf li) v ea HS1'.out HS2.out hn (by omega) (by omega) hb HG2.out).mono ?_
  rintro e w3 ⟨rfl, hm3, hk3⟩
  have HM3 := Lib.hid hm3; have HK3 := Lib.hid (hk3.weaken (S' := [w2.heap.size, w2.heap.size + 1]) (by simp)); clear hm3 hk3
  go_wp2_with fail
  refine (zeg HM3.out (langOf_is li)).mono ?_
  rintro e w4 ⟨rfl, hk, hm⟩
  have HM4 := Lib.hid hm; have HK4 := Lib.hid (HK3.out.trans hk); clear hk hm
  rw [hE]
  go_wp2_with fail
  refine (stream_at w4 A1 A2 n n n' n' bsp 0 l l' (HS1'.out.after HK4.out) (HS2.out.after HK4.out) hb (by omega) (by omega) (by omega)).mono ?_
  rintro e w' ⟨rfl, rfl⟩
  go_wp2_with fail
  go_ret
  exact ⟨rfl, ((HK2.out.weaken (S' := [w2.heap.size, w2.heap.size + 1]) (by simp)).trans HK4.out).weaken (by have := HK2.out.size; simp; omega)⟩

set_option maxRecDepth 100000 in
set_option maxHeartbeats 800000 in
theorem ok_b_FnExtendedGlobCaseTable (w : World) (A A' : Option Addr) (n c n' c' bsp : Nat) (l l' : List UInt8) (ea : Addr) (h : SrcB w A n l) (h' : SrcB w A' n' l') (hA : A = none → n = 0 ∧ c = 0) (hA' : A' = none → n' = 0 ∧ c' = 0)
    (li : Int) (v : ByteArray) (hN : n + n' + v.size ≤ 1048576) (hvs : v.size ≤ 65536) (hl0 : 0 ≤ li) (hl4 : li ≤ 4) (h4n : (li != 4) = true) (hf : (v.toList == [102, 117, 110, 99, 116, 105, 111, 110]) = false) (h0 : (((atD (l.drop bsp ++ l') 0).toNat : Int) == 40) = true) (hE : egB (langOf li) v (l.drop bsp ++ l') = (((atD (l.drop bsp ++ l') 1).toNat : Int) != 41)) (hn : n ≤ 1024) (hb : bsp ≤ n) (hg : w.cell? ⟨0, 0, none⟩ = some (EOFv ea)) :
    Calls Tryd.prog 5 #[.slice A n c, .int .u64 bsp, .slice A' n' c', .int .i64 li, .string v] w fun e w' => e = .returned (.bool true) ∧ Kept [] w w' := by
  have HS := Lib.hid h
  have HS' := Lib.hid h'
  have HA := Lib.hid hA
  have HA' := Lib.hid hA'
  have HG := Lib.hid hg
  clear h h' hA hA' hg
  go_enter Tryd.func5, Tryd.ntmps5
  go_wp2_with (go_at_call 16; refine (yes_FnExtendedGlobCaseTable _ _ _ _ _ _ _ _ _ _ hN).mono ?_; rintro e w' ⟨rfl, rfl⟩)
  refine (clone_spec w A n c l (by omega) HA.out HS.out).mono ?_
  rintro e w1 ⟨A1, rfl, hs1, hk1⟩
  have HS1 := Lib.hid hs1; have HK1 := Lib.hid hk1; clear hs1 hk1
  go_wp2_with fail
  refine (clone_spec w1 A' n' c' l' (by omega) HA'.out (HS'.out.kept HK1.out (by simp))).mono ?_
  rintro e w2 ⟨A2, rfl, hs2, hk2⟩
  have HS2 := Lib.hid hs2; have HK2 := Lib.hid (HK1.out.trans hk2); have HS1' := Lib.hid (HS1.out.kept hk2 (by simp)); clear hs2 hk2
  have HG2 := Lib.hid ((HK2.out.cell (p := ⟨0, 0, none⟩) (block_lt_of_cell HG.out) (by simp)).trans HG.out)
  go_wp2_with fail
  refine (lang_at w2 li hl0 hl4).mono ?_
  rintro e w' ⟨rfl, rfl⟩
  go_wp2_with fail
  refine (new_at w2 A1 A2 n n n' n' bsp l l' (langOf li) v ea HS1'.out HS2.out hn (by omega) (by omega) hb HG2.out).mono ?_
  rintro e w3 ⟨rfl, hm3, hk3⟩
  have HM3 := Lib.hid hm3; have HK3 := Lib.hid (hk3.weaken (S' := [w2.heap.size, w2.heap.size + 1]) (by simp)); clear hm3 hk3
  go_wp2_with fail
  refine (zeg HM3.out (langOf_is li)).mono ?_
  rintro e w4 ⟨rfl, hk, hm⟩
  have HM4 := Lib.hid hm; have HK4 := Lib.hid (HK3.out.trans hk); clear hk hm
  rw [hE]
  go_wp2_with fail
  refine (stream_at w4 A1 A2 n n n' n' bsp 0 l l' (HS1'.out.after HK4.out) (HS2.out.after HK4.out) hb (by omega) (by omega) (by omega)).mono ?_
  rintro e w' ⟨rfl, rfl⟩
  go_wp2_with fail
  refine (stream_at w4 A1 A2 n n n' n' bsp 1 l l' (HS1'.out.after HK4.out) (HS2.out.after HK4.out) hb (by omega) (by omega) (by omega)).mono ?_
  rintro e w' ⟨rfl, rfl⟩
  go_wp2_with fail
  go_ret
  exact ⟨rfl, ((HK2.out.weaken (S' := [w2.heap.size, w2.heap.size + 1]) (by simp)).trans HK4.out).weaken (by have := HK2.out.size; simp; omega)⟩


theorem ok_FnExtendedGlobCaseTable (w : World) (A A' : Option Addr) (n c n' c' bsp : Nat) (l l' : List UInt8) (ea : Addr) (h : SrcB w A n l) (h' : SrcB w A' n' l') (hA : A = none → n = 0 ∧ c = 0) (hA' : A' = none → n' = 0 ∧ c' = 0)
    (li : Int) (v : ByteArray) (hN : n + n' + v.size ≤ 1048576) (hvs : v.size ≤ 65536) (hl0 : 0 ≤ li) (hl4 : li ≤ 4) (hn : n ≤ 1024) (hb : bsp ≤ n) (hg : w.cell? ⟨0, 0, none⟩ = some (EOFv ea)) :
    Calls Tryd.prog 5 #[.slice A n c, .int .u64 bsp, .slice A' n' c', .int .i64 li, .string v] w fun e w' => e = .returned (.bool true) ∧ Kept [] w w' := by
  have hi : li = 4 ∨ (li ≠ 4 ∧ (langOf li == 16) = false) := by
    have : li = 0 ∨ li = 1 ∨ li = 2 ∨ li = 3 ∨ li = 4 := by omega
    rcases this with rfl | rfl | rfl | rfl | rfl <;> simp [langOf]
  rcases hi with rfl | ⟨h4, h16⟩
  · exact ok_zsh_FnExtendedGlobCaseTable w A A' n c n' c' bsp l l' ea h h' hA hA' 4 v hN hvs hl0 hl4 rfl rfl hn hb hg
  · have h4n : (li != 4) = true := by simpa using h4
    cases hv : (v.toList == [102, 117, 110, 99, 116, 105, 111, 110]) with
    | true => exact ok_fn_FnExtendedGlobCaseTable w A A' n c n' c' bsp l l' ea h h' hA hA' li v hN hvs hl0 hl4 h4n hv (by simp only [egB, hv]; simp) hn hb hg
    | false =>
      cases h0 : (((atD (l.drop bsp ++ l') 0).toNat : Int) == 40) with
      | false => exact ok_a_FnExtendedGlobCaseTable w A A' n c n' c' bsp l l' ea h h' hA hA' li v hN hvs hl0 hl4 h4n hv h0 (by simp only [egB, hv, h16, h0]; rfl) hn hb hg
      | true => exact ok_b_FnExtendedGlobCaseTable w A A' n c n' c' bsp l l' ea h h' hA hA' li v hN hvs hl0 hl4 h4n hv h0 (by simp only [egB, hv, h16, h0]; rfl) hn hb hg

end Go.Proofs.YtmmoeendejbjeaaDoor
