/-
  n010_58: FnIndenterWriteMatchesModel, walked.
-/
import Derived.Test.YtejjmonaoajlgaaDoorJx
namespace Go.Proofs.YtejjmonaoajlgaaDoor
open Go.RowKit

set_option maxRecDepth 100000 in
theorem yes_FnIndenterWriteMatchesModel (w : World) (base : Int) (Al : Option Addr) (nl cl : Nat) (h : nl ≤ 1048576) :
    Calls Tryd.prog 5 #[.int .i64 base, .slice Al nl cl] w fun e w' => e = .returned (.bool true) ∧ w = w' := by
  go_enter Tryd.func5, Tryd.ntmps5
  go_wp2
  go_ret
  exact ⟨rfl, rfl⟩
set_option maxRecDepth 100000 in
theorem no_FnIndenterWriteMatchesModel (w : World) (base : Int) (Al : Option Addr) (nl cl : Nat) (h : 1048576 < nl) (hm0 : nl ≤ 9223372036854775807) :
    Calls Tryd.prog 5 #[.int .i64 base, .slice Al nl cl] w fun e w' => e = .returned (.bool false) ∧ w = w' := by
  go_enter Tryd.func5, Tryd.ntmps5
  go_wp2
  all_goals (
    go_ret
    exact ⟨rfl, rfl⟩)
set_option maxRecDepth 100000 in
set_option maxHeartbeats 1600000 in
theorem skip_FnIndenterWriteMatchesModel (w : World) (base : Int) (Al : Option Addr) (nl cl : Nat) (h : ¬ (nl ≤ 1048576 ∧ nl ≤ 65536 ∧ 1 ≤ base ∧ base ≤ 4096)) (hm0 : nl ≤ 9223372036854775807) :
    Calls Tryd.prog 3 #[.int .i64 base, .slice Al nl cl] w fun e w' => e = .returned (.bool true) ∧ w = w' := by
  by_cases h3 : nl ≤ 1048576
  · have h4 : 65536 < nl ∨ base < 1 ∨ 4096 < base := by omega
    clear h
    rcases h4 with h4 | h4 | h4
    all_goals (
      go_enter Tryd.func3, Tryd.ntmps3
      go_wp2_with (go_at_call 5; refine (yes_FnIndenterWriteMatchesModel _ _ _ _ _ h3).mono ?_; rintro e w' ⟨rfl, rfl⟩)
      all_goals (
        go_ret
        exact ⟨rfl, rfl⟩))
  · clear h
    go_enter Tryd.func3, Tryd.ntmps3
    go_wp2_with (go_at_call 5; refine (no_FnIndenterWriteMatchesModel _ _ _ _ _ (by omega) hm0).mono ?_; rintro e w' ⟨rfl, rfl⟩)
    go_ret
    exact ⟨rfl, rfl⟩

set_option maxRecDepth 100000 in
set_option maxHeartbeats 3200000 in
theorem ok_FnIndenterWriteMatchesModel (w : World) (base : Int) (Al : Option Addr) (nl cl : Nat) (l : List UInt8) (hs : SrcB w Al nl l) (hA : Al = none → nl = 0 ∧ cl = 0) (hn : nl ≤ 65536) (hb1 : 1 ≤ base) (hb2 : base ≤ 4096) :
    Calls Tryd.prog 3 #[.int .i64 base, .slice Al nl cl] w fun e w' => e = .returned (.bool true) ∧ Kept [] w w' := by
  have HCN := Lib.hid (zcount w Al nl cl l hs (by omega))
  have HCL := Lib.hid (clone2 w Al nl cl l (by omega) hA hs)
  have HLL := Lib.hid hs.1
  clear hs hA
  have hb3 : 0 ≤ base := by omega
  have hb4 : base ≤ 65536 := by omega
  have hol := out_le hb3 hb4 l (by have := HLL.out; omega)
  go_enter Tryd.func3, Tryd.ntmps3
  go_wp2_with (go_at_call 5; refine (yes_FnIndenterWriteMatchesModel _ _ _ _ _ (by omega)).mono ?_; rintro e w' ⟨rfl, rfl⟩)
  refine HCN.out.mono ?_
  rintro e w' ⟨⟨m, hm, rfl⟩, rfl⟩
  have hp := prod_bound (a := (m : Int)) (b := base) (by omega) (by omega) (by omega) (by omega)
  obtain ⟨hp0, hp1⟩ := hp
  by_cases hP : 1048576 < (m : Int) * base
  · go_wp2_with fail
    go_ret
    exact ⟨rfl, Kept.refl _ _⟩
  have hP2 : (m : Int) * base ≤ 1048576 := by omega
  clear hP
  go_wp2_with fail
  refine HCL.out.mono ?_
  rintro e w1 ⟨A1, rfl, hs1, hk1, ha1⟩
  have hA1 : (A1 = none ∧ nl = 0 ∧ nl = 0) ∨ ∃ g o, A1 = some ⟨g, o, none⟩ := by
    rcases ha1 with ⟨h1, h2⟩ | ⟨h1, h2⟩
    · exact .inl ⟨h1, h2, h2⟩
    · exact .inr ⟨_, _, h1⟩
  have HS1 := Lib.hid hs1; have HK1 := Lib.hid hk1; have HA1 := Lib.hid hA1
  clear hs1 hk1 ha1 hA1 HCL HCN
  have HZ := Lib.hid (zone w1 base A1 nl nl l HS1.out hb3 hb4 (by omega))
  have g0 : ((nl : Int) != nl) = false := by simp
  obtain ⟨O, hO⟩ : ∃ O, O = (foldI base is0 l).out := ⟨_, rfl⟩
  rw [← hO] at hol HZ
  have HO := Lib.hid hO
  clear hO
  go_wp2_with fail
  refine HZ.out.mono ?_
  rintro e w2 ⟨B2, c2, rfl, hs2, hk2⟩
  have HS2 := Lib.hid hs2; have HK2 := Lib.hid hk2
  clear hs2 hk2 HZ
  have HM := Lib.hid (mj_of (base := base) (c := nl) (HS1.out.kept HK2.out (by simp)) HA1.out hb3 hb4 (by omega))
  rw [← HO.out] at HM
  go_wp2_with fail
  refine HM.out.mono ?_
  rintro e w3 ⟨B3, c3, rfl, hs3, hk3⟩
  have HQ := Lib.hid (zeq w3 B2 B3 _ c2 c3 O (HS2.out.kept hk3 (by simp)) hs3 (by omega))
  have HK3 := Lib.hid hk3
  clear hs3 hk3 HM
  go_wp2_with fail
  refine HQ.out.mono ?_
  rintro e w4 ⟨rfl, hk4⟩
  have HK4 := Lib.hid hk4; clear hk4
  go_wp2_with fail
  go_ret
  exact ⟨rfl, ((HK1.out.trans HK2.out).trans HK3.out).trans HK4.out⟩
end Go.Proofs.YtejjmonaoajlgaaDoor
