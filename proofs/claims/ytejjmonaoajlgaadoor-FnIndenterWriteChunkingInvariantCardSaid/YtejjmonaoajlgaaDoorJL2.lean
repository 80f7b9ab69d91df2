/-
  n010_58: FnIndenterWriteChunkingInvariant, walked.
-/
import Derived.Test.YtejjmonaoajlgaaDoorJx
namespace Go.Proofs.YtejjmonaoajlgaaDoor
open Go.RowKit

set_option maxRecDepth 100000 in
theorem yes_FnIndenterWriteChunkingInvariant (w : World) (base : Int) (Al : Option Addr) (nl cl : Nat) (cut : Int) (h : nl ≤ 1048576) :
    Calls Tryd.prog 11 #[.int .i64 base, .slice Al nl cl, .int .i64 cut] w fun e w' => e = .returned (.bool true) ∧ w = w' := by
  go_enter Tryd.func11, Tryd.ntmps11
  go_wp2
  go_ret
  exact ⟨rfl, rfl⟩
set_option maxRecDepth 100000 in
theorem no_FnIndenterWriteChunkingInvariant (w : World) (base : Int) (Al : Option Addr) (nl cl : Nat) (cut : Int) (h : 1048576 < nl) (hm0 : nl ≤ 9223372036854775807) :
    Calls Tryd.prog 11 #[.int .i64 base, .slice Al nl cl, .int .i64 cut] w fun e w' => e = .returned (.bool false) ∧ w = w' := by
  go_enter Tryd.func11, Tryd.ntmps11
  go_wp2
  all_goals (
    go_ret
    exact ⟨rfl, rfl⟩)
set_option maxRecDepth 100000 in
set_option maxHeartbeats 1600000 in
theorem skip_FnIndenterWriteChunkingInvariant (w : World) (base : Int) (Al : Option Addr) (nl cl : Nat) (cut : Int) (h : ¬ (nl ≤ 1048576 ∧ nl ≤ 65536 ∧ 1 ≤ base ∧ base ≤ 4096)) (hm0 : nl ≤ 9223372036854775807) :
    Calls Tryd.prog 4 #[.int .i64 base, .slice Al nl cl, .int .i64 cut] w fun e w' => e = .returned (.bool true) ∧ w = w' := by
  by_cases h3 : nl ≤ 1048576
  · have h4 : 65536 < nl ∨ base < 1 ∨ 4096 < base := by omega
    clear h
    rcases h4 with h4 | h4 | h4
    all_goals (
      go_enter Tryd.func4, Tryd.ntmps4
      go_wp2_with (go_at_call 11; refine (yes_FnIndenterWriteChunkingInvariant _ _ _ _ _ _ h3).mono ?_; rintro e w' ⟨rfl, rfl⟩)
      all_goals (
        go_ret
        exact ⟨rfl, rfl⟩))
  · clear h
    go_enter Tryd.func4, Tryd.ntmps4
    go_wp2_with (go_at_call 11; refine (no_FnIndenterWriteChunkingInvariant _ _ _ _ _ _ (by omega) hm0).mono ?_; rintro e w' ⟨rfl, rfl⟩)
    go_ret
    exact ⟨rfl, rfl⟩

set_option maxRecDepth 100000 in
set_option maxHeartbeats 3200000 in
theorem ok_FnIndenterWriteChunkingInvariant (w : World) (base : Int) (Al : Option Addr) (nl cl : Nat) (cut : Int) (l : List UInt8) (hs : SrcB w Al nl l) (hA : Al = none → nl = 0 ∧ cl = 0) (hn : nl ≤ 65536) (hb1 : 1 ≤ base) (hb2 : base ≤ 4096) :
    Calls Tryd.prog 4 #[.int .i64 base, .slice Al nl cl, .int .i64 cut] w fun e w' => e = .returned (.bool true) ∧ Kept [] w w' := by
  have HCN := Lib.hid (zcount w Al nl cl l hs (by omega))
  have HCL := Lib.hid (clone2 w Al nl cl l (by omega) hA hs)
  have HLL := Lib.hid hs.1
  clear hs hA
  have hb3 : 0 ≤ base := by omega
  have hb4 : base ≤ 65536 := by omega
  have hol := out_le hb3 hb4 l (by have := HLL.out; omega)
  go_enter Tryd.func4, Tryd.ntmps4
  go_wp2_with (go_at_call 11; refine (yes_FnIndenterWriteChunkingInvariant _ _ _ _ _ _ (by omega)).mono ?_; rintro e w' ⟨rfl, rfl⟩)
  refine HCN.out.mono ?_
  rintro e w' ⟨⟨m, hm, rfl⟩, rfl⟩
  have hp := prod_bound (a := (m : Int)) (b := base) (by omega) (by omega) (by omega) (by omega)
  obtain ⟨hp0, hp1⟩ := hp
  by_cases hP : 1048576 < (m : Int) * base
  · go_wp2_with fail
    go_ret
    exact ⟨rfl, Kept.refl _ _⟩
  have hP2 : (m : Int) * base ≤ 1048576 := by omega
  clear hP
  by_cases hcut : 0 ≤ cut ∧ cut ≤ nl
  case neg =>
    have hcut2 : cut < 0 ∨ (nl : Int) < cut := by omega
    rcases hcut2 with h | h
    all_goals (
      go_wp2_with fail
      go_ret
      exact ⟨rfl, Kept.refl _ _⟩)
  obtain ⟨hcu1, hcu2⟩ := hcut
  obtain ⟨k, rfl⟩ := Int.eq_ofNat_of_zero_le hcu1
  have hkn : k ≤ nl := by omega
  go_wp2_with fail
  refine HCL.out.mono ?_
  rintro e w1 ⟨A1, rfl, hs1, hk1, ha1⟩
  have hA1 : (A1 = none ∧ nl = 0 ∧ nl = 0) ∨ ∃ g o, A1 = some ⟨g, o, none⟩ := by
    rcases ha1 with ⟨h1, h2⟩ | ⟨h1, h2⟩
    · exact .inl ⟨h1, h2, h2⟩
    · exact .inr ⟨_, _, h1⟩
  have HS1 := Lib.hid hs1; have HK1 := Lib.hid hk1; have HA1 := Lib.hid hA1
  clear hs1 hk1 ha1 hA1 HCL HCN
  have HZ := Lib.hid (zone w1 base A1 nl nl l HS1.out hb3 hb4 (by omega))
  have g0 : ((nl : Int) != nl) = false := by simp
  obtain ⟨O, hO⟩ : ∃ O, O = (foldI base is0 l).out := ⟨_, rfl⟩
  rw [← hO] at hol HZ
  have HO := Lib.hid hO
  clear hO
  go_wp2_with fail
  refine HZ.out.mono ?_
  rintro e w2 ⟨B2, c2, rfl, hs2, hk2⟩
  have HS2 := Lib.hid hs2; have HK2 := Lib.hid hk2
  clear hs2 hk2 HZ
  have hs1b := HS1.out.kept HK2.out (by simp)
  have hsh := hs1b.hi k hkn
  have q2 := fun w => cut_hi A1 nl k hkn w
  generalize (if nl = k then A1 else A1.map (·.add k)) = Ah at hsh q2
  have HT := Lib.hid (fun (nd : Nat) => ztwo (w2.drewN nd) base A1 k nl (l.take k) Ah (nl - k) (nl - k) (l.drop k) ((hs1b.lo k hkn).kept (S := []) ((Kept.refl _ _).drewN nd) (by simp)) (hsh.kept (S := []) ((Kept.refl _ _).drewN nd) (by simp)) hb3 hb4 (by omega))
  have HT2 : Hid (∀ nd : Nat, Calls Tryd.prog 12 #[.int .i64 base, .slice A1 k nl, .slice Ah (nl - k) (nl - k)] (w2.drewN nd) fun e w' => (∃ B d, e = .returned (.tuple #[.slice B O.length d, .int .i64 k, .int .i64 ((nl : Int) - k)]) ∧ SrcB w' B O.length O) ∧ Kept [] w2 w') := Lib.hid (fun nd => by
    have h := HT.out nd
    rw [List.take_append_drop, ← HO.out, show ((nl - k : Nat) : Int) = (nl : Int) - k by omega] at h
    refine h.mono ?_
    rintro e w' ⟨B, d, rfl, h1, h2⟩
    exact ⟨⟨B, d, rfl, h1⟩, ((Kept.refl [] w2).drewN nd).trans h2⟩)
  have q1 := fun w => cut_lo A1 nl k hkn w
  clear hs1b HT hsh
  go_wp2_with fail
  go_region_with (go_at_call 12; refine (HT2.out _).mono ?_; rintro e w3 ⟨⟨B3, c3, rfl, hs3⟩, hk3⟩; have HS3 := Lib.hid hs3; have HK3 := Lib.hid hk3; clear hs3 hk3)
  all_goals (
    have hcv : ∀ W, Kept [] w3 W → (convert 22 9 (.slice A1 nl nl)).run Tryd.prog W = .ok (.string ⟨l.toArray⟩) W := fun W hW => conv_str W A1 nl nl l (((HS1.out.kept HK2.out (by simp)).kept HK3.out (by simp)).kept hW (by simp)) (HA1.out.imp (fun h => ⟨h.1, h.2.1⟩) id)
    have hcv0 := hcv w3 (Kept.refl _ _)
    have hsz : (⟨l.toArray⟩ : ByteArray).size = nl := HLL.out
    have hz := zstr w3 base ⟨l.toArray⟩ l rfl hb3 hb4 (by rw [hsz]; omega)
    rw [hsz, ← HO.out] at hz
    have HZ := Lib.hid hz
    have g3 : ((k : Int) != k) = false := by simp
    have g4 : (((nl : Int) - k) != ((nl : Int) - k)) = false := by simp
    clear hcv hz hsz q1 q2
    go_wp2_with fail
    refine HZ.out.mono ?_
    rintro e w4 ⟨B4, c4, rfl, hs4, hk4⟩
    have HS4 := Lib.hid hs4; have HK4 := Lib.hid hk4
    have HQ1 := Lib.hid (zeq w4 B2 B3 _ c2 c3 O ((HS2.out.kept HK3.out (by simp)).kept hk4 (by simp)) (HS3.out.kept hk4 (by simp)) (by omega))
    clear hs4 hk4 HZ hcv0
    go_wp2_with fail
    refine HQ1.out.mono ?_
    rintro e w5 ⟨rfl, hk5⟩
    have HQ2 := Lib.hid (zeq w5 B2 B4 _ c2 c4 O (((HS2.out.kept HK3.out (by simp)).kept HK4.out (by simp)).kept hk5 (by simp)) (HS4.out.kept hk5 (by simp)) (by omega))
    have HK5 := Lib.hid hk5
    clear hk5
    go_wp2_with fail
    refine HQ2.out.mono ?_
    rintro e w6 ⟨rfl, hk6⟩
    have HK6 := Lib.hid hk6; clear hk6
    go_wp2_with fail
    go_ret
    exact ⟨rfl, ((((HK1.out.trans HK2.out).trans HK3.out).trans HK4.out).trans HK5.out).trans HK6.out⟩)
end Go.Proofs.YtejjmonaoajlgaaDoor
