/-
  n010_117's zzValidUTF8_b2, walked: where it says yes, the bytes are valid UTF-8.
-/
import Derived.Test.YtnjaeooblfihbaaFmtVp
import Derived.Test.YtnjaeooblfihbaaFmtByt
import Derived.Handy
namespace Go.Proofs.YtnjaeooblfihbaaFmt
open Go.RowKit

/-- Valid UTF-8. -/
inductive Vu : List UInt8 → Prop
  | nil : Vu []
  | asc (x : UInt8) (t : List UInt8) (h1 : x.toNat < 128) (h : Vu t) : Vu (x :: t)
  | mb (bs t : List UInt8) (a : Nat) (hm : MB bs a) (h : Vu t) : Vu (bs ++ t)
theorem vd_of_vu {s : List UInt8} (h : Vu s) (h0 : (0 : UInt8) ∉ s) : Vd s := by
  induction h with
  | nil => exact .nil
  | asc x t h1 h ih =>
    simp only [List.mem_cons, not_or] at h0
    exact .asc x t h1 (fun e => h0.1 (UInt8.toNat_inj.1 (by rw [e]; rfl))) (ih h0.2)
  | mb bs t a hm h ih =>
    simp only [List.mem_append, not_or] at h0
    exact .mb bs t a hm (ih h0.2)
/-- It says yes or no; where yes, p holds. -/
def SayP (p : Prop) (w w' : World) (e : Ending) : Prop := ∃ b, e = .returned (.bool b) ∧ Kept [] w w' ∧ (b = true → p)
theorem SayP.no {p : Prop} {w w' : World} (k : Kept [] w w') : SayP p w w' (.returned (.bool false)) := ⟨false, rfl, k, fun h => by cases h⟩
theorem SayP.yes {p : Prop} {w w' : World} (k : Kept [] w w') (h : p) : SayP p w w' (.returned (.bool true)) := ⟨true, rfl, k, fun _ => h⟩
theorem drop_one {l : List UInt8} {k : Nat} {x : UInt8} (h : l[k]? = some x) : l.drop k = x :: l.drop (k + 1) := by
  obtain ⟨hlt, rfl⟩ := List.getElem?_eq_some_iff.1 h
  exact List.drop_eq_getElem_cons hlt

set_option maxRecDepth 100000 in
set_option maxHeartbeats 6400000 in
theorem zvalid {w : World} {A : Option Addr} {n c : Nat} {l : List UInt8} (hsrc : SrcB w A n l) (hs : n ≤ 10000000) :
    Calls Tryf.prog 20 #[.slice A n c] w fun e w' => SayP (Vu l) w w' e := by
  have HN := Lib.hid hsrc.1; have HSR := Lib.hid hsrc
  clear hsrc
  go_enter Tryf.func20, Tryf.ntmps20
  go_wp2
  go_loopw [3, 4, 5, 6, 7, 8] (fun i _ _ _ _ _ wr => ∃ k : Nat, k ≤ n ∧ i = .int .i64 k ∧ Hid (Kept [] w wr) ∧ Hid (Vu (l.drop k) → Vu l)) (fun i _ _ _ _ _ _ => n - (intOf i).toNat)
  case atStart => exact ⟨0, Nat.zero_le _, rfl, Lib.hid (Kept.refl _ _), Lib.hid (fun h => by simpa using h)⟩
  case round =>
    obtain ⟨k, hk, rfl, HK, HV⟩ := hrel
    by_cases hlt : k < n
    · obtain ⟨g, o, rfl, hg, hcl⟩ := HSR.out.2 (by omega)
      have HC := Lib.hid hcl
      have at_ : ∀ j, k + j < n → ∃ x : UInt8, l[k + j]? = some x ∧ wr.cell? ⟨g, o + (k + j), none⟩ = some (.int .u8 x.toNat) := fun j hj => by
        have hlt : k + j < l.length := by rw [HN.out]; exact hj
        exact ⟨l[k + j], List.getElem?_eq_getElem hlt, (HK.out.cell (p := ⟨g, o + (k + j), none⟩) hg (by simp)).trans (HC.out _ _ (List.getElem?_eq_getElem hlt))⟩
      clear hcl
      obtain ⟨x0, e0, c0⟩ := at_ 0 (by omega)
      rw [Nat.add_zero] at e0 c0
      have hx0 := x0.toNat_lt
      obtain ⟨X, hX⟩ : ∃ X : Int, X = x0.toNat := ⟨_, rfl⟩
      rw [← hX] at c0
      have hd0 := Lib.hid (drop_one e0)
      have HX := Lib.hid hX; have HAT := Lib.hid at_
      clear e0 at_
      by_cases hasc : X < 128
      · have HV2 := Lib.hid (show Vu (l.drop (k + 1)) → Vu l from fun h => HV.out (by rw [hd0.out]; exact .asc _ _ (by have := HX.out; omega) h))
        clear hX hx0
        go_wp2
        go_roundw
        case rel => exact ⟨k + 1, by omega, by go_num, HK, HV2⟩
        case measure => simp [intOf]; omega
      by_cases hc : 194 ≤ X ∧ X ≤ 223
      · clear hasc
        have hxr : 194 ≤ X ∧ X ≤ 223 := by omega
        clear hc hX hx0
        obtain ⟨hr1, hr2⟩ := hxr
        by_cases hlen : (n : Int) - k ≤ 1
        · go_wp2
          go_returns
          exact SayP.no (by first | exact HK.out | exact HK.out.trans ((Kept.refl _ _).drewN _) | exact HK.out.drew)
        · obtain ⟨x1, e1, c1⟩ := HAT.out 1 (by omega)
          obtain ⟨Y1, hY1⟩ : ∃ Y : Int, Y = x1.toNat := ⟨_, rfl⟩
          rw [← hY1] at c1
          have E1 := Lib.hid e1; have HY1 := Lib.hid hY1
          have c1' : wr.cell? ⟨g, o + k + 1, none⟩ = some (.int .u8 Y1) := by rw [Nat.add_assoc]; exact c1
          clear e1 hY1
          by_cases ha1 : Y1 < 128
          · go_wp2
            go_returns
            exact SayP.no (by first | exact HK.out | exact HK.out.trans ((Kept.refl _ _).drewN _) | exact HK.out.drew)
          by_cases hb1 : 191 < Y1
          · go_wp2
            go_returns
            exact SayP.no (by first | exact HK.out | exact HK.out.trans ((Kept.refl _ _).drewN _) | exact HK.out.drew)
          have HV2 := Lib.hid (show Vu (l.drop (k + 1 + 1)) → Vu l from fun h => HV.out (by
            have q0 := HX.out
            have q1 := HY1.out
            obtain ⟨a, hm⟩ : ∃ a, MB [x0, x1] a := mb_2 (by omega) (by omega) (by omega) (by omega)
            rw [hd0.out, drop_one E1.out]
            exact .mb [x0, x1] _ a hm h))
          go_wp2
          refine wp_loop_rounds 1 ?_
          rw [rounds_succ]
          go_wp2
          go_roundw
          case rel => exact ⟨k + 1 + 1, by omega, by go_num, by first | exact HK | exact Lib.hid (HK.out.trans ((Kept.refl _ _).drewN _)) | exact Lib.hid HK.out.drew, HV2⟩
          case measure => simp [intOf]; omega
      by_cases hc : X = 224
      · clear hasc
        have hxr : X = 224 := by omega
        clear hc hX hx0
        subst hxr
        by_cases hlen : (n : Int) - k ≤ 2
        · go_wp2
          go_returns
          exact SayP.no (by first | exact HK.out | exact HK.out.trans ((Kept.refl _ _).drewN _) | exact HK.out.drew)
        · obtain ⟨x1, e1, c1⟩ := HAT.out 1 (by omega)
          obtain ⟨Y1, hY1⟩ : ∃ Y : Int, Y = x1.toNat := ⟨_, rfl⟩
          rw [← hY1] at c1
          have E1 := Lib.hid e1; have HY1 := Lib.hid hY1
          have c1' : wr.cell? ⟨g, o + k + 1, none⟩ = some (.int .u8 Y1) := by rw [Nat.add_assoc]; exact c1
          clear e1 hY1
          by_cases ha1 : Y1 < 160
          · go_wp2
            go_returns
            exact SayP.no (by first | exact HK.out | exact HK.out.trans ((Kept.refl _ _).drewN _) | exact HK.out.drew)
          by_cases hb1 : 191 < Y1
          · go_wp2
            go_returns
            exact SayP.no (by first | exact HK.out | exact HK.out.trans ((Kept.refl _ _).drewN _) | exact HK.out.drew)
          obtain ⟨x2, e2, c2⟩ := HAT.out 2 (by omega)
          obtain ⟨Y2, hY2⟩ : ∃ Y : Int, Y = x2.toNat := ⟨_, rfl⟩
          rw [← hY2] at c2
          have E2 := Lib.hid e2; have HY2 := Lib.hid hY2
          have c2' : wr.cell? ⟨g, o + k + 2, none⟩ = some (.int .u8 Y2) := by rw [Nat.add_assoc]; exact c2
          clear e2 hY2
          by_cases ha2 : Y2 < 128
          · go_wp2
            refine wp_loop_rounds 1 ?_
            rw [rounds_succ]
            go_wp2
            go_returns
            exact SayP.no (by first | exact HK.out | exact HK.out.trans ((Kept.refl _ _).drewN _) | exact HK.out.drew)
          by_cases hb2 : 191 < Y2
          · go_wp2
            refine wp_loop_rounds 1 ?_
            rw [rounds_succ]
            go_wp2
            go_returns
            exact SayP.no (by first | exact HK.out | exact HK.out.trans ((Kept.refl _ _).drewN _) | exact HK.out.drew)
          have HV2 := Lib.hid (show Vu (l.drop (k + 2 + 1)) → Vu l from fun h => HV.out (by
            have q0 := HX.out
            have q1 := HY1.out
            have q2 := HY2.out
            obtain ⟨a, hm⟩ : ∃ a, MB [x0, x1, x2] a := mb_3 (by omega) (by omega) (by omega) (by omega) (by omega) (by omega) (by omega) (by omega)
            rw [hd0.out, drop_one E1.out, drop_one E2.out]
            exact .mb [x0, x1, x2] _ a hm h))
          go_wp2
          refine wp_loop_rounds 2 ?_
          rw [rounds_succ]
          go_wp2
          rw [rounds_succ]
          go_wp2
          go_roundw
          case rel => exact ⟨k + 2 + 1, by omega, by go_num, by first | exact HK | exact Lib.hid (HK.out.trans ((Kept.refl _ _).drewN _)) | exact Lib.hid HK.out.drew, HV2⟩
          case measure => simp [intOf]; omega
      by_cases hc : 225 ≤ X ∧ X ≤ 236
      · clear hasc
        have hxr : 225 ≤ X ∧ X ≤ 236 := by omega
        clear hc hX hx0
        obtain ⟨hr1, hr2⟩ := hxr
        by_cases hlen : (n : Int) - k ≤ 2
        · go_wp2
          go_returns
          exact SayP.no (by first | exact HK.out | exact HK.out.trans ((Kept.refl _ _).drewN _) | exact HK.out.drew)
        · obtain ⟨x1, e1, c1⟩ := HAT.out 1 (by omega)
          obtain ⟨Y1, hY1⟩ : ∃ Y : Int, Y = x1.toNat := ⟨_, rfl⟩
          rw [← hY1] at c1
          have E1 := Lib.hid e1; have HY1 := Lib.hid hY1
          have c1' : wr.cell? ⟨g, o + k + 1, none⟩ = some (.int .u8 Y1) := by rw [Nat.add_assoc]; exact c1
          clear e1 hY1
          by_cases ha1 : Y1 < 128
          · go_wp2
            go_returns
            exact SayP.no (by first | exact HK.out | exact HK.out.trans ((Kept.refl _ _).drewN _) | exact HK.out.drew)
          by_cases hb1 : 191 < Y1
          · go_wp2
            go_returns
            exact SayP.no (by first | exact HK.out | exact HK.out.trans ((Kept.refl _ _).drewN _) | exact HK.out.drew)
          obtain ⟨x2, e2, c2⟩ := HAT.out 2 (by omega)
          obtain ⟨Y2, hY2⟩ : ∃ Y : Int, Y = x2.toNat := ⟨_, rfl⟩
          rw [← hY2] at c2
          have E2 := Lib.hid e2; have HY2 := Lib.hid hY2
          have c2' : wr.cell? ⟨g, o + k + 2, none⟩ = some (.int .u8 Y2) := by rw [Nat.add_assoc]; exact c2
          clear e2 hY2
          by_cases ha2 : Y2 < 128
          · go_wp2
            refine wp_loop_rounds 1 ?_
            rw [rounds_succ]
            go_wp2
            go_returns
            exact SayP.no (by first | exact HK.out | exact HK.out.trans ((Kept.refl _ _).drewN _) | exact HK.out.drew)
          by_cases hb2 : 191 < Y2
          · go_wp2
            refine wp_loop_rounds 1 ?_
            rw [rounds_succ]
            go_wp2
            go_returns
            exact SayP.no (by first | exact HK.out | exact HK.out.trans ((Kept.refl _ _).drewN _) | exact HK.out.drew)
          have HV2 := Lib.hid (show Vu (l.drop (k + 2 + 1)) → Vu l from fun h => HV.out (by
            have q0 := HX.out
            have q1 := HY1.out
            have q2 := HY2.out
            obtain ⟨a, hm⟩ : ∃ a, MB [x0, x1, x2] a := mb_3 (by omega) (by omega) (by omega) (by omega) (by omega) (by omega) (by omega) (by omega)
            rw [hd0.out, drop_one E1.out, drop_one E2.out]
            exact .mb [x0, x1, x2] _ a hm h))
          go_wp2
          refine wp_loop_rounds 2 ?_
          rw [rounds_succ]
          go_wp2
          rw [rounds_succ]
          go_wp2
          go_roundw
          case rel => exact ⟨k + 2 + 1, by omega, by go_num, by first | exact HK | exact Lib.hid (HK.out.trans ((Kept.refl _ _).drewN _)) | exact Lib.hid HK.out.drew, HV2⟩
          case measure => simp [intOf]; omega
      by_cases hc : X = 237
      · clear hasc
        have hxr : X = 237 := by omega
        clear hc hX hx0
        subst hxr
        by_cases hlen : (n : Int) - k ≤ 2
        · go_wp2
          go_returns
          exact SayP.no (by first | exact HK.out | exact HK.out.trans ((Kept.refl _ _).drewN _) | exact HK.out.drew)
        · obtain ⟨x1, e1, c1⟩ := HAT.out 1 (by omega)
          obtain ⟨Y1, hY1⟩ : ∃ Y : Int, Y = x1.toNat := ⟨_, rfl⟩
          rw [← hY1] at c1
          have E1 := Lib.hid e1; have HY1 := Lib.hid hY1
          have c1' : wr.cell? ⟨g, o + k + 1, none⟩ = some (.int .u8 Y1) := by rw [Nat.add_assoc]; exact c1
          clear e1 hY1
          by_cases ha1 : Y1 < 128
          · go_wp2
            go_returns
            exact SayP.no (by first | exact HK.out | exact HK.out.trans ((Kept.refl _ _).drewN _) | exact HK.out.drew)
          by_cases hb1 : 159 < Y1
          · go_wp2
            go_returns
            exact SayP.no (by first | exact HK.out | exact HK.out.trans ((Kept.refl _ _).drewN _) | exact HK.out.drew)
          obtain ⟨x2, e2, c2⟩ := HAT.out 2 (by omega)
          obtain ⟨Y2, hY2⟩ : ∃ Y : Int, Y = x2.toNat := ⟨_, rfl⟩
          rw [← hY2] at c2
          have E2 := Lib.hid e2; have HY2 := Lib.hid hY2
          have c2' : wr.cell? ⟨g, o + k + 2, none⟩ = some (.int .u8 Y2) := by rw [Nat.add_assoc]; exact c2
          clear e2 hY2
          by_cases ha2 : Y2 < 128
          · go_wp2
            refine wp_loop_rounds 1 ?_
            rw [rounds_succ]
            go_wp2
            go_returns
            exact SayP.no (by first | exact HK.out | exact HK.out.trans ((Kept.refl _ _).drewN _) | exact HK.out.drew)
          by_cases hb2 : 191 < Y2
          · go_wp2
            refine wp_loop_rounds 1 ?_
            rw [rounds_succ]
            go_wp2
            go_returns
            exact SayP.no (by first | exact HK.out | exact HK.out.trans ((Kept.refl _ _).drewN _) | exact HK.out.drew)
          have HV2 := Lib.hid (show Vu (l.drop (k + 2 + 1)) → Vu l from fun h => HV.out (by
            have q0 := HX.out
            have q1 := HY1.out
            have q2 := HY2.out
            obtain ⟨a, hm⟩ : ∃ a, MB [x0, x1, x2] a := mb_3 (by omega) (by omega) (by omega) (by omega) (by omega) (by omega) (by omega) (by omega)
            rw [hd0.out, drop_one E1.out, drop_one E2.out]
            exact .mb [x0, x1, x2] _ a hm h))
          go_wp2
          refine wp_loop_rounds 2 ?_
          rw [rounds_succ]
          go_wp2
          rw [rounds_succ]
          go_wp2
          go_roundw
          case rel => exact ⟨k + 2 + 1, by omega, by go_num, by first | exact HK | exact Lib.hid (HK.out.trans ((Kept.refl _ _).drewN _)) | exact Lib.hid HK.out.drew, HV2⟩
          case measure => simp [intOf]; omega
      by_cases hc : X = 238
      · clear hasc
        have hxr : X = 238 := by omega
        clear hc hX hx0
        subst hxr
        by_cases hlen : (n : Int) - k ≤ 2
        · go_wp2
          go_returns
          exact SayP.no (by first | exact HK.out | exact HK.out.trans ((Kept.refl _ _).drewN _) | exact HK.out.drew)
        · obtain ⟨x1, e1, c1⟩ := HAT.out 1 (by omega)
          obtain ⟨Y1, hY1⟩ : ∃ Y : Int, Y = x1.toNat := ⟨_, rfl⟩
          rw [← hY1] at c1
          have E1 := Lib.hid e1; have HY1 := Lib.hid hY1
          have c1' : wr.cell? ⟨g, o + k + 1, none⟩ = some (.int .u8 Y1) := by rw [Nat.add_assoc]; exact c1
          clear e1 hY1
          by_cases ha1 : Y1 < 128
          · go_wp2
            go_returns
            exact SayP.no (by first | exact HK.out | exact HK.out.trans ((Kept.refl _ _).drewN _) | exact HK.out.drew)
          by_cases hb1 : 191 < Y1
          · go_wp2
            go_returns
            exact SayP.no (by first | exact HK.out | exact HK.out.trans ((Kept.refl _ _).drewN _) | exact HK.out.drew)
          obtain ⟨x2, e2, c2⟩ := HAT.out 2 (by omega)
          obtain ⟨Y2, hY2⟩ : ∃ Y : Int, Y = x2.toNat := ⟨_, rfl⟩
          rw [← hY2] at c2
          have E2 := Lib.hid e2; have HY2 := Lib.hid hY2
          have c2' : wr.cell? ⟨g, o + k + 2, none⟩ = some (.int .u8 Y2) := by rw [Nat.add_assoc]; exact c2
          clear e2 hY2
          by_cases ha2 : Y2 < 128
          · go_wp2
            refine wp_loop_rounds 1 ?_
            rw [rounds_succ]
            go_wp2
            go_returns
            exact SayP.no (by first | exact HK.out | exact HK.out.trans ((Kept.refl _ _).drewN _) | exact HK.out.drew)
          by_cases hb2 : 191 < Y2
          · go_wp2
            refine wp_loop_rounds 1 ?_
            rw [rounds_succ]
            go_wp2
            go_returns
            exact SayP.no (by first | exact HK.out | exact HK.out.trans ((Kept.refl _ _).drewN _) | exact HK.out.drew)
          have HV2 := Lib.hid (show Vu (l.drop (k + 2 + 1)) → Vu l from fun h => HV.out (by
            have q0 := HX.out
            have q1 := HY1.out
            have q2 := HY2.out
            obtain ⟨a, hm⟩ : ∃ a, MB [x0, x1, x2] a := mb_3 (by omega) (by omega) (by omega) (by omega) (by omega) (by omega) (by omega) (by omega)
            rw [hd0.out, drop_one E1.out, drop_one E2.out]
            exact .mb [x0, x1, x2] _ a hm h))
          go_wp2
          refine wp_loop_rounds 2 ?_
          rw [rounds_succ]
          go_wp2
          rw [rounds_succ]
          go_wp2
          go_roundw
          case rel => exact ⟨k + 2 + 1, by omega, by go_num, by first | exact HK | exact Lib.hid (HK.out.trans ((Kept.refl _ _).drewN _)) | exact Lib.hid HK.out.drew, HV2⟩
          case measure => simp [intOf]; omega
      by_cases hc : X = 239
      · clear hasc
        have hxr : X = 239 := by omega
        clear hc hX hx0
        subst hxr
        by_cases hlen : (n : Int) - k ≤ 2
        · go_wp2
          go_returns
          exact SayP.no (by first | exact HK.out | exact HK.out.trans ((Kept.refl _ _).drewN _) | exact HK.out.drew)
        · obtain ⟨x1, e1, c1⟩ := HAT.out 1 (by omega)
          obtain ⟨Y1, hY1⟩ : ∃ Y : Int, Y = x1.toNat := ⟨_, rfl⟩
          rw [← hY1] at c1
          have E1 := Lib.hid e1; have HY1 := Lib.hid hY1
          have c1' : wr.cell? ⟨g, o + k + 1, none⟩ = some (.int .u8 Y1) := by rw [Nat.add_assoc]; exact c1
          clear e1 hY1
          by_cases ha1 : Y1 < 128
          · go_wp2
            go_returns
            exact SayP.no (by first | exact HK.out | exact HK.out.trans ((Kept.refl _ _).drewN _) | exact HK.out.drew)
          by_cases hb1 : 191 < Y1
          · go_wp2
            go_returns
            exact SayP.no (by first | exact HK.out | exact HK.out.trans ((Kept.refl _ _).drewN _) | exact HK.out.drew)
          obtain ⟨x2, e2, c2⟩ := HAT.out 2 (by omega)
          obtain ⟨Y2, hY2⟩ : ∃ Y : Int, Y = x2.toNat := ⟨_, rfl⟩
          rw [← hY2] at c2
          have E2 := Lib.hid e2; have HY2 := Lib.hid hY2
          have c2' : wr.cell? ⟨g, o + k + 2, none⟩ = some (.int .u8 Y2) := by rw [Nat.add_assoc]; exact c2
          clear e2 hY2
          by_cases ha2 : Y2 < 128
          · go_wp2
            refine wp_loop_rounds 1 ?_
            rw [rounds_succ]
            go_wp2
            go_returns
            exact SayP.no (by first | exact HK.out | exact HK.out.trans ((Kept.refl _ _).drewN _) | exact HK.out.drew)
          by_cases hb2 : 191 < Y2
          · go_wp2
            refine wp_loop_rounds 1 ?_
            rw [rounds_succ]
            go_wp2
            go_returns
            exact SayP.no (by first | exact HK.out | exact HK.out.trans ((Kept.refl _ _).drewN _) | exact HK.out.drew)
          have HV2 := Lib.hid (show Vu (l.drop (k + 2 + 1)) → Vu l from fun h => HV.out (by
            have q0 := HX.out
            have q1 := HY1.out
            have q2 := HY2.out
            obtain ⟨a, hm⟩ : ∃ a, MB [x0, x1, x2] a := mb_3 (by omega) (by omega) (by omega) (by omega) (by omega) (by omega) (by omega) (by omega)
            rw [hd0.out, drop_one E1.out, drop_one E2.out]
            exact .mb [x0, x1, x2] _ a hm h))
          go_wp2
          refine wp_loop_rounds 2 ?_
          rw [rounds_succ]
          go_wp2
          rw [rounds_succ]
          go_wp2
          go_roundw
          case rel => exact ⟨k + 2 + 1, by omega, by go_num, by first | exact HK | exact Lib.hid (HK.out.trans ((Kept.refl _ _).drewN _)) | exact Lib.hid HK.out.drew, HV2⟩
          case measure => simp [intOf]; omega
      by_cases hc : X = 240
      · clear hasc
        have hxr : X = 240 := by omega
        clear hc hX hx0
        subst hxr
        by_cases hlen : (n : Int) - k ≤ 3
        · go_wp2
          go_returns
          exact SayP.no (by first | exact HK.out | exact HK.out.trans ((Kept.refl _ _).drewN _) | exact HK.out.drew)
        · obtain ⟨x1, e1, c1⟩ := HAT.out 1 (by omega)
          obtain ⟨Y1, hY1⟩ : ∃ Y : Int, Y = x1.toNat := ⟨_, rfl⟩
          rw [← hY1] at c1
          have E1 := Lib.hid e1; have HY1 := Lib.hid hY1
          have c1' : wr.cell? ⟨g, o + k + 1, none⟩ = some (.int .u8 Y1) := by rw [Nat.add_assoc]; exact c1
          clear e1 hY1
          by_cases ha1 : Y1 < 144
          · go_wp2
            go_returns
            exact SayP.no (by first | exact HK.out | exact HK.out.trans ((Kept.refl _ _).drewN _) | exact HK.out.drew)
          by_cases hb1 : 191 < Y1
          · go_wp2
            go_returns
            exact SayP.no (by first | exact HK.out | exact HK.out.trans ((Kept.refl _ _).drewN _) | exact HK.out.drew)
          obtain ⟨x2, e2, c2⟩ := HAT.out 2 (by omega)
          obtain ⟨Y2, hY2⟩ : ∃ Y : Int, Y = x2.toNat := ⟨_, rfl⟩
          rw [← hY2] at c2
          have E2 := Lib.hid e2; have HY2 := Lib.hid hY2
          have c2' : wr.cell? ⟨g, o + k + 2, none⟩ = some (.int .u8 Y2) := by rw [Nat.add_assoc]; exact c2
          clear e2 hY2
          obtain ⟨x3, e3, c3⟩ := HAT.out 3 (by omega)
          obtain ⟨Y3, hY3⟩ : ∃ Y : Int, Y = x3.toNat := ⟨_, rfl⟩
          rw [← hY3] at c3
          have E3 := Lib.hid e3; have HY3 := Lib.hid hY3
          have c3' : wr.cell? ⟨g, o + k + 3, none⟩ = some (.int .u8 Y3) := by rw [Nat.add_assoc]; exact c3
          clear e3 hY3
          by_cases ha2 : Y2 < 128
          · go_wp2
            refine wp_loop_rounds 1 ?_
            rw [rounds_succ]
            go_wp2
            go_returns
            exact SayP.no (by first | exact HK.out | exact HK.out.trans ((Kept.refl _ _).drewN _) | exact HK.out.drew)
          by_cases hb2 : 191 < Y2
          · go_wp2
            refine wp_loop_rounds 1 ?_
            rw [rounds_succ]
            go_wp2
            go_returns
            exact SayP.no (by first | exact HK.out | exact HK.out.trans ((Kept.refl _ _).drewN _) | exact HK.out.drew)
          by_cases ha3 : Y3 < 128
          · go_wp2
            refine wp_loop_rounds 2 ?_
            rw [rounds_succ]
            go_wp2
            rw [rounds_succ]
            go_wp2
            go_returns
            exact SayP.no (by first | exact HK.out | exact HK.out.trans ((Kept.refl _ _).drewN _) | exact HK.out.drew)
          by_cases hb3 : 191 < Y3
          · go_wp2
            refine wp_loop_rounds 2 ?_
            rw [rounds_succ]
            go_wp2
            rw [rounds_succ]
            go_wp2
            go_returns
            exact SayP.no (by first | exact HK.out | exact HK.out.trans ((Kept.refl _ _).drewN _) | exact HK.out.drew)
          have HV2 := Lib.hid (show Vu (l.drop (k + 3 + 1)) → Vu l from fun h => HV.out (by
            have q0 := HX.out
            have q1 := HY1.out
            have q2 := HY2.out
            have q3 := HY3.out
            obtain ⟨a, hm⟩ : ∃ a, MB [x0, x1, x2, x3] a := mb_4 (by omega) (by omega) (by omega) (by omega) (by omega) (by omega) (by omega) (by omega) (by omega) (by omega)
            rw [hd0.out, drop_one E1.out, drop_one E2.out, drop_one E3.out]
            exact .mb [x0, x1, x2, x3] _ a hm h))
          go_wp2
          refine wp_loop_rounds 3 ?_
          rw [rounds_succ]
          go_wp2
          rw [rounds_succ]
          go_wp2
          rw [rounds_succ]
          go_wp2
          go_roundw
          case rel => exact ⟨k + 3 + 1, by omega, by go_num, by first | exact HK | exact Lib.hid (HK.out.trans ((Kept.refl _ _).drewN _)) | exact Lib.hid HK.out.drew, HV2⟩
          case measure => simp [intOf]; omega
      by_cases hc : 241 ≤ X ∧ X ≤ 243
      · clear hasc
        have hxr : 241 ≤ X ∧ X ≤ 243 := by omega
        clear hc hX hx0
        obtain ⟨hr1, hr2⟩ := hxr
        have e238 : (X == 238) = false := by simp; omega
        have e239 : (X == 239) = false := by simp; omega
        have e240 : (X == 240) = false := by simp; omega
        have e237 : (X == 237) = false := by simp; omega
        have e224 : (X == 224) = false := by simp; omega
        by_cases hlen : (n : Int) - k ≤ 3
        · go_wp2
          go_returns
          exact SayP.no (by first | exact HK.out | exact HK.out.trans ((Kept.refl _ _).drewN _) | exact HK.out.drew)
        · obtain ⟨x1, e1, c1⟩ := HAT.out 1 (by omega)
          obtain ⟨Y1, hY1⟩ : ∃ Y : Int, Y = x1.toNat := ⟨_, rfl⟩
          rw [← hY1] at c1
          have E1 := Lib.hid e1; have HY1 := Lib.hid hY1
          have c1' : wr.cell? ⟨g, o + k + 1, none⟩ = some (.int .u8 Y1) := by rw [Nat.add_assoc]; exact c1
          clear e1 hY1
          by_cases ha1 : Y1 < 128
          · go_wp2
            go_returns
            exact SayP.no (by first | exact HK.out | exact HK.out.trans ((Kept.refl _ _).drewN _) | exact HK.out.drew)
          by_cases hb1 : 191 < Y1
          · go_wp2
            go_returns
            exact SayP.no (by first | exact HK.out | exact HK.out.trans ((Kept.refl _ _).drewN _) | exact HK.out.drew)
          obtain ⟨x2, e2, c2⟩ := HAT.out 2 (by omega)
          obtain ⟨Y2, hY2⟩ : ∃ Y : Int, Y = x2.toNat := ⟨_, rfl⟩
          rw [← hY2] at c2
          have E2 := Lib.hid e2; have HY2 := Lib.hid hY2
          have c2' : wr.cell? ⟨g, o + k + 2, none⟩ = some (.int .u8 Y2) := by rw [Nat.add_assoc]; exact c2
          clear e2 hY2
          obtain ⟨x3, e3, c3⟩ := HAT.out 3 (by omega)
          obtain ⟨Y3, hY3⟩ : ∃ Y : Int, Y = x3.toNat := ⟨_, rfl⟩
          rw [← hY3] at c3
          have E3 := Lib.hid e3; have HY3 := Lib.hid hY3
          have c3' : wr.cell? ⟨g, o + k + 3, none⟩ = some (.int .u8 Y3) := by rw [Nat.add_assoc]; exact c3
          clear e3 hY3
          by_cases ha2 : Y2 < 128
          · go_wp2
            refine wp_loop_rounds 1 ?_
            rw [rounds_succ]
            go_wp2
            go_returns
            exact SayP.no (by first | exact HK.out | exact HK.out.trans ((Kept.refl _ _).drewN _) | exact HK.out.drew)
          by_cases hb2 : 191 < Y2
          · go_wp2
            refine wp_loop_rounds 1 ?_
            rw [rounds_succ]
            go_wp2
            go_returns
            exact SayP.no (by first | exact HK.out | exact HK.out.trans ((Kept.refl _ _).drewN _) | exact HK.out.drew)
          by_cases ha3 : Y3 < 128
          · go_wp2
            refine wp_loop_rounds 2 ?_
            rw [rounds_succ]
            go_wp2
            rw [rounds_succ]
            go_wp2
            go_returns
            exact SayP.no (by first | exact HK.out | exact HK.out.trans ((Kept.refl _ _).drewN _) | exact HK.out.drew)
          by_cases hb3 : 191 < Y3
          · go_wp2
            refine wp_loop_rounds 2 ?_
            rw [rounds_succ]
            go_wp2
            rw [rounds_succ]
            go_wp2
            go_returns
            exact SayP.no (by first | exact HK.out | exact HK.out.trans ((Kept.refl _ _).drewN _) | exact HK.out.drew)
          have HV2 := Lib.hid (show Vu (l.drop (k + 3 + 1)) → Vu l from fun h => HV.out (by
            have q0 := HX.out
            have q1 := HY1.out
            have q2 := HY2.out
            have q3 := HY3.out
            obtain ⟨a, hm⟩ : ∃ a, MB [x0, x1, x2, x3] a := mb_4 (by omega) (by omega) (by omega) (by omega) (by omega) (by omega) (by omega) (by omega) (by omega) (by omega)
            rw [hd0.out, drop_one E1.out, drop_one E2.out, drop_one E3.out]
            exact .mb [x0, x1, x2, x3] _ a hm h))
          go_wp2
          refine wp_loop_rounds 3 ?_
          rw [rounds_succ]
          go_wp2
          rw [rounds_succ]
          go_wp2
          rw [rounds_succ]
          go_wp2
          go_roundw
          case rel => exact ⟨k + 3 + 1, by omega, by go_num, by first | exact HK | exact Lib.hid (HK.out.trans ((Kept.refl _ _).drewN _)) | exact Lib.hid HK.out.drew, HV2⟩
          case measure => simp [intOf]; omega
      by_cases hc : X = 244
      · clear hasc
        have hxr : X = 244 := by omega
        clear hc hX hx0
        subst hxr
        by_cases hlen : (n : Int) - k ≤ 3
        · go_wp2
          go_returns
          exact SayP.no (by first | exact HK.out | exact HK.out.trans ((Kept.refl _ _).drewN _) | exact HK.out.drew)
        · obtain ⟨x1, e1, c1⟩ := HAT.out 1 (by omega)
          obtain ⟨Y1, hY1⟩ : ∃ Y : Int, Y = x1.toNat := ⟨_, rfl⟩
          rw [← hY1] at c1
          have E1 := Lib.hid e1; have HY1 := Lib.hid hY1
          have c1' : wr.cell? ⟨g, o + k + 1, none⟩ = some (.int .u8 Y1) := by rw [Nat.add_assoc]; exact c1
          clear e1 hY1
          by_cases ha1 : Y1 < 128
          · go_wp2
            go_returns
            exact SayP.no (by first | exact HK.out | exact HK.out.trans ((Kept.refl _ _).drewN _) | exact HK.out.drew)
          by_cases hb1 : 143 < Y1
          · go_wp2
            go_returns
            exact SayP.no (by first | exact HK.out | exact HK.out.trans ((Kept.refl _ _).drewN _) | exact HK.out.drew)
          obtain ⟨x2, e2, c2⟩ := HAT.out 2 (by omega)
          obtain ⟨Y2, hY2⟩ : ∃ Y : Int, Y = x2.toNat := ⟨_, rfl⟩
          rw [← hY2] at c2
          have E2 := Lib.hid e2; have HY2 := Lib.hid hY2
          have c2' : wr.cell? ⟨g, o + k + 2, none⟩ = some (.int .u8 Y2) := by rw [Nat.add_assoc]; exact c2
          clear e2 hY2
          obtain ⟨x3, e3, c3⟩ := HAT.out 3 (by omega)
          obtain ⟨Y3, hY3⟩ : ∃ Y : Int, Y = x3.toNat := ⟨_, rfl⟩
          rw [← hY3] at c3
          have E3 := Lib.hid e3; have HY3 := Lib.hid hY3
          have c3' : wr.cell? ⟨g, o + k + 3, none⟩ = some (.int .u8 Y3) := by rw [Nat.add_assoc]; exact c3
          clear e3 hY3
          by_cases ha2 : Y2 < 128
          · go_wp2
            refine wp_loop_rounds 1 ?_
            rw [rounds_succ]
            go_wp2
            go_returns
            exact SayP.no (by first | exact HK.out | exact HK.out.trans ((Kept.refl _ _).drewN _) | exact HK.out.drew)
          by_cases hb2 : 191 < Y2
          · go_wp2
            refine wp_loop_rounds 1 ?_
            rw [rounds_succ]
            go_wp2
            go_returns
            exact SayP.no (by first | exact HK.out | exact HK.out.trans ((Kept.refl _ _).drewN _) | exact HK.out.drew)
          by_cases ha3 : Y3 < 128
          · go_wp2
            refine wp_loop_rounds 2 ?_
            rw [rounds_succ]
            go_wp2
            rw [rounds_succ]
            go_wp2
            go_returns
            exact SayP.no (by first | exact HK.out | exact HK.out.trans ((Kept.refl _ _).drewN _) | exact HK.out.drew)
          by_cases hb3 : 191 < Y3
          · go_wp2
            refine wp_loop_rounds 2 ?_
            rw [rounds_succ]
            go_wp2
            rw [rounds_succ]
            go_wp2
            go_returns
            exact SayP.no (by first | exact HK.out | exact HK.out.trans ((Kept.refl _ _).drewN _) | exact HK.out.drew)
          have HV2 := Lib.hid (show Vu (l.drop (k + 3 + 1)) → Vu l from fun h => HV.out (by
            have q0 := HX.out
            have q1 := HY1.out
            have q2 := HY2.out
            have q3 := HY3.out
            obtain ⟨a, hm⟩ : ∃ a, MB [x0, x1, x2, x3] a := mb_4 (by omega) (by omega) (by omega) (by omega) (by omega) (by omega) (by omega) (by omega) (by omega) (by omega)
            rw [hd0.out, drop_one E1.out, drop_one E2.out, drop_one E3.out]
            exact .mb [x0, x1, x2, x3] _ a hm h))
          go_wp2
          refine wp_loop_rounds 3 ?_
          rw [rounds_succ]
          go_wp2
          rw [rounds_succ]
          go_wp2
          rw [rounds_succ]
          go_wp2
          go_roundw
          case rel => exact ⟨k + 3 + 1, by omega, by go_num, by first | exact HK | exact Lib.hid (HK.out.trans ((Kept.refl _ _).drewN _)) | exact Lib.hid HK.out.drew, HV2⟩
          case measure => simp [intOf]; omega
      have hbad : X < 194 ∨ 244 < X := by omega
      have hge : 128 ≤ X := by omega
      have hub : X < 256 := by omega
      have e238 : (X == 238) = false := by simp; omega
      have e239 : (X == 239) = false := by simp; omega
      have e240 : (X == 240) = false := by simp; omega
      have e237 : (X == 237) = false := by simp; omega
      have e224 : (X == 224) = false := by simp; omega
      have e244 : (X == 244) = false := by simp; omega
      clear hc hX hx0 hasc
      rcases hbad with hbad | hbad
      · go_wp2
        go_returns
        exact SayP.no HK.out
      · go_wp2
        go_returns
        exact SayP.no HK.out
    · obtain rfl : k = n := by omega
      go_wp2
      go_returns
      exact SayP.yes HK.out (HV.out (by rw [List.drop_of_length_le (by rw [HN.out]; exact Nat.le_refl _)]; exact .nil))
end Go.Proofs.YtnjaeooblfihbaaFmt
