/-
  peek and peekTwo of a parser in the middle of its input: what they see; the unread bytes stay what they were.
-/
import Derived.Test.YtnjaeooblfihbaaFmtRa
namespace Go.Proofs.YtnjaeooblfihbaaFmt
open Go.RowKit

def hd2 : List UInt8 → UInt8 × UInt8
  | [] => (128, 128)
  | [a] => (a, 128)
  | a :: b :: _ => (a, b)
theorem hd2_fst {l : List UInt8} {x : UInt8} (h : l[0]? = some x) : (hd2 l).1 = x := by
  match l, h with
  | [a], h => simpa [hd2] using h
  | a :: b :: l, h => simpa [hd2] using h
theorem hd2_snd {l : List UInt8} {x : UInt8} (h : l[1]? = some x) : (hd2 l).2 = x := by
  match l, h with
  | a :: b :: l, h => simpa [hd2] using h
theorem hd2_fst0 {l : List UInt8} (h : l.length = 0) : (hd2 l).1 = 128 := by
  obtain rfl := List.eq_nil_of_length_eq_zero h
  rfl
theorem hd2_snd0 {l : List UInt8} (h : l.length ≤ 1) : (hd2 l).2 = 128 := by
  match l, h with
  | [], h => rfl
  | [a], h => rfl

/-- A look ahead: the window may have been filled, and no more. -/
def Pk (w w' : World) (B pb rb : Nat) (ea : Addr) (p : Pc) (u : List UInt8) (m : Nat) : Prop :=
  Hid (∃ p' win' rest' bsp' offs', Md w' B pb rb ea p' win' rest' bsp' offs' u ∧ p'.side = p.side ∧ Kept [rb, pb] w w' ∧ min m u.length ≤ win'.length - bsp')

set_option maxRecDepth 100000 in
set_option maxHeartbeats 600000 in
theorem peek_in {w : World} {B pb rb : Nat} {ea : Addr} {p : Pc} {win rest u : List UInt8} {bsp : Nat} {offs : Int} (h : Md w B pb rb ea p win rest bsp offs u) (hlt : bsp < win.length) :
    Calls Tryf.prog 27 #[.pointer (some ⟨pb, 0, none⟩)] w fun e w' => e = .returned (By (hd2 u).1) ∧ Pk w w' B pb rb ea p u 1 := by
  have hfit := h.lx.hfit
  obtain ⟨A, c, c1, hA⟩ := h.bs
  obtain ⟨rfl, rfl⟩ := hA (by omega)
  have c2 := h.c2
  obtain ⟨x, hx, _, cx⟩ := h.at_ 0 (by omega)
  rw [Nat.add_zero] at cx
  rw [hd2_fst hx]
  unfold By at *
  have HH := Lib.hid h
  have hw1 : IntKind.i64.wrap (bsp : Int) = bsp := IntWalk.i64_in _ (by omega)
  have hnl : decide (win.length ≤ bsp) = false := by simp; omega
  clear h hx hA
  go_enter Tryf.func27, Tryf.ntmps27
  go_wp2
  go_quiet (fail)
  go_wp2
  go_quiet (fail)
  go_wp2
  go_quiet (fail)
  go_wp2
  go_ret
  exact ⟨rfl, Lib.hid ⟨_, _, _, _, _, ((HH.out.draws _).draws _).draws _, rfl, (((Kept.refl _ _).drewN _).drewN _).drewN _, by omega⟩⟩

set_option maxRecDepth 100000 in
set_option maxHeartbeats 600000 in
theorem peek_out {w : World} {B pb rb : Nat} {ea : Addr} {p : Pc} {win rest u : List UInt8} {bsp : Nat} {offs : Int} (h : Md w B pb rb ea p win rest bsp offs u) (r : Int) (hr : p.r = .int .i32 r) (hr' : r ≠ 1114112) (hlt : win.length ≤ bsp) :
    Calls Tryf.prog 27 #[.pointer (some ⟨pb, 0, none⟩)] w fun e w' => e = .returned (By (hd2 u).1) ∧ Pk w w' B pb rb ea p u 1 := by
  have hfit := h.lx.hfit
  have hb := h.hb
  obtain ⟨A, c, c1, _⟩ := h.bs
  have c2 := h.c2
  have HH := Lib.hid h
  have hw1 : IntKind.i64.wrap (bsp : Int) = bsp := IntWalk.i64_in _ (by omega)
  have hnl : decide (win.length ≤ bsp) = true := by simp; omega
  have HCON := Lib.hid fun n => fill_md (h.draws n) r hr hr' (by omega)
  clear h hr
  go_enter Tryf.func27, Tryf.ntmps27
  go_wp2
  go_quiet (fail)
  go_wp2_with (go_at_call 26; refine (HCON.out _).mono ?_; rintro e w1 ⟨⟨n1, rfl, hn1⟩, hk1, p1, win1, rest1, bsp1, offs1, hm1, hs1, hgr1⟩; have HM1 := Lib.hid hm1; have HK1 := Lib.hid hk1; have HG1 := Lib.hid hgr1; have HS1 := Lib.hid hs1; clear hm1 hk1 hgr1 hs1 hn1 c1 c2 hnl hw1)
  obtain ⟨A1, ca1, d1, hA1⟩ := HM1.out.bs
  have d2 := HM1.out.c2
  have hfit1 := HM1.out.lx.hfit
  have hb1 := HM1.out.hb
  have hw1 : IntKind.i64.wrap (bsp1 : Int) = bsp1 := IntWalk.i64_in _ (by omega)
  by_cases h1 : bsp1 < win1.length
  · obtain ⟨x, hx, _, cx⟩ := HM1.out.at_ 0 (by omega)
    obtain ⟨rfl, rfl⟩ := hA1 (by omega)
    rw [Nat.add_zero] at cx
    have hnl : decide (win1.length ≤ bsp1) = false := by simp; omega
    have HX := Lib.hid (hd2_fst hx)
    clear hx hA1
    go_wp2
    go_quiet (fail)
    go_wp2
    go_quiet (fail)
    go_wp2
    go_ret
    refine ⟨?_, Lib.hid ⟨_, _, _, _, _, (HM1.out.draws _).draws _, HS1.out, ((((Kept.refl _ _).drewN _).trans HK1.out).drewN _).drewN _, by have := HG1.out; omega⟩⟩
    rw [HX.out]; rfl
  · have hnl : decide (win1.length ≤ bsp1) = true := by simp; omega
    clear hA1
    go_wp2
    go_quiet (fail)
    go_wp2
    go_ret
    refine ⟨?_, Lib.hid ⟨_, _, _, _, _, HM1.out.draws _, HS1.out, (((Kept.refl _ _).drewN _).trans HK1.out).drewN _, by have := HG1.out; omega⟩⟩
    rw [hd2_fst0 (by have := HG1.out; omega)]
    rfl

theorem peek_md {w : World} {B pb rb : Nat} {ea : Addr} {p : Pc} {win rest u : List UInt8} {bsp : Nat} {offs : Int} (h : Md w B pb rb ea p win rest bsp offs u) (r : Int) (hr : p.r = .int .i32 r) (hr' : r ≠ 1114112) :
    Calls Tryf.prog 27 #[.pointer (some ⟨pb, 0, none⟩)] w fun e w' => e = .returned (By (hd2 u).1) ∧ Pk w w' B pb rb ea p u 1 := by
  rcases Nat.lt_or_ge bsp win.length with h1 | h1
  · exact peek_in h h1
  · exact peek_out h r hr hr' h1

set_option maxRecDepth 100000 in
set_option maxHeartbeats 600000 in
theorem peek2_in {w : World} {B pb rb : Nat} {ea : Addr} {p : Pc} {win rest u : List UInt8} {bsp : Nat} {offs : Int} (h : Md w B pb rb ea p win rest bsp offs u) (hlt : bsp + 1 < win.length) :
    Calls Tryf.prog 28 #[.pointer (some ⟨pb, 0, none⟩)] w fun e w' => e = .returned (.tuple #[By (hd2 u).1, By (hd2 u).2]) ∧ Pk w w' B pb rb ea p u 2 := by
  have hfit := h.lx.hfit
  have hb := h.hb
  obtain ⟨A, c, c1, hA⟩ := h.bs
  obtain ⟨rfl, rfl⟩ := hA (by omega)
  have c2 := h.c2
  obtain ⟨x, hx, _, cx⟩ := h.at_ 0 (by omega)
  obtain ⟨y, hy, _, cy⟩ := h.at_ 1 (by omega)
  rw [Nat.add_zero] at cx
  rw [hd2_fst hx, hd2_snd hy]
  have HH := Lib.hid h
  have hw1 : IntKind.i64.wrap (bsp : Int) = bsp := IntWalk.i64_in _ (by omega)
  have hw2 : IntKind.u64.wrap ((bsp : Int) + 1) = bsp + 1 := IntWalk.u64_in _ (by omega)
  have hw3 : IntKind.i64.wrap ((bsp : Int) + 1) = bsp + 1 := IntWalk.i64_in _ (by omega)
  have hnl : decide (win.length ≤ bsp) = false := by simp; omega
  have hnl2 : decide ((win.length : Int) ≤ (bsp : Int) + 1) = false := by simp; omega
  have hlt0 : bsp < win.length := by omega
  have e1 : ((bsp : Int) + 1).toNat = bsp + 1 := by omega
  have e2 : ¬ (bsp : Int) + 1 < 0 := by omega
  have e3 : (bsp : Int) + 1 < win.length := by omega
  clear h hx hy hA
  go_enter Tryf.func28, Tryf.ntmps28
  go_wp2
  go_quiet (fail)
  go_wp2
  go_quiet (fail)
  go_wp2
  go_quiet (fail)
  go_wp2
  go_quiet (fail)
  go_wp2
  go_ret2
  exact ⟨rfl, Lib.hid ⟨_, _, _, _, _, (((HH.out.draws _).draws _).draws _).draws _, rfl, ((((Kept.refl _ _).drewN _).drewN _).drewN _).drewN _, by omega⟩⟩

set_option maxRecDepth 100000 in
set_option maxHeartbeats 600000 in
theorem peek2_out {w : World} {B pb rb : Nat} {ea : Addr} {p : Pc} {win rest u : List UInt8} {bsp : Nat} {offs : Int} (h : Md w B pb rb ea p win rest bsp offs u) (r : Int) (hr : p.r = .int .i32 r) (hr' : r ≠ 1114112) (hlt : win.length ≤ bsp + 1) :
    Calls Tryf.prog 28 #[.pointer (some ⟨pb, 0, none⟩)] w fun e w' => e = .returned (.tuple #[By (hd2 u).1, By (hd2 u).2]) ∧ Pk w w' B pb rb ea p u 2 := by
  have hfit := h.lx.hfit
  have hb := h.hb
  obtain ⟨A, c, c1, _⟩ := h.bs
  have c2 := h.c2
  have HH := Lib.hid h
  have hw2 : IntKind.u64.wrap ((bsp : Int) + 1) = bsp + 1 := IntWalk.u64_in _ (by omega)
  have hw3 : IntKind.i64.wrap ((bsp : Int) + 1) = bsp + 1 := IntWalk.i64_in _ (by omega)
  have hnl2 : decide ((win.length : Int) ≤ (bsp : Int) + 1) = true := by simp; omega
  have HCON := Lib.hid fun n => fill_md (h.draws n) r hr hr' (by omega)
  clear h hr
  go_enter Tryf.func28, Tryf.ntmps28
  go_wp2
  go_quiet (fail)
  go_wp2_with (go_at_call 26; refine (HCON.out _).mono ?_; rintro e w1 ⟨⟨n1, rfl, hn1⟩, hk1, p1, win1, rest1, bsp1, offs1, hm1, hs1, hgr1⟩; have HM1 := Lib.hid hm1; have HK1 := Lib.hid hk1; have HG1 := Lib.hid hgr1; have HS1 := Lib.hid hs1; clear hm1 hk1 hgr1 hs1 hn1 c1 c2 hnl2 hw2 hw3)
  obtain ⟨A1, ca1, d1, hA1⟩ := HM1.out.bs
  have d2 := HM1.out.c2
  have hfit1 := HM1.out.lx.hfit
  have hb1 := HM1.out.hb
  have hw1 : IntKind.i64.wrap (bsp1 : Int) = bsp1 := IntWalk.i64_in _ (by omega)
  have hw2 : IntKind.u64.wrap ((bsp1 : Int) + 1) = bsp1 + 1 := IntWalk.u64_in _ (by omega)
  have hw3 : IntKind.i64.wrap ((bsp1 : Int) + 1) = bsp1 + 1 := IntWalk.i64_in _ (by omega)
  have e1 : ((bsp1 : Int) + 1).toNat = bsp1 + 1 := by omega
  have e2 : ¬ (bsp1 : Int) + 1 < 0 := by omega
  by_cases h1 : bsp1 < win1.length
  · obtain ⟨x, hx, _, cx⟩ := HM1.out.at_ 0 (by omega)
    obtain ⟨rfl, rfl⟩ := hA1 (by omega)
    rw [Nat.add_zero] at cx
    have hnl : decide (win1.length ≤ bsp1) = false := by simp; omega
    have HX := Lib.hid (hd2_fst hx)
    by_cases h2 : bsp1 + 1 < win1.length
    · obtain ⟨y, hy, _, cy⟩ := HM1.out.at_ 1 (by omega)
      have HY := Lib.hid (hd2_snd hy)
      have hnl2 : decide ((win1.length : Int) ≤ (bsp1 : Int) + 1) = false := by simp; omega
      have e3 : (bsp1 : Int) + 1 < win1.length := by omega
      clear hx hA1 hy
      go_wp2
      go_quiet (fail)
      go_wp2
      go_quiet (fail)
      go_wp2
      go_quiet (fail)
      go_wp2
      go_ret2
      refine ⟨?_, Lib.hid ⟨_, _, _, _, _, ((HM1.out.draws _).draws _).draws _, HS1.out, (((((Kept.refl _ _).drewN _).trans HK1.out).drewN _).drewN _).drewN _, by have := HG1.out; omega⟩⟩
      rw [HX.out, HY.out]; rfl
    · have hnl2 : decide ((win1.length : Int) ≤ (bsp1 : Int) + 1) = true := by simp; omega
      clear hx hA1
      go_wp2
      go_quiet (fail)
      go_wp2
      go_quiet (fail)
      go_wp2
      go_quiet (fail)
      go_wp2
      go_ret2
      refine ⟨?_, Lib.hid ⟨_, _, _, _, _, ((HM1.out.draws _).draws _).draws _, HS1.out, (((((Kept.refl _ _).drewN _).trans HK1.out).drewN _).drewN _).drewN _, by have := HG1.out; omega⟩⟩
      rw [HX.out, hd2_snd0 (by have := HG1.out; omega)]; rfl
  · have hnl : decide (win1.length ≤ bsp1) = true := by simp; omega
    clear hA1
    go_wp2
    go_quiet (fail)
    go_wp2
    go_ret2
    refine ⟨?_, Lib.hid ⟨_, _, _, _, _, HM1.out.draws _, HS1.out, (((Kept.refl _ _).drewN _).trans HK1.out).drewN _, by have := HG1.out; omega⟩⟩
    rw [hd2_fst0 (by have := HG1.out; omega), hd2_snd0 (by have := HG1.out; omega)]
    rfl

theorem peek2_md {w : World} {B pb rb : Nat} {ea : Addr} {p : Pc} {win rest u : List UInt8} {bsp : Nat} {offs : Int} (h : Md w B pb rb ea p win rest bsp offs u) (r : Int) (hr : p.r = .int .i32 r) (hr' : r ≠ 1114112) :
    Calls Tryf.prog 28 #[.pointer (some ⟨pb, 0, none⟩)] w fun e w' => e = .returned (.tuple #[By (hd2 u).1, By (hd2 u).2]) ∧ Pk w w' B pb rb ea p u 2 := by
  rcases Nat.lt_or_ge (bsp + 1) win.length with h1 | h1
  · exact peek2_in h h1
  · exact peek2_out h r hr hr' h1
end Go.Proofs.YtnjaeooblfihbaaFmt
