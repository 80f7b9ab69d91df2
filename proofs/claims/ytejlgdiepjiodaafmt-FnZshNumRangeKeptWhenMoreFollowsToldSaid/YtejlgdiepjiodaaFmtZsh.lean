/-
  zshNumRange: what it answers of the parser's window.
-/
import Derived.Test.YtejlgdiepjiodaaFmtRa
namespace Go.Proofs.YtejlgdiepjiodaaFmt
open Go.RowKit

def isDig (c : UInt8) : Bool := decide (48 ≤ (c.toNat : Int)) && decide ((c.toNat : Int) ≤ 57)
/-- digits, '-', digits, '>'. -/
def zshM (l : List UInt8) : Bool :=
  match l.dropWhile isDig with
  | [] => false
  | a :: t => a == 45 && (match t.dropWhile isDig with
    | [] => false
    | b :: _ => b == 62)

def intOfSl : Value → Nat
  | .slice _ n _ => n
  | _ => 0
theorem dw_yes {l : List UInt8} {k : Nat} {x : UInt8} (hx : l[k]? = some x) (hd : isDig x = true) : (l.drop k).dropWhile isDig = (l.drop (k + 1)).dropWhile isDig := by
  have hlt := (List.getElem?_eq_some_iff.1 hx).1
  have e : l[k] = x := (List.getElem?_eq_some_iff.1 hx).2
  rw [List.drop_eq_getElem_cons hlt, e, List.dropWhile_cons_of_pos hd]
theorem dw_no {l : List UInt8} {k : Nat} {x : UInt8} (hx : l[k]? = some x) (hd : isDig x = false) : (l.drop k).dropWhile isDig = x :: l.drop (k + 1) := by
  have hlt := (List.getElem?_eq_some_iff.1 hx).1
  have e : l[k] = x := (List.getElem?_eq_some_iff.1 hx).2
  rw [List.drop_eq_getElem_cons hlt, e, List.dropWhile_cons_of_neg (by simp [hd])]
theorem dw_end {l : List UInt8} {k : Nat} (h : l.length ≤ k) : (l.drop k).dropWhile isDig = [] := by
  rw [List.drop_of_length_le h]; rfl

theorem zshM_nil {l : List UInt8} (h : l.dropWhile isDig = []) : zshM l = false := by unfold zshM; rw [h]
theorem zshM_no {l t : List UInt8} {x : UInt8} (h : l.dropWhile isDig = x :: t) (hx : x ≠ 45) : zshM l = false := by unfold zshM; rw [h]; simp [hx]
theorem zshM_dash_nil {l t : List UInt8} (h : l.dropWhile isDig = 45 :: t) (h2 : t.dropWhile isDig = []) : zshM l = false := by unfold zshM; rw [h]; simp [h2]
theorem zshM_dash {l t t2 : List UInt8} {y : UInt8} (h : l.dropWhile isDig = 45 :: t) (h2 : t.dropWhile isDig = y :: t2) : zshM l = (y == 62) := by unfold zshM; rw [h]; simp [h2]

/-- rest, k bytes into the window. -/
def Rst (pb n : Nat) (k : Nat) (v : Value) : Prop := ∃ a, v = .slice (some a) (n - k) (1024 - k) ∧ (k < 1024 → a = ⟨pb, 39 + k, none⟩) ∧ k ≤ n

set_option maxRecDepth 100000 in
set_option maxHeartbeats 1600000 in
theorem zsh_in {w : World} {B pb rb : Nat} {ea : Addr} {p : Pc} {win rest u : List UInt8} {bsp : Nat} {offs : Int} (h : Md w B pb rb ea p win rest bsp offs u) (hlt : bsp < win.length) :
    Calls Tryf.prog 29 #[.pointer (some ⟨pb, 0, none⟩)] w fun e w' => e = .returned (.bool (zshM (win.drop bsp))) ∧ Kept [] w w' := by
  have hfit := h.lx.hfit
  obtain ⟨A, c, c1, hA⟩ := h.bs
  obtain ⟨rfl, rfl⟩ := hA (by omega)
  have c2 := h.c2
  have hcell : ∀ k x, win[k]? = some x → w.cell? ⟨pb, 39 + k, none⟩ = some (.int .u8 x.toNat) := fun k x hx => h.lx.byte k x hx
  have HC := Lib.hid hcell
  have hw1 : IntKind.i64.wrap (bsp : Int) = bsp := IntWalk.i64_in _ (by omega)
  have hnl : decide (win.length ≤ bsp) = false := by simp; omega
  have hb1 : ¬ 1024 = bsp := by omega
  clear h hA hcell
  go_enter Tryf.func29, Tryf.ntmps29
  go_wp2
  go_quiet (fail)
  go_wp2
  go_quiet (fail)
  go_wp2
  go_loop [3] (fun v => ∃ k, bsp ≤ k ∧ Rst pb win.length k v ∧ Hid ((win.drop k).dropWhile isDig = (win.drop bsp).dropWhile isDig)) (fun v => intOfSl v)
  case atStart => exact ⟨bsp, Nat.le_refl _, ⟨_, rfl, fun _ => rfl, by omega⟩, Lib.hid rfl⟩
  case round =>
    obtain ⟨k, hbk, ⟨a, rfl, ha, hkn⟩, HD⟩ := hrel
    by_cases hk : k < win.length
    · obtain ⟨x, hx⟩ : ∃ x, win[k]? = some x := ⟨_, List.getElem?_eq_getElem hk⟩
      have cx := HC.out k x hx
      obtain rfl := ha (by omega)
      have g0 : decide (0 < win.length - k) = true := by simp; omega
      have g0' : 0 < win.length - k := by omega
      have g1 : ¬ 1024 = k := by omega
      have gk : ¬ 1024 - k = 1 ∨ 1024 - k = 1 := by omega
      by_cases hdx : isDig x = true
      · have hdx' := hdx
        unfold isDig at hdx'
        simp only [Bool.and_eq_true, decide_eq_true_eq] at hdx'
        have g2 : (48 : Int) ≤ (x.toNat : Int) := hdx'.1
        have g3 : (x.toNat : Int) ≤ 57 := hdx'.2
        have HD2 := Lib.hid (dw_yes hx hdx)
        clear hdx hdx' hx gk
        go_wp2
        all_goals
          go_round
          case rel => exact ⟨k + 1, by omega, ⟨_, by congr 1 <;> omega, fun h => by first | (exfalso; omega) | rfl, by omega⟩, Lib.hid (HD2.out.symm.trans HD.out)⟩
          case measure => simp [intOfSl]; omega
      · have hdx' : isDig x = false := by simpa using hdx
        have HD2 := Lib.hid (HD.out.symm.trans (dw_no hx hdx'))
        unfold isDig at hdx'
        rw [Bool.and_eq_false_iff] at hdx'
        simp only [decide_eq_false_iff_not] at hdx'
        clear hdx hx gk
        by_cases hx45 : x = 45
        · subst hx45
          have HD3 := Lib.hid HD2.out
          clear hdx'
          go_wp2
          all_goals (
            go_loop [3] (fun v => ∃ k2, k + 1 ≤ k2 ∧ Rst pb win.length k2 v ∧ Hid ((win.drop k2).dropWhile isDig = (win.drop (k + 1)).dropWhile isDig)) (fun v => intOfSl v)
            case atStart => exact ⟨k + 1, Nat.le_refl _, ⟨_, by congr 1 <;> omega, fun h => by first | (exfalso; omega) | rfl, by omega⟩, Lib.hid rfl⟩
            case round =>
              obtain ⟨k2, hbk2, ⟨a2, rfl, ha2, hkn2⟩, HE⟩ := hrel
              by_cases hk2 : k2 < win.length
              · obtain ⟨y, hy⟩ : ∃ y, win[k2]? = some y := ⟨_, List.getElem?_eq_getElem hk2⟩
                have cy := HC.out k2 y hy
                obtain rfl := ha2 (by omega)
                have g0 : decide (0 < win.length - k2) = true := by simp; omega
                have g0' : 0 < win.length - k2 := by omega
                have g1 : ¬ 1024 = k2 := by omega
                by_cases hdy : isDig y = true
                · have hdy' := hdy
                  unfold isDig at hdy'
                  simp only [Bool.and_eq_true, decide_eq_true_eq] at hdy'
                  have g2 : (48 : Int) ≤ (y.toNat : Int) := hdy'.1
                  have g3 : (y.toNat : Int) ≤ 57 := hdy'.2
                  have HE2 := Lib.hid (dw_yes hy hdy)
                  clear hdy hdy' hy
                  have hq1 : 1024 - k2 = 1 ∨ ¬ 1024 - k2 = 1 := by omega
                  rcases hq1 with hq1 | hq1
                  all_goals go_wp2
                  all_goals
                    go_round
                    case rel => exact ⟨k2 + 1, by omega, ⟨_, by congr 1 <;> omega, fun h => by first | (exfalso; omega) | rfl, by omega⟩, Lib.hid (HE2.out.symm.trans HE.out)⟩
                    case measure => simp [intOfSl]; omega
                · have hdy' : isDig y = false := by simpa using hdy
                  have HE2 := Lib.hid ((HE.out.symm.trans (dw_no hy hdy')))
                  have HZ := Lib.hid (zshM_dash HD3.out HE2.out)
                  have hyb : (y == 62) = ((y.toNat : Int) == 62) := by
                    rw [Bool.eq_iff_iff]; simp only [beq_iff_eq]
                    exact ⟨fun e => by rw [e]; rfl, fun e => UInt8.toNat_inj.1 (by show y.toNat = 62; omega)⟩
                  have HYB := Lib.hid hyb
                  clear hyb hdy hy
                  unfold isDig at hdy'
                  rw [Bool.and_eq_false_iff] at hdy'
                  simp only [decide_eq_false_iff_not] at hdy'
                  by_cases g2 : (48 : Int) ≤ (y.toNat : Int)
                  · have g3 : ¬ (y.toNat : Int) ≤ 57 := by rcases hdy' with h | h; exact absurd g2 h; exact h
                    clear hdy'
                    go_wp2
                    go_ret
                    rw [HZ.out, HYB.out]
                    exact ⟨rfl, (Kept.refl _ _).drewN _⟩
                  · clear hdy'
                    go_wp2
                    go_ret
                    rw [HZ.out, HYB.out]
                    exact ⟨rfl, (Kept.refl _ _).drewN _⟩
              · obtain rfl : k2 = win.length := by omega
                have g0 : decide (0 < win.length - win.length) = false := by simp
                have HE2 := Lib.hid (HE.out.symm.trans (dw_end (l := win) (Nat.le_refl _)))
                have HZ := Lib.hid (zshM_dash_nil HD3.out HE2.out)
                have g9 : win.length - win.length = 0 := by omega
                go_wp2
                go_ret
                rw [HZ.out]
                exact ⟨rfl, (Kept.refl _ _).drewN _⟩)
        · have HZ := Lib.hid (zshM_no HD2.out hx45)
          have g4 : ((x.toNat : Int) == 45) = false := by
            simp only [beq_eq_false_iff_ne]; intro e; exact hx45 (UInt8.toNat_inj.1 (by show x.toNat = 45; omega))
          have g5 : ((x.toNat : Int) != 45) = true := by rw [bne, g4]; rfl
          by_cases g2 : (48 : Int) ≤ (x.toNat : Int)
          · have g3 : ¬ (x.toNat : Int) ≤ 57 := by rcases hdx' with h | h; exact absurd g2 h; exact h
            clear hdx'
            go_wp2
            go_ret
            rw [HZ.out]
            exact ⟨rfl, (Kept.refl _ _).drewN _⟩
          · clear hdx'
            go_wp2
            go_ret
            rw [HZ.out]
            exact ⟨rfl, (Kept.refl _ _).drewN _⟩
    · obtain rfl : k = win.length := by omega
      have g9 : win.length - win.length = 0 := by omega
      have HZ := Lib.hid (zshM_nil (HD.out.symm.trans (dw_end (l := win) (Nat.le_refl _))))
      go_wp2
      go_ret
      rw [HZ.out]
      exact ⟨rfl, (Kept.refl _ _).drewN _⟩

set_option maxRecDepth 100000 in
set_option maxHeartbeats 1600000 in
theorem zsh_nil {w : World} {B pb rb : Nat} {ea : Addr} {p : Pc} {win rest u : List UInt8} {bsp : Nat} {offs : Int} (h : Md w B pb rb ea p win rest bsp offs u) (r : Int) (hr : p.r = .int .i32 r) (hr' : r ≠ 1114112) (hu : u = []) :
    Calls Tryf.prog 29 #[.pointer (some ⟨pb, 0, none⟩)] w fun e w' => e = .returned (.bool (zshM [])) ∧ Kept [rb, pb] w w' := by
  have hfit := h.lx.hfit
  have hb := h.hb
  have hlen := h.len
  rw [hu] at hlen
  simp only [List.length_nil] at hlen
  obtain ⟨A, c, c1, _⟩ := h.bs
  have c2 := h.c2
  have hw1 : IntKind.i64.wrap (bsp : Int) = bsp := IntWalk.i64_in _ (by omega)
  have hnl : decide (win.length ≤ bsp) = true := by simp; omega
  have HCON := Lib.hid fun n => fill_md (h.draws n) r hr hr' (by omega)
  have HU := Lib.hid hu
  clear h hr hu hlen
  go_enter Tryf.func29, Tryf.ntmps29
  go_wp2
  go_quiet (fail)
  go_wp2_with (go_at_call 34; refine (HCON.out _).mono ?_; rintro e w1 ⟨⟨n1, rfl, hn1⟩, hk1, p1, win1, rest1, bsp1, offs1, hm1, hs1, hgr1⟩; have HM1 := Lib.hid hm1; have HK1 := Lib.hid hk1; clear hm1 hk1 hgr1 hs1 hn1 c1 c2 hnl hw1)
  have hfit1 := HM1.out.lx.hfit
  have hb1 := HM1.out.hb
  have hlen1 := HM1.out.len
  rw [HU.out] at hlen1
  simp only [List.length_nil] at hlen1
  obtain rfl : bsp1 = win1.length := by omega
  clear hlen1
  have d2 := HM1.out.c2
  have d1 := HM1.out.lx.hpb.c_bs
  rcases HM1.out.lx.hbs with h1 | ⟨h1, h2⟩
  · rw [h1] at d1
    unfold bsV at d1
    clear h1
    have g9 : win1.length - win1.length = 0 := by omega
    have hw1 : IntKind.i64.wrap (win1.length : Int) = win1.length := IntWalk.i64_in _ (by omega)
    go_quiet (fail)
    go_wp2
    all_goals (
      refine wp_loop_once ?_
      go_wp2
      go_ret
      exact ⟨rfl, (((Kept.refl _ _).drewN _).trans HK1.out).drewN _⟩)
  · rw [h1] at d1
    unfold nilS at d1
    subst h2
    clear h1
    go_quiet (fail)
    go_wp2
    all_goals (
      refine wp_loop_once ?_
      go_wp2
      go_ret
      exact ⟨rfl, (((Kept.refl _ _).drewN _).trans HK1.out).drewN _⟩)
end Go.Proofs.YtejlgdiepjiodaaFmt
