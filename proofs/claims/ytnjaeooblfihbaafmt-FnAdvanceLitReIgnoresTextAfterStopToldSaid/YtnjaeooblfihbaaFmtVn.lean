/-
  n010_117's helpers, walked: what they say of their bytes; zzModelHdoc_b2; copies.
-/
import Derived.Test.YtnjaeooblfihbaaFmtVm
import Derived.Test.YtnjaeooblfihbaaFmtVj
import Derived.Handy
import Derived.Laws.CopyRow
import Derived.Laws.IdiomCopy
namespace Go.Proofs.YtnjaeooblfihbaaFmt
section XVn
open Go.RowKit

theorem SayP.mono {p q : Prop} {w w' : World} {e : Ending} (h : SayP p w w' e) (hq : p → q) : SayP q w w' e := by
  obtain ⟨b, h1, h2, h3⟩ := h
  exact ⟨b, h1, h2, fun hb => hq (h3 hb)⟩

set_option maxRecDepth 100000 in
set_option maxHeartbeats 3200000 in
theorem zlexable {w : World} {A : Option Addr} {n c : Nat} {l : List UInt8} (hsrc : SrcB w A n l) (hs : n ≤ 10000000) :
    Calls Tryf.prog 7 #[.slice A n c] w fun e w' => SayP (Vd l ∧ NoPair 13 10 l) w w' e := by
  have HV := Lib.hid (zvalid (c := c) hsrc hs)
  have HN := Lib.hid hsrc.1; have HSR := Lib.hid hsrc
  clear hsrc
  go_enter Tryf.func7, Tryf.ntmps7
  go_wp2_with (go_at_call 20; refine HV.out.mono ?_; rintro e w1 ⟨b, rfl, k1, hb⟩; have K1 := Lib.hid k1; have HB := Lib.hid hb; clear k1 hb; cases b)
  · go_returns
    exact SayP.no K1.out
  go_loopw [3] (fun i wr => ∃ k : Nat, k ≤ n ∧ i = .int .i64 k ∧ Hid (Kept [] w wr) ∧ Hid (∀ j, j < k → l[j]? ≠ some 0 ∧ (l[j]? = some 13 → l[j + 1]? ≠ some 10))) (fun i _ => n - (intOf i).toNat)
  case atStart => exact ⟨0, Nat.zero_le _, rfl, K1, Lib.hid (fun j hj => by omega)⟩
  case round =>
    obtain ⟨k, hk, rfl, HK, HP⟩ := hrel
    by_cases hlt : k < n
    · obtain ⟨g, o, rfl, hg, hcl⟩ := HSR.out.2 (by omega)
      have HC := Lib.hid hcl
      have at_ : ∀ j, k + j < n → ∃ x : UInt8, l[k + j]? = some x ∧ wr.cell? ⟨g, o + (k + j), none⟩ = some (.int .u8 x.toNat) := fun j hj => by
        have hlt : k + j < l.length := by rw [HN.out]; exact hj
        exact ⟨l[k + j], List.getElem?_eq_getElem hlt, (HK.out.cell (p := ⟨g, o + (k + j), none⟩) hg (by simp)).trans (HC.out _ _ (List.getElem?_eq_getElem hlt))⟩
      clear hcl
      obtain ⟨x0, e0, c0⟩ := at_ 0 (by omega)
      rw [Nat.add_zero] at e0 c0
      obtain ⟨X, hX⟩ : ∃ X : Int, X = x0.toNat := ⟨_, rfl⟩
      rw [← hX] at c0
      by_cases h0 : X = 0
      · subst h0
        clear at_
        go_wp2
        go_returns
        exact SayP.no HK.out
      have h0b : (X == 0) = false := by simpa using h0
      by_cases h13 : X = 13
      · subst h13
        by_cases hn1 : k + 1 < n
        · obtain ⟨x1, e1, c1⟩ := at_ 1 hn1
          obtain ⟨Y, hY⟩ : ∃ Y : Int, Y = x1.toNat := ⟨_, rfl⟩
          rw [← hY] at c1
          have c1' : wr.cell? ⟨g, o + k + 1, none⟩ = some (.int .u8 Y) := by rw [Nat.add_assoc]; exact c1
          have hn1' : (k : Int) + 1 < n := by omega
          by_cases h10 : Y = 10
          · subst h10
            clear at_
            go_wp2
            go_returns
            exact SayP.no HK.out
          · have h10b : (Y == 10) = false := by simpa using h10
            have HP2 := Lib.hid (show ∀ j, j < k + 1 → l[j]? ≠ some 0 ∧ (l[j]? = some 13 → l[j + 1]? ≠ some 10) from fun j hj => by
              rcases Nat.lt_or_ge j k with h | h
              · exact HP.out j h
              · obtain rfl : j = k := by omega
                refine ⟨fun e => by rw [e0] at e; cases e; simp at hX, fun _ e => ?_⟩
                rw [e1] at e
                cases e
                exact h10 hY)
            clear at_ e0 e1 hX hY
            go_wp2
            go_roundw
            case rel => exact ⟨k + 1, by omega, by go_num, by first | exact HK | exact Lib.hid (HK.out.trans ((Kept.refl _ _).drewN _)) | exact Lib.hid HK.out.drew, HP2⟩
            case measure => simp [intOf]; omega
        · have hn1' : ¬ (k : Int) + 1 < n := by omega
          have hn1'' : decide ((k : Int) + 1 < n) = false := decide_eq_false hn1'
          have HP2 := Lib.hid (show ∀ j, j < k + 1 → l[j]? ≠ some 0 ∧ (l[j]? = some 13 → l[j + 1]? ≠ some 10) from fun j hj => by
            rcases Nat.lt_or_ge j k with h | h
            · exact HP.out j h
            · obtain rfl : j = k := by omega
              refine ⟨fun e => by rw [e0] at e; cases e; simp at hX, fun _ e => ?_⟩
              have := (List.getElem?_eq_some_iff.1 e).1
              rw [HN.out] at this
              omega)
          clear at_ e0 hX
          go_wp2
          go_roundw
          case rel => exact ⟨k + 1, by omega, by go_num, by first | exact HK | exact Lib.hid (HK.out.trans ((Kept.refl _ _).drewN _)) | exact Lib.hid HK.out.drew, HP2⟩
          case measure => simp [intOf]; omega
      · have h13b : (X == 13) = false := by simpa using h13
        have HP2 := Lib.hid (show ∀ j, j < k + 1 → l[j]? ≠ some 0 ∧ (l[j]? = some 13 → l[j + 1]? ≠ some 10) from fun j hj => by
          rcases Nat.lt_or_ge j k with h | h
          · exact HP.out j h
          · obtain rfl : j = k := by omega
            refine ⟨fun e => by rw [e0] at e; cases e; exact h0 hX, fun e => by rw [e0] at e; cases e; exact absurd hX h13⟩)
        clear at_ e0 hX
        go_wp2
        go_roundw
        case rel => exact ⟨k + 1, by omega, by go_num, by first | exact HK | exact Lib.hid (HK.out.trans ((Kept.refl _ _).drewN _)) | exact Lib.hid HK.out.drew, HP2⟩
        case measure => simp [intOf]; omega
    · obtain rfl : k = n := by omega
      go_wp2
      go_returns
      have hlast : ∀ j x, l[j]? = some x → j < k := fun j x h => by have := (List.getElem?_eq_some_iff.1 h).1; rw [HN.out] at this; exact this
      refine SayP.yes HK.out ⟨vd_of_vu (HB.out (by simp)) (fun hm => ?_), fun j hj => (HP.out j (hlast j _ hj)).2 hj⟩
      obtain ⟨j, hj, e⟩ := List.getElem_of_mem hm
      exact (HP.out j (by rw [HN.out] at hj; exact hj)).1 (by rw [List.getElem?_eq_getElem hj, e])

set_option maxRecDepth 100000 in
set_option maxHeartbeats 1600000 in
theorem zstop {w : World} {A : Option Addr} {n c : Nat} {l : List UInt8} (hsrc : SrcB w A n l) :
    Calls Tryf.prog 8 #[.slice A n c] w fun e w' => SayP (StOk l) w w' e := by
  match n, l, hsrc with
  | 0, l, hsrc =>
    obtain rfl : l = [] := List.eq_nil_of_length_eq_zero hsrc.1
    have HST := Lib.hid (show StOk [] from ⟨fun x t e => (by cases e), (by simp), (by simp)⟩)
    clear hsrc
    go_enter Tryf.func8, Tryf.ntmps8
    go_wp2
    go_returns
    exact SayP.yes (by first | exact Kept.refl _ _ | exact (Kept.refl _ _).drewN _) HST.out
  | n + 1, [], hsrc => exact absurd hsrc.1 (by simp)
  | n + 1, x0 :: t, hsrc =>
    obtain ⟨g, o, rfl, hg, hc⟩ := hsrc.2 (by omega)
    have c0 := hc 0 x0 rfl
    rw [Nat.add_zero] at c0
    unfold By at c0
    have hln := hsrc.1
    simp only [List.length_cons] at hln
    have hn0 : (0 : Int) < ((n + 1 : Nat) : Int) := by omega
    have hn00 : 0 < n + 1 := by omega
    obtain ⟨X, hX⟩ : ∃ X : Int, X = x0.toNat := ⟨_, rfl⟩
    rw [← hX] at c0
    obtain ⟨N, hN⟩ : ∃ N, N = n + 1 := ⟨_, rfl⟩
    rw [← hN] at hn0 hn00 ⊢
    by_cases h128 : 128 ≤ X
    · clear hsrc hc hln hX hN
      go_enter Tryf.func8, Tryf.ntmps8
      go_wp2
      go_returns
      exact SayP.no (by first | exact Kept.refl _ _ | exact (Kept.refl _ _).drewN _)
    have hb : ∀ y u, x0 :: t = y :: u → y.toNat < 128 := fun y u e => by cases e; omega
    by_cases h1 : N = 1
    · have ht : t = [] := List.eq_nil_of_length_eq_zero (by omega)
      subst ht
      subst h1
      by_cases h92 : X = 92
      · subst h92
        clear hsrc hc hln hX hN hb
        go_enter Tryf.func8, Tryf.ntmps8
        go_wp2
        go_returns
        exact SayP.no (by first | exact Kept.refl _ _ | exact (Kept.refl _ _).drewN _)
      · have h92b : (X == 92) = false := by simpa using h92
        have HST := Lib.hid (show StOk [x0] from ⟨hb, fun e => by cases e; exact h92 hX, by simp⟩)
        clear hsrc hc hln hX hN hb
        go_enter Tryf.func8, Tryf.ntmps8
        go_wp2
        go_returns
        exact SayP.yes (by first | exact Kept.refl _ _ | exact (Kept.refl _ _).drewN _) HST.out
    have h1b : ((N : Int) == 1) = false := by simp; omega
    by_cases h2 : N = 2
    · obtain ⟨x1, rfl⟩ : ∃ x1, t = [x1] := by
        match t, hln with
        | [], h => exact absurd h (by simp; omega)
        | [y], _ => exact ⟨y, rfl⟩
        | _ :: _ :: _, h => exact absurd h (by simp; omega)
      subst h2
      have c1 := hc 1 x1 rfl
      unfold By at c1
      obtain ⟨Y, hY⟩ : ∃ Y : Int, Y = x1.toNat := ⟨_, rfl⟩
      rw [← hY] at c1
      by_cases h10 : X = 10
      · subst h10
        by_cases h92 : Y = 92
        · subst h92
          clear hsrc hc hln hX hN hb hY
          go_enter Tryf.func8, Tryf.ntmps8
          go_wp2
          go_returns
          exact SayP.no (by first | exact Kept.refl _ _ | exact (Kept.refl _ _).drewN _)
        · have h92b : (Y == 92) = false := by simpa using h92
          have HST := Lib.hid (show StOk [x0, x1] from ⟨hb, by simp, fun e => by cases e; exact h92 hY⟩)
          clear hsrc hc hln hX hN hb hY
          go_enter Tryf.func8, Tryf.ntmps8
          go_wp2
          go_returns
          exact SayP.yes (by first | exact Kept.refl _ _ | exact (Kept.refl _ _).drewN _) HST.out
      · have h10b : (X == 10) = false := by simpa using h10
        have HST := Lib.hid (show StOk [x0, x1] from ⟨hb, by simp, fun e => by cases e; exact h10 hX⟩)
        clear hsrc hc hln hX hN hb hY
        go_enter Tryf.func8, Tryf.ntmps8
        go_wp2
        go_returns
        exact SayP.yes (by first | exact Kept.refl _ _ | exact (Kept.refl _ _).drewN _) HST.out
    · have h2b : ((N : Int) == 2) = false := by simp; omega
      have HST := Lib.hid (show StOk (x0 :: t) from ⟨hb, fun e => by have := congrArg List.length e; simp at this; subst this; simp at hln; omega, fun e => by have := congrArg List.length e; simp at this; omega⟩)
      clear hsrc hc hln hX hN hb
      go_enter Tryf.func8, Tryf.ntmps8
      go_wp2
      go_returns
      exact SayP.yes (by first | exact Kept.refl _ _ | exact (Kept.refl _ _).drewN _) HST.out

end XVn

section XVo
open Go.RowKit

theorem take_ext {l1 l2 : List UInt8} {k : Nat} {x : UInt8} (h : l1.take k = l2.take k) (e1 : l1[k]? = some x) (e2 : l2[k]? = some x) : l1.take (k + 1) = l2.take (k + 1) := by
  rw [List.take_add_one, List.take_add_one, h, e1, e2]

set_option maxRecDepth 100000 in
set_option maxHeartbeats 1600000 in
theorem zbeq_eq {w : World} {A1 A2 : Option Addr} {n m c d : Nat} {l1 l2 : List UInt8} (h1 : SrcB w A1 n l1) (h2 : SrcB w A2 m l2) (hs : n ≤ 10000000) (he : l1 = l2) :
    Calls Tryf.prog 24 #[.slice A1 n c, .slice A2 m d] w fun e w' => e = .returned (.bool true) ∧ Kept [] w w' := by
  obtain rfl : n = m := by rw [← h1.1, ← h2.1, he]
  have H1 := Lib.hid h1; have H2 := Lib.hid h2; have HE := Lib.hid he
  clear h1 h2 he
  go_enter Tryf.func24, Tryf.ntmps24
  go_wp2
  go_loopw [5] (fun i wr => ∃ k : Nat, k ≤ n ∧ i = .int .i64 k ∧ Hid (Kept [] w wr)) (fun i _ => n - (intOf i).toNat)
  case atStart => exact ⟨0, Nat.zero_le _, rfl, Lib.hid (Kept.refl _ _)⟩
  case round =>
    obtain ⟨k, hk, rfl, HK⟩ := hrel
    by_cases hlt : k < n
    · obtain ⟨g, o, rfl, hg, hc⟩ := H1.out.2 (by omega)
      obtain ⟨g2, o2, rfl, hg2, hc2⟩ := H2.out.2 (by omega)
      obtain ⟨x, hx⟩ : ∃ x, l1[k]? = some x := ⟨l1[k]'(by rw [H1.out.1]; exact hlt), List.getElem?_eq_getElem _⟩
      have c1 := (HK.out.cell (p := ⟨g, o + k, none⟩) hg (by simp)).trans (hc k x hx)
      have c2 := (HK.out.cell (p := ⟨g2, o2 + k, none⟩) hg2 (by simp)).trans (hc2 k x (by rw [← HE.out]; exact hx))
      unfold By at c1 c2
      obtain ⟨X, hX⟩ : ∃ X : Int, X = x.toNat := ⟨_, rfl⟩
      rw [← hX] at c1 c2
      clear hc hc2 hx hX
      go_wp2
      try (go_quiet (fail); go_wp2)
      go_roundw
      case rel => exact ⟨k + 1, by omega, by go_num, by first | exact HK | exact Lib.hid (HK.out.trans ((Kept.refl _ _).drewN _)) | exact Lib.hid HK.out.drew⟩
      case measure => simp [intOf]; omega
    · obtain rfl : k = n := by omega
      go_wp2
      go_returns
      exact ⟨rfl, HK.out⟩

set_option maxRecDepth 100000 in
set_option maxHeartbeats 1600000 in
theorem zbeq_ne {w : World} {A1 A2 : Option Addr} {n m c d : Nat} {l1 l2 : List UInt8} (h1 : SrcB w A1 n l1) (h2 : SrcB w A2 m l2) (hs : n ≤ 10000000) (hm : m ≤ 10000000) (he : ¬ l1 = l2) :
    Calls Tryf.prog 24 #[.slice A1 n c, .slice A2 m d] w fun e w' => e = .returned (.bool false) ∧ Kept [] w w' := by
  by_cases hnm : n = m
  · subst hnm
    have H1 := Lib.hid h1; have H2 := Lib.hid h2; have HE := Lib.hid he
    clear h1 h2 he
    go_enter Tryf.func24, Tryf.ntmps24
    go_wp2
    go_loopw [5] (fun i wr => ∃ k : Nat, k ≤ n ∧ i = .int .i64 k ∧ Hid (Kept [] w wr) ∧ Hid (l1.take k = l2.take k)) (fun i _ => n - (intOf i).toNat)
    case atStart => exact ⟨0, Nat.zero_le _, rfl, Lib.hid (Kept.refl _ _), Lib.hid rfl⟩
    case round =>
      obtain ⟨k, hk, rfl, HK, HT⟩ := hrel
      by_cases hlt : k < n
      · obtain ⟨g, o, rfl, hg, hc⟩ := H1.out.2 (by omega)
        obtain ⟨g2, o2, rfl, hg2, hc2⟩ := H2.out.2 (by omega)
        obtain ⟨x, hx⟩ : ∃ x, l1[k]? = some x := ⟨l1[k]'(by rw [H1.out.1]; exact hlt), List.getElem?_eq_getElem _⟩
        obtain ⟨y, hy⟩ : ∃ x, l2[k]? = some x := ⟨l2[k]'(by rw [H2.out.1]; exact hlt), List.getElem?_eq_getElem _⟩
        have c1 := (HK.out.cell (p := ⟨g, o + k, none⟩) hg (by simp)).trans (hc k x hx)
        have c2 := (HK.out.cell (p := ⟨g2, o2 + k, none⟩) hg2 (by simp)).trans (hc2 k y hy)
        unfold By at c1 c2
        by_cases hxy : x = y
        · subst hxy
          have HT2 := Lib.hid (take_ext HT.out hx hy)
          obtain ⟨X, hX⟩ : ∃ X : Int, X = x.toNat := ⟨_, rfl⟩
          rw [← hX] at c1 c2
          clear hc hc2 hx hX hy
          go_wp2
          try (go_quiet (fail); go_wp2)
          go_roundw
          case rel => exact ⟨k + 1, by omega, by go_num, by first | exact HK | exact Lib.hid (HK.out.trans ((Kept.refl _ _).drewN _)) | exact Lib.hid HK.out.drew, HT2⟩
          case measure => simp [intOf]; omega
        · have hne : ((x.toNat : Int) != y.toNat) = true := by
            have : ¬ x.toNat = y.toNat := fun e => hxy (UInt8.toNat_inj.1 e)
            simp; omega
          obtain ⟨X, hX⟩ : ∃ X : Int, X = x.toNat := ⟨_, rfl⟩
          obtain ⟨Y, hY⟩ : ∃ Y : Int, Y = y.toNat := ⟨_, rfl⟩
          rw [← hX, ← hY] at hne
          rw [← hX] at c1
          rw [← hY] at c2
          have hne2 : ¬ X = Y := by simpa using hne
          clear hc hc2 hx hX hy hY hxy
          go_wp2
          try (go_quiet (fail); go_wp2)
          go_returns
          exact ⟨rfl, by first | exact HK.out | exact HK.out.trans ((Kept.refl _ _).drewN _) | exact HK.out.drew⟩
      · obtain rfl : k = n := by omega
        exfalso
        have := HT.out
        rw [List.take_of_length_le (by rw [H1.out.1]; exact Nat.le_refl _), List.take_of_length_le (by rw [H2.out.1]; exact Nat.le_refl _)] at this
        exact HE.out this
  · clear h1 h2 he
    have hnm2 : ((n : Int) != m) = true := by simp; omega
    have hnm3 : ¬ (n : Int) = m := by omega
    go_enter Tryf.func24, Tryf.ntmps24
    go_wp2
    go_returns
    exact ⟨rfl, Kept.refl _ _⟩

theorem line_at {s : List UInt8} {k j : Nat} (h : ∀ i, k ≤ i → i < j → s[i]? ≠ some 10) (hkj : k ≤ j) (hj : j = s.length ∨ s[j]? = some 10) : lineOf (s.drop k) = (s.drop k).take (j - k) := by
  have hno : (10 : UInt8) ∉ (s.drop k).take (j - k) := fun hm => by
    obtain ⟨i, hi, e⟩ := List.getElem_of_mem hm
    have hi2 : i < j - k := by have := hi; simp at this; omega
    have h2 : ((s.drop k).take (j - k))[i]? = some 10 := by rw [List.getElem?_eq_getElem hi, e]
    rw [List.getElem?_take_of_lt hi2, List.getElem?_drop] at h2
    exact h (k + i) (by omega) (by omega) h2
  have hsp : s.drop k = (s.drop k).take (j - k) ++ s.drop j := by
    have := (List.take_append_drop (j - k) (s.drop k)).symm
    rw [List.drop_drop, show k + (j - k) = j by omega] at this
    exact this
  rcases hj with hj | hj
  · rw [hsp, List.drop_of_length_le (i := j) (by omega), List.append_nil]
    rw [List.take_of_length_le (l := List.take (j - k) (s.drop k)) (by simp; omega)]
    exact lineOf_all hno
  · obtain ⟨hlt, e⟩ := List.getElem?_eq_some_iff.1 hj
    have hd : s.drop j = 10 :: s.drop (j + 1) := by rw [List.drop_eq_getElem_cons hlt, e]
    rw [hd] at hsp
    have h3 := lineOf_stop (t := s.drop (j + 1)) hno
    rw [← hsp] at h3
    exact h3
/-- What zzModelHdoc_b2 answers. -/
def MPost (s stop : List UInt8) (w w' : World) (e : Ending) : Prop :=
  Kept [] w w' ∧ ((∃ b : Nat, First s stop b ∧ e = .returned (.tuple #[.bool (decide (0 < b)), .int .i64 b, .bool true])) ∨ ((∀ b, ¬ Hit s stop b) ∧ e = .returned (.tuple #[.bool false, .int .i64 0, .bool false])))

set_option maxRecDepth 100000 in
set_option maxHeartbeats 3200000 in
theorem zmodel {w : World} {A1 A2 : Option Addr} {n m c d : Nat} {s stop : List UInt8} (h1 : SrcB w A1 n s) (h2 : SrcB w A2 m stop) (hs : n ≤ 10000000) (hm : m ≤ 10000000) (hnc : n ≤ c) (hcm : c ≤ 9223372036854775807) :
    Calls Tryf.prog 12 #[.slice A1 n c, .slice A2 m d] w fun e w' => MPost s stop w w' e := by
  have H1 := Lib.hid h1; have H2 := Lib.hid h2
  clear h1 h2
  go_enter Tryf.func12, Tryf.ntmps12
  go_wp2
  go_loopw [7] (fun i wr => ∃ k : Nat, k ≤ n + 1 ∧ i = .int .i64 k ∧ Hid (Kept [] w wr) ∧ Hid (Free s stop k ∧ (k < n → LineAt s k))) (fun i _ => n + 1 - (intOf i).toNat)
  case atStart => exact ⟨0, Nat.zero_le _, rfl, Lib.hid (Kept.refl _ _), Lib.hid ⟨free_zero _ _, fun _ => .inl rfl⟩⟩
  case round =>
    obtain ⟨k, hk, rfl, HK, HF⟩ := hrel
    by_cases hlt : k < n
    · obtain ⟨g, o, rfl, hg, hc⟩ := H1.out.2 (by omega)
      have HC := Lib.hid hc
      clear hc
      go_wp2
      go_loopw [8] (fun i wr => ∃ j : Nat, k ≤ j ∧ j ≤ n ∧ i = .int .i64 j ∧ Hid (Kept [] w wr) ∧ Hid (∀ i, k ≤ i → i < j → s[i]? ≠ some 10)) (fun i _ => n - (intOf i).toNat)
      case atStart => exact ⟨k, Nat.le_refl _, by omega, rfl, HK, Lib.hid (fun i a b => by omega)⟩
      case round =>
        obtain ⟨j, hkj, hj, rfl, HK2, HJ⟩ := hrel
        have AFTER := Lib.hid (fun (hend : j = s.length ∨ s[j]? = some 10) => line_at HJ.out hkj hend)
        have HSUB := Lib.hid (show ∀ W, Kept [] w W → SrcB W (some ⟨g, o + k, none⟩) (j - k) ((s.drop k).take (j - k)) from fun W kW => ⟨by have := H1.out.1; simp; omega, fun _ => ⟨g, o + k, rfl, Nat.lt_of_lt_of_le hg kW.size, fun i x hi => by
          have hi2 : i < j - k := by have := (List.getElem?_eq_some_iff.1 hi).1; simp at this; omega
          rw [List.getElem?_take_of_lt hi2, List.getElem?_drop] at hi
          rw [Nat.add_assoc]
          exact (kW.cell (p := ⟨g, o + (k + i), none⟩) hg (by simp)).trans (HC.out (k + i) x hi)⟩⟩)
        have H2K := Lib.hid (show ∀ W, Kept [] w W → SrcB W A2 m stop from fun W kW => ⟨H2.out.1, fun h0 => by
          obtain ⟨g2, o2, e, hg2, hc2⟩ := H2.out.2 h0
          exact ⟨g2, o2, e, Nat.lt_of_lt_of_le hg2 kW.size, fun i x hi => (kW.cell (p := ⟨g2, o2 + i, none⟩) hg2 (by simp)).trans (hc2 i x hi)⟩⟩)
        have hck : ¬ c = k := by omega
        have hck2 : ¬ k = c := by omega
        have hkj2 : (k : Int) ≤ j := by omega
        have hjc : (j : Int) ≤ c := by omega
        have hkc : (k : Int) ≤ c := by omega
        have main : ∀ (hend : j = s.length ∨ s[j]? = some 10), lineOf (s.drop k) = (s.drop k).take (j - k) := fun hend => AFTER.out hend
        by_cases hjn : j < n
        · obtain ⟨x, hx⟩ : ∃ x, s[j]? = some x := ⟨s[j]'(by rw [H1.out.1]; exact hjn), List.getElem?_eq_getElem _⟩
          have c1 := (HK2.out.cell (p := ⟨g, o + j, none⟩) hg (by simp)).trans (HC.out j x hx)
          unfold By at c1
          by_cases h10 : x = 10
          · subst h10
            have hl := main (.inr hx)
            have c1' : wr.cell? ⟨g, o + j, none⟩ = some (.int .u8 10) := c1
            clear c1 main
            have hdr : s.drop k = s.drop k := rfl
            by_cases he : (s.drop k).take (j - k) = stop
            · have HFI := Lib.hid (show First s stop k from ⟨⟨by rw [H1.out.1]; exact hlt, HF.out.2 hlt, hl.trans he⟩, HF.out.1⟩)
              have HEQ := Lib.hid (fun W kW => zbeq_eq (c := c - k) (d := d) (HSUB.out W kW) (H2K.out W kW) (by omega) he)
              clear hl he hdr
              by_cases hk0 : k = 0
              · subst hk0
                go_wp2_with (go_at_call 24; refine (HEQ.out _ (by first | exact HK2.out | exact HK2.out.trans ((Kept.refl _ _).drewN _) | exact HK2.out.drew)).mono ?_; rintro e w7 ⟨rfl, k7⟩; have K7 := Lib.hid k7; clear k7)
                go_returns
                exact ⟨HK2.out.trans K7.out, .inl ⟨0, HFI.out, rfl⟩⟩
              · have hk0i : ((k : Int) == 0) = false := by simp; omega
                have hdk : decide (0 < k) = true := by simp; omega
                go_wp2_with (go_at_call 24; refine (HEQ.out _ (by first | exact HK2.out | exact HK2.out.trans ((Kept.refl _ _).drewN _) | exact HK2.out.drew)).mono ?_; rintro e w7 ⟨rfl, k7⟩; have K7 := Lib.hid k7; clear k7)
                go_returns
                exact ⟨HK2.out.trans K7.out, .inl ⟨k, HFI.out, by rw [hdk]; rfl⟩⟩
            · have hnext := free_next HF.out.1 (by rw [hl]; exact he)
              have hll : (lineOf (s.drop k)).length = j - k := by rw [hl]; have := H1.out.1; simp; omega
              rw [hll, show k + (j - k) + 1 = j + 1 by omega] at hnext
              have HF2 := Lib.hid (show Free s stop (j + 1) ∧ (j + 1 < n → LineAt s (j + 1)) from ⟨hnext, fun hq => .inr ⟨by omega, by simpa using hx⟩⟩)
              have HEQ := Lib.hid (fun W kW => zbeq_ne (c := c - k) (d := d) (HSUB.out W kW) (H2K.out W kW) (by omega) hm he)
              clear hl he hdr hnext hll
              go_wp2_with (go_at_call 24; refine (HEQ.out _ (by first | exact HK2.out | exact HK2.out.trans ((Kept.refl _ _).drewN _) | exact HK2.out.drew)).mono ?_; rintro e w7 ⟨rfl, k7⟩; have K7 := Lib.hid k7; clear k7)
              go_roundw
              case rel => exact ⟨j + 1, by omega, by go_num, Lib.hid (HK2.out.trans K7.out), HF2⟩
              case measure => simp [intOf]; omega
          · have hne : ((x.toNat : Int) != 10) = true := by
              have : ¬ x.toNat = 10 := fun e => h10 (UInt8.toNat_inj.1 e)
              simp; omega
            have HJ2 := Lib.hid (show ∀ i, k ≤ i → i < j + 1 → s[i]? ≠ some 10 from fun i a b => by
              rcases Nat.lt_or_ge i j with q | q
              · exact HJ.out i a q
              · obtain rfl : i = j := by omega
                rw [hx]
                exact fun e => h10 (Option.some.inj e))
            obtain ⟨X, hX⟩ : ∃ X : Int, X = x.toNat := ⟨_, rfl⟩
            rw [← hX] at c1 hne
            have hne2 : ¬ X = 10 := by simpa using hne
            clear hx hX h10 main
            go_wp2
            go_roundw
            case rel => exact ⟨j + 1, by omega, by omega, by go_num, by first | exact HK2 | exact Lib.hid (HK2.out.trans ((Kept.refl _ _).drewN _)) | exact Lib.hid HK2.out.drew, HJ2⟩
            case measure => simp [intOf]; omega
        · obtain rfl : j = n := by omega
          have hl := main (.inl H1.out.1.symm)
          clear main
          have hdr : s.drop k = s.drop k := rfl
          by_cases he : (s.drop k).take (j - k) = stop
          · have HFI := Lib.hid (show First s stop k from ⟨⟨by rw [H1.out.1]; exact hlt, HF.out.2 hlt, hl.trans he⟩, HF.out.1⟩)
            have HEQ := Lib.hid (fun W kW => zbeq_eq (c := c - k) (d := d) (HSUB.out W kW) (H2K.out W kW) (by omega) he)
            clear hl he hdr
            by_cases hk0 : k = 0
            · subst hk0
              go_wp2_with (go_at_call 24; refine (HEQ.out _ (by first | exact HK2.out | exact HK2.out.trans ((Kept.refl _ _).drewN _) | exact HK2.out.drew)).mono ?_; rintro e w7 ⟨rfl, k7⟩; have K7 := Lib.hid k7; clear k7)
              go_returns
              exact ⟨HK2.out.trans K7.out, .inl ⟨0, HFI.out, rfl⟩⟩
            · have hk0i : ((k : Int) == 0) = false := by simp; omega
              have hdk : decide (0 < k) = true := by simp; omega
              go_wp2_with (go_at_call 24; refine (HEQ.out _ (by first | exact HK2.out | exact HK2.out.trans ((Kept.refl _ _).drewN _) | exact HK2.out.drew)).mono ?_; rintro e w7 ⟨rfl, k7⟩; have K7 := Lib.hid k7; clear k7)
              go_returns
              exact ⟨HK2.out.trans K7.out, .inl ⟨k, HFI.out, by rw [hdk]; rfl⟩⟩
          · have hnext := free_next HF.out.1 (by rw [hl]; exact he)
            have hll : (lineOf (s.drop k)).length = j - k := by rw [hl]; have := H1.out.1; simp; omega
            rw [hll, show k + (j - k) + 1 = j + 1 by omega] at hnext
            have HF2 := Lib.hid (show Free s stop (j + 1) ∧ (j + 1 < j → LineAt s (j + 1)) from ⟨hnext, fun hq => absurd hq (by omega)⟩)
            have HEQ := Lib.hid (fun W kW => zbeq_ne (c := c - k) (d := d) (HSUB.out W kW) (H2K.out W kW) (by omega) hm he)
            clear hl he hdr hnext hll
            go_wp2_with (go_at_call 24; refine (HEQ.out _ (by first | exact HK2.out | exact HK2.out.trans ((Kept.refl _ _).drewN _) | exact HK2.out.drew)).mono ?_; rintro e w7 ⟨rfl, k7⟩; have K7 := Lib.hid k7; clear k7)
            go_roundw
            case rel => exact ⟨j + 1, by omega, by go_num, Lib.hid (HK2.out.trans K7.out), HF2⟩
            case measure => simp [intOf]; omega
    · have hnn : s.length ≤ k := by rw [H1.out.1]; omega
      have HN := Lib.hid (free_none HF.out.1 hnn)
      go_wp2
      go_returns
      exact ⟨HK.out, .inr ⟨HN.out, rfl⟩⟩

end XVo

section XVq
open Go.RowKit

theorem u8info1 : (Tryf.prog.info? 5).map (·.size) = some 1 := by kernel_rfl
theorem copy_new (w : World) (n c : Nat) (g o : Nat) (l : List UInt8) (hl : l.length = n) (hg : g < w.heap.size) (hc : ∀ j x, l[j]? = some x → w.cell? ⟨g, o + j, none⟩ = some (By x)) :
    ∃ W, (Builtin.copy_ #[22, 22] 3 #[.slice (some ⟨w.heap.size, 0, none⟩) n n, .slice (some ⟨g, o, none⟩) n c]).run Tryf.prog (w.alloc (.cells (zs n).toArray 5)) = .ok (goInt n) W ∧ W.heap[w.heap.size]? = some (.cells (Bys l).toArray 5 (0, 0)) ∧ Kept [] w W := by
  have k1 : Kept [] w (w.alloc (.cells (zs n).toArray 5)) := (Kept.refl _ _).alloc _
  have h := run_copy_row (P := Tryf.prog) (w.alloc (.cells (zs n).toArray 5)) 22 22 3 5 w.heap.size 0 n n ⟨g, o, none⟩ n c (zs n).toArray 5 (Bys l) u8_und u8info1 (heap_alloc_new w _) (by rw [Bys_length, hl]; exact (Nat.min_self n).symm) (fun j v hj => ?_) (by rw [Bys_length, hl]; simp [zs]) (Bys_one _)
  · rw [Bys_length, hl] at h
    have hz : (zs n).length = n := by simp [zs]
    have hrow : ((zs n).toArray.toList.take 0 ++ Bys l ++ (zs n).toArray.toList.drop (0 + n)) = Bys l := by
      rw [List.take_zero, List.nil_append, List.drop_of_length_le (by show (zs n).length ≤ 0 + n; omega), List.append_nil]
    rw [hrow] at h
    have k2 : Kept [w.heap.size] (w.alloc (.cells (zs n).toArray 5)) ((w.alloc (.cells (zs n).toArray 5)).setRow w.heap.size (Bys l).toArray) := (Kept.refl _ _).setRow (by simp) _
    exact ⟨_, h, setRow_heap _ _ _ _ _ _ (heap_alloc_new w _), ((k1.weaken (by simp)).trans k2).weaken (fun x hx => .inr (by simp at hx; omega))⟩
  · simp only [Bys, List.getElem?_map, Option.map_eq_some_iff] at hj
    obtain ⟨x, hx, rfl⟩ := hj
    rw [addr_add]
    exact (k1.cell (p := ⟨g, o + j, none⟩) hg (by simp)).trans (hc j x hx)
theorem copy_zero (w : World) (d : Option Addr) (c : Nat) (A : Option Addr) :
    (Builtin.copy_ #[22, 22] 3 #[.slice d 0 0, .slice A 0 c]).run Tryf.prog w = .ok (goInt 0) w := run_copy_none w _ _ _ 5 _ _ _ _ _ _ u8_und u8info1 rfl

set_option maxRecDepth 100000 in
set_option maxHeartbeats 800000 in
theorem nnclone {w : World} {A : Option Addr} {n c : Nat} {l : List UInt8} (hsrc : SrcB w A n l) (hn : n < 1000000000) :
    Calls Tryf.prog 10 #[.slice A n c] w fun e w' => e = .returned (.slice (some ⟨w.heap.size, 0, none⟩) n n) ∧ w'.heap[w.heap.size]? = some (.cells (Bys l).toArray 5 (0, 0)) ∧ Kept [] w w' := by
  by_cases h0 : n = 0
  · subst h0
    obtain rfl : l = [] := List.eq_nil_of_length_eq_zero hsrc.1
    have q2 := fun w => make_u8 0 (by omega) w
    have q3 := fun w d => copy_zero w d c A
    simp only [Int.ofNat_zero] at q2
    clear hsrc hn
    go_enter Tryf.func10, Tryf.ntmps10
    go_wp2
    go_ret
    exact ⟨rfl, heap_alloc_new w _, (Kept.refl _ _).alloc _⟩
  · obtain ⟨g, o, rfl, hg, hc⟩ := hsrc.2 (by omega)
    obtain ⟨W, q3, hW, kW⟩ := copy_new w n c g o l hsrc.1 hg hc
    have q2 := fun w => make_u8 n hn w
    have HW := Lib.hid hW; have KW := Lib.hid kW
    clear hsrc hg hc hW kW
    go_enter Tryf.func10, Tryf.ntmps10
    go_wp2
    go_ret
    exact ⟨rfl, HW.out, KW.out⟩

set_option maxRecDepth 100000 in
set_option maxHeartbeats 800000 in
theorem zclone {w : World} {A : Option Addr} {n c : Nat} {l : List UInt8} (hsrc : SrcB w A n l) (hn : n < 1000000000) (hA : A = none → n = 0 ∧ c = 0) :
    Calls Tryf.prog 9 #[.slice A n c] w fun e w' => ∃ A', e = .returned (.slice A' n n) ∧ SrcB w' A' n l ∧ Kept [] w w' := by
  have q1 : ∀ (w : World) (a : Option Addr) (n c n' c' : Nat), (binOp .eql 22 (.slice a n c) (.slice none n' c')).run Tryf.prog w = .ok (.bool a.isNone) w := fun w a n c n' c' => Lib.run_eql_slice_nil w _ _ a n c n' c' u8_und
  cases A with
  | none =>
    obtain ⟨rfl, rfl⟩ := hA rfl
    have HS := Lib.hid hsrc
    clear hsrc hA hn
    go_enter Tryf.func9, Tryf.ntmps9
    go_wp2
    go_ret
    exact ⟨none, rfl, HS.out, Kept.refl _ _⟩
  | some ad =>
    clear hA
    by_cases h0 : n = 0
    · subst h0
      obtain rfl : l = [] := List.eq_nil_of_length_eq_zero hsrc.1
      have q2 := fun w => make_u8 0 (by omega) w
      have q3 := fun w d => copy_zero w d c (some ad)
      simp only [Int.ofNat_zero] at q2
      clear hsrc hn
      go_enter Tryf.func9, Tryf.ntmps9
      go_wp2
      go_ret
      exact ⟨_, rfl, ⟨rfl, fun h => absurd h (by omega)⟩, (Kept.refl _ _).alloc _⟩
    · obtain ⟨g, o, e, hg, hc⟩ := hsrc.2 (by omega)
      obtain rfl : ad = ⟨g, o, none⟩ := Option.some.inj e
      obtain ⟨W, q3, hW, kW⟩ := copy_new w n c g o l hsrc.1 hg hc
      have q2 := fun w => make_u8 n hn w
      have HW := Lib.hid hW; have KW := Lib.hid kW; have HL := Lib.hid hsrc.1
      clear hsrc hg hc hW kW e
      go_enter Tryf.func9, Tryf.ntmps9
      go_wp2
      go_ret
      exact ⟨_, rfl, SrcB.row HW.out HL.out, KW.out⟩

end XVq

end Go.Proofs.YtnjaeooblfihbaaFmt
