/-
  n010_58: the indenter's model, walked.
-/
import Derived.Test.YtejjmonaoajlgaaDoorInw
namespace Go.Proofs.YtejjmonaoajlgaaDoor
open Go.RowKit

/-- v0 has been appended to until it is v. -/
def Av (v0 v : Value) (w w' : World) : Prop := (∀ g ∈ v.ownBlock, v0.ownBlock = some g ∨ w.heap.size ≤ g) ∧ Kept v0.ownBlock.toList w w'
section
variable {v0 v1 v2 : Value} {w w1 w2 : World}
theorem Av.refl (v : Value) (w : World) : Av v v w w := ⟨fun _ h => .inl h, Kept.refl _ _⟩
theorem Av.trans (h : Av v0 v1 w w1) (k : Av v1 v2 w1 w2) : Av v0 v2 w w2 := by
  have hs := h.2.size
  refine ⟨fun g hg => ?_, h.2.trans2 k.2 fun x hx => ?_⟩
  · rcases k.1 g hg with e | e
    · exact h.1 g e
    · exact .inr (by omega)
  · rcases h.1 x (by simpa using hx) with e | e
    · exact .inl (by simp [e])
    · exact .inr e
theorem Av.step {g n c : Nat} (h : v0.ownBlock = some g ∨ w.heap.size ≤ g) (k : Kept v0.ownBlock.toList w w1) : Av v0 (.slice (some ⟨g, 0, none⟩) n c) w w1 := ⟨fun g' hg' => by cases hg'; exact h, k⟩
theorem Av.cell (h : Av v0 v1 w w1) {g o : Nat} (h1 : g < w.heap.size) (h2 : v0.ownBlock ≠ some g) : w1.cell? ⟨g, o, none⟩ = w.cell? ⟨g, o, none⟩ := h.2.cell (p := ⟨g, o, none⟩) h1 (by simpa using h2)
theorem Av.drew (h : Av v0 v1 w w1) : Av v0 v1 w w1.drew := ⟨h.1, h.2.drew⟩
end

theorem untab_one {l : List UInt8} (h : (untab (l ++ [10])).length = 1) : untab (l ++ [10]) = [10] := by
  rw [untab_eq] at h ⊢
  rw [List.length_drop, List.length_append] at h
  simp only [List.length_cons, List.length_nil] at h
  rw [show tabs (l ++ [10]) = l.length by omega]
  simp
abbrev nilS : Value := .slice none 0 0
theorem Av.ne {v : Value} {w wr : World} (h : Av nilS v w wr) {g : Nat} (hg : g < w.heap.size) : v.ownBlock ≠ some g := by
  intro e
  rcases h.1 g e with h1 | h1
  · cases h1
  · omega

theorem foldI_plain {base : Int} {M : List UInt8} (h : ∀ x ∈ M, x.toNat ≠ 10) : ∀ (s : Is), foldI base s M = { s with cur := s.cur ++ M } := by
  induction M with
  | nil => intro s; simp [foldI]
  | cons x M ih =>
    intro s
    have e : stepI base s x = { s with cur := s.cur ++ [x] } := by unfold stepI; rw [if_pos (h x (by simp))]
    have := ih (fun y hy => h y (by simp [hy])) (stepI base s x)
    show foldI base (stepI base s x) M = _
    rw [this, e]
    simp [List.append_assoc]
/-- What the model holds where a line begins. -/
structure Mj (w wr : World) (base : Int) (l : List UInt8) (st : Nat) (fi : Int) (v : Value) : Prop where
  fi : (foldI base is0 (l.take st)).fi = fi
  cur : (foldI base is0 (l.take st)).cur = []
  own : Own wr v (foldI base is0 (l.take st)).out
  av : Av nilS v w wr
theorem mem_of_get {l : List UInt8} {a b : Nat} (h : ∀ m, a ≤ m → m < b → l[m]? ≠ some 10) : ∀ x ∈ (l.drop a).take (b - a), x.toNat ≠ 10 := by
  intro x hx e
  obtain ⟨i, hi, he⟩ := List.mem_iff_getElem.1 hx
  have hil : i < b - a := by have := hi; rw [List.length_take] at this; omega
  have h1 : ((l.drop a).take (b - a))[i]? = some x := by rw [List.getElem?_eq_getElem hi, he]
  rw [List.getElem?_take_of_lt hil, List.getElem?_drop] at h1
  exact h (a + i) (by omega) (by omega) (by rw [h1, UInt8.toNat_inj.1 (show x.toNat = (10 : UInt8).toNat from e)])
/-- No newline to the end: nothing more comes out. -/
theorem Mj.done {w wr : World} {base : Int} {l : List UInt8} {st : Nat} {fi : Int} {v : Value} (h : Mj w wr base l st fi v) (hno : ∀ m, st ≤ m → m < l.length → l[m]? ≠ some 10) : Own wr v (foldI base is0 l).out := by
  have h1 := mem_of_get hno
  rw [List.take_of_length_le (by rw [List.length_drop]; exact Nat.le_refl _)] at h1
  have e : foldI base is0 l = foldI base (foldI base is0 (l.take st)) (l.drop st) := by rw [← foldI_app, List.take_append_drop]
  rw [e, foldI_plain h1]
  exact h.own
theorem Mj.next {w wr w2 : World} {base : Int} {l : List UInt8} {st e : Nat} {fi : Int} {v v2 : Value} (h : Mj w wr base l st fi v) (hse : st ≤ e) (hno : ∀ m, st ≤ m → m < e → l[m]? ≠ some 10) (hx : l[e]? = some 10) (fi2 fc2 : Int) (O : List UInt8)
    (es : stepI base { foldI base is0 (l.take st) with cur := (l.drop st).take (e - st) } 10 = ⟨fi2, fc2, [], O⟩) (ho : Own w2 v2 O) (hav : Av v v2 wr w2) : Mj w w2 base l (e + 1) fi2 v2 := by
  have e2 : foldI base is0 (l.take (e + 1)) = ⟨fi2, fc2, [], O⟩ := by
    rw [foldI_take hx, ← es]
    have e3 : l.take e = l.take st ++ (l.drop st).take (e - st) := by
      conv => lhs; rw [show e = st + (e - st) by omega]
      rw [List.take_add]
    rw [e3, foldI_app, foldI_plain (mem_of_get hno), h.cur, List.nil_append]
  exact ⟨by rw [e2], by rw [e2], by rw [e2]; exact ho, h.av.trans hav⟩

set_option maxRecDepth 100000 in
set_option maxHeartbeats 12800000 in
theorem mjnd (w : World) (base : Int) (g o n c : Nat) (l : List UInt8) (hl : l.length = n) (hg : 0 < n → g < w.heap.size) (hc : ∀ j x, l[j]? = some x → w.cell? ⟨g, o + j, none⟩ = some (By x)) (hb1 : 0 ≤ base) (hb2 : base ≤ 65536) (hn : n ≤ 65537) :
    Calls Tryd.prog 10 #[.int .i64 base, .slice (some ⟨g, o, none⟩) n c] w fun e w' => ∃ v', e = .returned v' ∧ Own w' v' (foldI base is0 l).out ∧ Av nilS v' w w' := by
  have hst : Hid (Mj w w base l 0 (-1) nilS) := Lib.hid ⟨rfl, rfl, Own.nil _, Av.refl _ _⟩
  have HL := Lib.hid hl; have HC := Lib.hid hc; have HG := Lib.hid hg
  clear hl hc hg
  go_enter Tryd.func10, Tryd.ntmps10
  go_wp2_with fail
  go_loopw [5, 6, 7] (fun s5 s6 s7 wr => ∃ (st : Nat) (fi : Int) (v : Value), st ≤ n ∧ s7 = .int .i64 st ∧ s6 = .int .i64 fi ∧ v = s5 ∧ Hid (Mj w wr base l st fi v)) (fun _ _ s7 _ => n - (intOf s7).toNat)
  case atStart => exact ⟨0, -1, nilS, Nat.zero_le _, rfl, rfl, rfl, hst⟩
  case round =>
    obtain ⟨st, fi, v, hsn, rfl, rfl, rfl, hM⟩ := hrel
    clear hst
    obtain ⟨wo, rfl⟩ : ∃ wo : World, wo = wr := ⟨_, rfl⟩
    by_cases hlt : st < n
    · have hg : g < w.heap.size := HG.out (by omega)
      go_wp2_with fail
      go_loop [8] (fun s8 => ∃ e : Nat, st ≤ e ∧ e ≤ n ∧ s8 = .int .i64 e ∧ Hid (∀ m, st ≤ m → m < e → l[m]? ≠ some 10)) (fun s8 => n - (intOf s8).toNat)
      case atStart => exact ⟨st, Nat.le_refl _, by omega, rfl, Lib.hid (fun m h1 h2 => by omega)⟩
      case round =>
        obtain ⟨e, hse, hen, rfl, hno⟩ := hrel
        by_cases hlt2 : e < n
        · obtain ⟨x, hx⟩ : ∃ x, l[e]? = some x := ⟨l[e]'(by have := HL.out; omega), List.getElem?_eq_getElem _⟩
          have hcs : wo.cell? ⟨g, o + e, none⟩ = some (.int .u8 x.toNat) := (hM.out.av.cell hg (by simp [Value.ownBlock])).trans (HC.out e x hx)
          have hxl := x.toNat_lt
          by_cases h10 : x.toNat = 10
          · obtain rfl : x = 10 := UInt8.toNat_inj.1 h10
            have hcs : wo.cell? ⟨g, o + e, none⟩ = some (.int .u8 10) := hcs
            have gne : ((e : Int) == n) = false := by simp; omega
            obtain ⟨S, hS⟩ : ∃ S, S = foldI base is0 (l.take st) := ⟨_, rfl⟩
            have hok : Iok base st S := by rw [hS]; exact take_ok hb1 l st
            have hSfi : S.fi = fi := by rw [hS]; exact hM.out.fi
            have hSo : Own wo v S.out := by rw [hS]; exact hM.out.own
            obtain ⟨M, hMe⟩ : ∃ M, M = (l.drop st).take (e - st) := ⟨_, rfl⟩
            have hMl : M.length = e - st := by rw [hMe, List.length_take, List.length_drop, HL.out]; omega
            obtain ⟨L, hL⟩ : ∃ L, L = M ++ [10] := ⟨_, rfl⟩
            have hLd : L = (l.drop st).take (e + 1 - st) := by
              rw [hL, hMe, show e + 1 - st = e - st + 1 by omega, take_snoc' (show (l.drop st)[e - st]? = some 10 by rw [List.getElem?_drop, show st + (e - st) = e by omega]; exact hx)]
            obtain ⟨D, hD⟩ : ∃ D, D = e - st := ⟨_, rfl⟩
            rw [← hD] at hMl
            have hLl : L.length = D + 1 := by rw [hL, List.length_append, hMl]; rfl
            obtain ⟨T, hT⟩ : ∃ T, T = tabs L := ⟨_, rfl⟩
            have hTD : T ≤ D := by
              have h1 := tabs_lt (l := M) (x := 10) (by decide)
              rw [← hL, ← hT, hLl] at h1; omega
            have hLc : ∀ j y, L[j]? = some y → w.cell? ⟨g, o + (st + j), none⟩ = some (By y) := by
              intro j y hj
              rw [hLd, List.getElem?_take] at hj
              split at hj
              · rw [List.getElem?_drop] at hj
                exact HC.out _ y hj
              · cases hj
            have hD1 : st + D ≤ e := by omega
            have hD2 : e ≤ st + D := by omega
            have hul := untab_len L
            have hue := untab_eq L
            rw [← hT, hLl] at hul
            rw [← hT] at hue
            have HX := Lib.hid hx; have HS := Lib.hid hS; have HSF := Lib.hid hSfi; have HSO := Lib.hid hSo; have HME := Lib.hid hMe; have HLE := Lib.hid hL; have HLL := Lib.hid hLl; have HT := Lib.hid hT; have HLC := Lib.hid hLc; have HUL := Lib.hid hul; have HUE := Lib.hid hue
            have hob := hok.out
            have hsb : (st : Int) * (base + 8) ≤ 65537 * (base + 8) := Int.mul_le_mul_of_nonneg_right (by omega) (by omega)
            have hSol : S.out.length ≤ 4300000000 := by omega
            have hfh := hok.hi; have hfl2 := hok.lo
            rw [hSfi] at hfh hfl2
            have HOK := Lib.hid hok
            clear hx hS hSfi hSo hMe hMl hL hLd hD hLl hT hLc hul hue h10 hob hsb hok
            go_wp2_with fail
            go_loop [9] (fun s9 => ∃ t : Nat, t ≤ T ∧ s9 = .int .i64 t) (fun s9 => T - (intOf s9).toNat)
            case atStart => exact ⟨0, Nat.zero_le _, rfl⟩
            case round =>
              obtain ⟨t, ht, rfl⟩ := hrel
              have e1 : ((st : Int) + t).toNat = st + t := by omega
              by_cases htT : t < T
              · have h9 := tabs_get (l := L) (k := t) (by rw [← HT.out]; exact htT)
                have hcy : wo.cell? ⟨g, o + (st + t), none⟩ = some (.int .u8 9) := (hM.out.av.cell hg (by simp [Value.ownBlock])).trans (HLC.out t 9 h9)
                have hte : (st : Int) + t < e := by omega
                have htn : (st : Int) + t < n := by omega
                clear h9
                go_wp2_with fail
                go_round
                case rel => exact ⟨t + 1, by omega, by go_num⟩
                case measure => simp [intOf]; omega
              · obtain rfl : t = T := by omega
                by_cases htD : t = D
                · subst htD
                  have hte : ¬ ((st : Int) + t < e) := by omega
                  have gte : (((st : Int) + t) == e) = true := by simp; omega
                  have hu1 : (untab (M ++ [10])).length = 1 := by rw [← HLE.out, HUL.out]; omega
                  have hstp : stepI base { S with cur := M } 10 = ⟨fi, S.fc, [], S.out ++ [10]⟩ := by
                    unfold stepI
                    rw [if_neg (by decide), if_pos hu1, one_left hu1, untab_one hu1, ← HSF.out]
                  have HST := Lib.hid hstp
                  clear hstp hu1
                  go_wp2_with (at_builtin; refine wpList_app_lit rfl _ _ rfl v S.out rfl HSO.out 1 1 _ [10] rfl rfl (by omega) rfl (by omega) ?_; intro g1 cap1 w1 ho1 hn1 hk1; have HR := Lib.hid (hM.out.next hse hno.out HX.out fi S.fc _ (by rw [← HS.out, ← HME.out]; exact HST.out) ho1 (Av.step hn1 hk1)); clear ho1 hn1 hk1)
                  go_roundw
                  case rel => exact ⟨e + 1, fi, _, by omega, by go_num, rfl, rfl, HR⟩
                  case measure => simp [intOf]; omega
                · obtain ⟨y, hy⟩ : ∃ y, L[t]? = some y := ⟨L[t]'(by have := HLL.out; omega), List.getElem?_eq_getElem _⟩
                  have hcy : wo.cell? ⟨g, o + (st + t), none⟩ = some (.int .u8 y.toNat) := (hM.out.av.cell hg (by simp [Value.ownBlock])).trans (HLC.out t y hy)
                  have hne := tabs_stop (l := L) (x := y) (by rw [← HT.out]; exact hy)
                  have hyl := y.toNat_lt
                  have g1 : ((y.toNat : Int) == 9) = false := by simp; omega
                  have hte : (st : Int) + t < e := by omega
                  have htn : (st : Int) + t < n := by omega
                  have gte : (((st : Int) + t) == e) = false := by simp; omega
                  have hu1 : (untab (M ++ [10])).length ≠ 1 := by rw [← HLE.out, HUL.out]; omega
                  clear hy hne
                  by_cases hf0 : fi < 0
                  · have hdum : True := trivial
                    have hstp : stepI base { S with cur := M } 10 = ⟨(t : Int), (base - (t : Int)), [], S.out ++ [255] ++ List.replicate (base).toNat 9 ++ [255] ++ (escF (untab L)).1⟩ := by
                      unfold stepI lineOut indent
                      have hu2 : ¬ (untab L).length = 1 := by rw [HLE.out]; exact hu1
                      rw [if_neg (by decide), if_neg hu1, ← HLE.out, if_neg hu2, ← HT.out]
                      show (⟨if S.fi < 0 then _ else S.fi, if S.fi < 0 then _ else S.fc, _, S.out ++ ([255] ++ List.replicate (if S.fi < 0 then _ else if (t : Int) < S.fi then _ else (t : Int) + S.fc).toNat 9 ++ [255] ++ _)⟩ : Is) = _
                      rw [HSF.out]
                      rw [if_pos hf0, if_pos hf0, if_pos hf0]; simp [List.append_assoc]
                    have HST := Lib.hid hstp
                    have hli0 : 0 ≤ base := by omega
                    have hli1 : base ≤ 200000 := by omega
                    clear hdum
                    clear hstp hu1
                    go_wp2_with (at_builtin; refine wpList_app_lit rfl _ _ rfl v S.out rfl HSO.out 1 1 _ [255] rfl rfl (by omega) rfl (by omega) ?_; intro g1 cap1 w1 ho1 hn1 hk1; have HR := Lib.hid (And.intro ho1 (Av.step (n := S.out.length + 1) (c := cap1) hn1 hk1)); clear ho1 hn1 hk1)
                    go_loopw [5, 11] (fun s5 s11 wr => ∃ (k : Nat) (v1 : Value), (k : Int) ≤ base ∧ s11 = .int .i64 k ∧ v1 = s5 ∧ Hid (Own wr v1 (S.out ++ [255] ++ List.replicate k 9) ∧ Av v v1 wo wr)) (fun _ s11 _ => (base - intOf s11).toNat)
                    case atStart => exact ⟨0, _, hli0, rfl, rfl, Lib.hid (by simpa using HR.out)⟩
                    case round =>
                      clear HR
                      obtain ⟨k, v1, hk, rfl, rfl, hrl⟩ := hrel
                      obtain ⟨P, hP⟩ : ∃ P, P = S.out ++ [255] ++ List.replicate k 9 := ⟨_, rfl⟩
                      have hPo : Own wr v1 P := by rw [hP]; exact hrl.out.1
                      have hPl : P.length ≤ 4400000000 := by rw [hP]; simp; omega
                      have HP := Lib.hid hP; have HPO := Lib.hid hPo
                      clear hP hPo
                      by_cases hkl : (k : Int) < base
                      · have hN : P ++ [9] = S.out ++ [255] ++ List.replicate (k + 1) 9 := by rw [HP.out, List.append_assoc, ← List.replicate_succ']
                        have HN := Lib.hid hN; clear hN
                        go_wp2_with (at_builtin; refine wpList_app_lit rfl _ _ rfl v1 P rfl HPO.out 1 1 _ [9] rfl rfl (by omega) rfl (by omega) ?_; intro g1 cap1 w1 ho1 hn1 hk1; have HR := Lib.hid (show Own w1 _ _ ∧ Av v _ wo w1 from ⟨HN.out ▸ ho1, hrl.out.2.trans (Av.step (n := P.length + 1) (c := cap1) hn1 hk1)⟩); clear ho1 hn1 hk1)
                        go_roundw
                        case rel => exact ⟨k + 1, _, by omega, by go_num, rfl, HR⟩
                        case measure => simp [intOf]; omega
                      · have hke : (base).toNat = k := by omega
                        have HKE := Lib.hid hke; clear hke
                        go_wp2_with (at_builtin; refine wpList_app_lit rfl _ _ rfl v1 P rfl HPO.out 1 1 _ [255] rfl rfl (by omega) rfl (by omega) ?_; intro g1 cap1 w1 ho1 hn1 hk1; have HR := Lib.hid (show Own w1 _ (P ++ [255]) ∧ Av v _ wo w1 from ⟨ho1, hrl.out.2.trans (Av.step (n := P.length + 1) (c := cap1) hn1 hk1)⟩); clear ho1 hn1 hk1)
                        obtain ⟨U, hU⟩ : ∃ U, U = untab L := ⟨_, rfl⟩
                        have hUl : U.length = D + 1 - t := by rw [hU, HUL.out]
                        have hUc : ∀ j z, U[j]? = some z → w.cell? ⟨g, o + (st + t + j), none⟩ = some (By z) := fun j z hj => by
                          rw [hU, HUE.out, List.getElem?_drop] at hj
                          have := HLC.out _ z hj
                          rwa [← Nat.add_assoc st] at this
                        have HU := Lib.hid hU; have HUl := Lib.hid hUl; have HUC := Lib.hid hUc
                        have hUb : U.length ≤ 65538 := by omega
                        clear hU hUl hUc
                        go_loopw [5, 12, 13] (fun s5 s12 s13 wr => ∃ (q : Nat) (v2 : Value) (b : Bool), t + q ≤ D + 1 ∧ s13 = .int .i64 ((st : Int) + t + q) ∧ s12 = .bool b ∧ v2 = s5 ∧ Hid (b = (escF (U.take q)).2 ∧ Own wr v2 (P ++ [255] ++ (escF (U.take q)).1) ∧ Av v v2 wo wr)) (fun _ _ s13 _ => e + 1 - (intOf s13).toNat)
                        case atStart => exact ⟨0, _, false, by omega, by simp, rfl, rfl, Lib.hid ⟨rfl, by simpa [escF] using HR.out.1, HR.out.2⟩⟩
                        case round =>
                          clear HR hrl
                          obtain ⟨q, v2, b, hq, rfl, rfl, rfl, hrl⟩ := hrel
                          by_cases hqe : t + q ≤ D
                          · obtain ⟨z, hz⟩ : ∃ z, U[q]? = some z := ⟨U[q]'(by have := HUl.out; omega), List.getElem?_eq_getElem _⟩
                            have hcz : wr.cell? ⟨g, o + (st + t + q), none⟩ = some (.int .u8 z.toNat) := ((hM.out.av.trans hrl.out.2.2).cell hg (by simp [Value.ownBlock])).trans (HUC.out q z hz)
                            have e2 : ((st : Int) + t + q).toNat = st + t + q := by omega
                            have hq1 : (st : Int) + t + q ≤ e := by omega
                            have hq2 : (st : Int) + t + q < n := by omega
                            have hq3 : (0 : Int) ≤ (st : Int) + t + q := by omega
                            obtain ⟨Q, hQ⟩ : ∃ Q, Q = P ++ [255] ++ (escF (U.take q)).1 := ⟨_, rfl⟩
                            have hQo : Own wr v2 Q := by rw [hQ]; exact hrl.out.2.1
                            have hQl : Q.length ≤ 4500000000 := by
                              have h1 := escF_len (U.take q)
                              have h2 : (U.take q).length ≤ 65538 := by rw [List.length_take]; omega
                              rw [hQ, List.length_append, List.length_append]; simp only [List.length_cons, List.length_nil]; omega
                            have hstp := escF_take hz
                            have hB := hrl.out.1
                            have HAV := Lib.hid hrl.out.2.2; have HQO := Lib.hid hQo
                            have hzl := z.toNat_lt
                            clear hrl hQo
                            by_cases h255 : z.toNat = 255
                            · obtain rfl : z = 255 := UInt8.toNat_inj.1 h255
                              have hcz : wr.cell? ⟨g, o + (st + t + q), none⟩ = some (.int .u8 255) := hcz
                              have hN : Q ++ [255] = P ++ [255] ++ (escF (U.take (q + 1))).1 ∧ (!b) = (escF (U.take (q + 1))).2 := by rw [hQ, hstp, hB]; simp [stepE]
                              have HN := Lib.hid hN
                              clear hN hstp hB hz h255 hQ
                              go_wp2_with (at_builtin; refine wpList_app_lit rfl _ _ rfl v2 Q rfl HQO.out 1 1 _ [255] rfl rfl (by omega) rfl (by omega) ?_; intro g3 cap3 w3 ho3 hn3 hk3; have HR3 := Lib.hid (show Own w3 _ _ ∧ Av v _ wo w3 from ⟨HN.out.1 ▸ ho3, HAV.out.trans (Av.step (n := Q.length + 1) (c := cap3) hn3 hk3)⟩); clear ho3 hn3 hk3)
                              go_roundw
                              case rel => exact ⟨q + 1, _, !b, by omega, by go_num, rfl, rfl, Lib.hid ⟨HN.out.2, HR3.out.1, HR3.out.2⟩⟩
                              case measure => simp [intOf]; omega
                            · have g2 : ((z.toNat : Int) == 255) = false := by simp; omega
                              by_cases h9 : z.toNat = 9 ∧ b = false
                              · obtain ⟨h9, rfl⟩ := h9
                                obtain rfl : z = 9 := UInt8.toNat_inj.1 h9
                                have hcz : wr.cell? ⟨g, o + (st + t + q), none⟩ = some (.int .u8 9) := hcz
                                have hN : Q ++ [255] ++ [9] ++ [255] = P ++ [255] ++ (escF (U.take (q + 1))).1 ∧ false = (escF (U.take (q + 1))).2 := by rw [hQ, hstp]; simp [stepE, ← hB]
                                have HN := Lib.hid hN
                                clear hN hstp hB hz h255 h9 g2 hQ
                                obtain ⟨Q1, hQ1⟩ : ∃ Q1, Q1 = Q ++ [255] := ⟨_, rfl⟩
                                obtain ⟨Q2, hQ2⟩ : ∃ Q2, Q2 = Q1 ++ [9] := ⟨_, rfl⟩
                                have hQ1l : Q1.length ≤ 4500000001 := by rw [hQ1]; simp; omega
                                have hQ2l : Q2.length ≤ 4500000002 := by rw [hQ2]; simp; omega
                                have HQ1 := Lib.hid hQ1; have HQ2 := Lib.hid hQ2
                                clear hQ1 hQ2
                                go_wp2_with (first | (at_builtin; refine wpList_app_lit rfl _ _ rfl v2 Q rfl HQO.out 1 1 _ [255] rfl rfl (by omega) rfl (by omega) ?_; intro g3 cap3 w3 ho3 hn3 hk3; have HR3 := Lib.hid (show Own w3 _ Q1 ∧ Av v _ wo w3 from ⟨HQ1.out ▸ ho3, HAV.out.trans (Av.step (n := Q.length + 1) (c := cap3) hn3 hk3)⟩); clear ho3 hn3 hk3) | (at_builtin; refine wpList_app_lit rfl _ _ rfl _ Q1 rfl HR3.out.1 1 1 _ [9] rfl rfl (by omega) rfl (by omega) ?_; intro g4 cap4 w4 ho4 hn4 hk4; have HR4 := Lib.hid (show Own w4 _ Q2 ∧ Av v _ wo w4 from ⟨HQ2.out ▸ ho4, HR3.out.2.trans (Av.step (n := Q1.length + 1) (c := cap4) hn4 hk4)⟩); clear ho4 hn4 hk4) | (at_builtin; refine wpList_app_lit rfl _ _ rfl _ Q2 rfl HR4.out.1 1 1 _ [255] rfl rfl (by omega) rfl (by omega) ?_; intro g5 cap5 w5 ho5 hn5 hk5; have HR5 := Lib.hid (show Own w5 _ (Q2 ++ [255]) ∧ Av v _ wo w5 from ⟨ho5, HR4.out.2.trans (Av.step (n := Q2.length + 1) (c := cap5) hn5 hk5)⟩); clear ho5 hn5 hk5))
                                go_roundw
                                case rel => exact ⟨q + 1, _, false, by omega, by go_num, rfl, rfl, Lib.hid ⟨HN.out.2, by rw [← HN.out.1, ← HQ1.out, ← HQ2.out]; exact HR5.out.1, HR5.out.2⟩⟩
                                case measure => simp [intOf]; omega
                              · have hN : Q ++ [z] = P ++ [255] ++ (escF (U.take (q + 1))).1 ∧ b = (escF (U.take (q + 1))).2 := by
                                  rw [hQ, hstp]
                                  unfold stepE
                                  rw [if_neg h255, if_neg (by rw [← hB]; exact h9)]
                                  exact ⟨by simp [List.append_assoc], hB⟩
                                have HN := Lib.hid hN
                                have g3 : (z.toNat ≠ 9) ∨ (z.toNat = 9 ∧ b = true) := by
                                  by_cases h : z.toNat = 9
                                  · exact .inr ⟨h, by cases b; exact absurd ⟨h, rfl⟩ h9; rfl⟩
                                  · exact .inl h
                                clear hN hstp hB hz h255 h9 hQ
                                rcases g3 with g3 | ⟨g3, rfl⟩
                                · have g4 : ((z.toNat : Int) == 9) = false := by simp; omega
                                  clear g3
                                  go_wp2_with (at_builtin; refine wpList_app_lit rfl _ _ rfl v2 Q rfl HQO.out 1 1 _ [z] rfl rfl (by omega) rfl (by omega) ?_; intro g3 cap3 w3 ho3 hn3 hk3; have HR3 := Lib.hid (show Own w3 _ _ ∧ Av v _ wo w3 from ⟨HN.out.1 ▸ ho3, HAV.out.trans (Av.step (n := Q.length + 1) (c := cap3) hn3 hk3)⟩); clear ho3 hn3 hk3)
                                  go_roundw
                                  case rel => exact ⟨q + 1, _, b, by omega, by go_num, rfl, rfl, Lib.hid ⟨HN.out.2, HR3.out.1, HR3.out.2⟩⟩
                                  case measure => simp [intOf]; omega
                                · obtain rfl : z = 9 := UInt8.toNat_inj.1 g3
                                  have hcz : wr.cell? ⟨g, o + (st + t + q), none⟩ = some (.int .u8 9) := hcz
                                  clear g3 g2
                                  go_wp2_with (at_builtin; refine wpList_app_lit rfl _ _ rfl v2 Q rfl HQO.out 1 1 _ [9] rfl rfl (by omega) rfl (by omega) ?_; intro g3 cap3 w3 ho3 hn3 hk3; have HR3 := Lib.hid (show Own w3 _ _ ∧ Av v _ wo w3 from ⟨HN.out.1 ▸ ho3, HAV.out.trans (Av.step (n := Q.length + 1) (c := cap3) hn3 hk3)⟩); clear ho3 hn3 hk3)
                                  go_roundw
                                  case rel => exact ⟨q + 1, _, true, by omega, by go_num, rfl, rfl, Lib.hid ⟨HN.out.2, HR3.out.1, HR3.out.2⟩⟩
                                  case measure => simp [intOf]; omega
                          · have hq1 : ¬ ((st : Int) + t + q ≤ e) := by omega
                            have ho2 := hrl.out.2.1
                            rw [List.take_of_length_le (by have := HUl.out; omega), HP.out, ← HKE.out, HU.out] at ho2
                            have HR2 := Lib.hid (hM.out.next hse hno.out HX.out (t : Int) (base - (t : Int)) _ (by rw [← HS.out, ← HME.out]; exact HST.out) ho2 hrl.out.2.2)
                            clear ho2 hrl
                            go_wp2_with fail
                            go_roundw
                            case rel => exact ⟨e + 1, (t : Int), _, by omega, by go_num, rfl, rfl, HR2⟩
                            case measure => simp [intOf]; omega
                  · by_cases hft : (t : Int) ≤ fi
                    · have hf1 : 0 ≤ fi := by omega
                      have hstp : stepI base { S with cur := M } 10 = ⟨fi, S.fc, [], S.out ++ [255] ++ List.replicate (base).toNat 9 ++ [255] ++ (escF (untab L)).1⟩ := by
                        unfold stepI lineOut indent
                        have hu2 : ¬ (untab L).length = 1 := by rw [HLE.out]; exact hu1
                        rw [if_neg (by decide), if_neg hu1, ← HLE.out, if_neg hu2, ← HT.out]
                        show (⟨if S.fi < 0 then _ else S.fi, if S.fi < 0 then _ else S.fc, _, S.out ++ ([255] ++ List.replicate (if S.fi < 0 then _ else if (t : Int) < S.fi then _ else (t : Int) + S.fc).toNat 9 ++ [255] ++ _)⟩ : Is) = _
                        rw [HSF.out]
                        rw [if_neg hf0, if_neg hf0, if_neg hf0]; have hfc := HOK.out.fc (by rw [HSF.out]; exact hf1); rw [HSF.out] at hfc; rw [show (if (t : Int) < fi then base else (t : Int) + S.fc) = base by split <;> omega]; simp [List.append_assoc]
                      have HST := Lib.hid hstp
                      have hli0 : 0 ≤ base := by omega
                      have hli1 : base ≤ 200000 := by omega
                      clear hf0
                      clear hstp hu1
                      go_wp2_with (at_builtin; refine wpList_app_lit rfl _ _ rfl v S.out rfl HSO.out 1 1 _ [255] rfl rfl (by omega) rfl (by omega) ?_; intro g1 cap1 w1 ho1 hn1 hk1; have HR := Lib.hid (And.intro ho1 (Av.step (n := S.out.length + 1) (c := cap1) hn1 hk1)); clear ho1 hn1 hk1)
                      go_loopw [5, 11] (fun s5 s11 wr => ∃ (k : Nat) (v1 : Value), (k : Int) ≤ base ∧ s11 = .int .i64 k ∧ v1 = s5 ∧ Hid (Own wr v1 (S.out ++ [255] ++ List.replicate k 9) ∧ Av v v1 wo wr)) (fun _ s11 _ => (base - intOf s11).toNat)
                      case atStart => exact ⟨0, _, hli0, rfl, rfl, Lib.hid (by simpa using HR.out)⟩
                      case round =>
                        clear HR
                        obtain ⟨k, v1, hk, rfl, rfl, hrl⟩ := hrel
                        obtain ⟨P, hP⟩ : ∃ P, P = S.out ++ [255] ++ List.replicate k 9 := ⟨_, rfl⟩
                        have hPo : Own wr v1 P := by rw [hP]; exact hrl.out.1
                        have hPl : P.length ≤ 4400000000 := by rw [hP]; simp; omega
                        have HP := Lib.hid hP; have HPO := Lib.hid hPo
                        clear hP hPo
                        by_cases hkl : (k : Int) < base
                        · have hN : P ++ [9] = S.out ++ [255] ++ List.replicate (k + 1) 9 := by rw [HP.out, List.append_assoc, ← List.replicate_succ']
                          have HN := Lib.hid hN; clear hN
                          go_wp2_with (at_builtin; refine wpList_app_lit rfl _ _ rfl v1 P rfl HPO.out 1 1 _ [9] rfl rfl (by omega) rfl (by omega) ?_; intro g1 cap1 w1 ho1 hn1 hk1; have HR := Lib.hid (show Own w1 _ _ ∧ Av v _ wo w1 from ⟨HN.out ▸ ho1, hrl.out.2.trans (Av.step (n := P.length + 1) (c := cap1) hn1 hk1)⟩); clear ho1 hn1 hk1)
                          go_roundw
                          case rel => exact ⟨k + 1, _, by omega, by go_num, rfl, HR⟩
                          case measure => simp [intOf]; omega
                        · have hke : (base).toNat = k := by omega
                          have HKE := Lib.hid hke; clear hke
                          go_wp2_with (at_builtin; refine wpList_app_lit rfl _ _ rfl v1 P rfl HPO.out 1 1 _ [255] rfl rfl (by omega) rfl (by omega) ?_; intro g1 cap1 w1 ho1 hn1 hk1; have HR := Lib.hid (show Own w1 _ (P ++ [255]) ∧ Av v _ wo w1 from ⟨ho1, hrl.out.2.trans (Av.step (n := P.length + 1) (c := cap1) hn1 hk1)⟩); clear ho1 hn1 hk1)
                          obtain ⟨U, hU⟩ : ∃ U, U = untab L := ⟨_, rfl⟩
                          have hUl : U.length = D + 1 - t := by rw [hU, HUL.out]
                          have hUc : ∀ j z, U[j]? = some z → w.cell? ⟨g, o + (st + t + j), none⟩ = some (By z) := fun j z hj => by
                            rw [hU, HUE.out, List.getElem?_drop] at hj
                            have := HLC.out _ z hj
                            rwa [← Nat.add_assoc st] at this
                          have HU := Lib.hid hU; have HUl := Lib.hid hUl; have HUC := Lib.hid hUc
                          have hUb : U.length ≤ 65538 := by omega
                          clear hU hUl hUc
                          go_loopw [5, 12, 13] (fun s5 s12 s13 wr => ∃ (q : Nat) (v2 : Value) (b : Bool), t + q ≤ D + 1 ∧ s13 = .int .i64 ((st : Int) + t + q) ∧ s12 = .bool b ∧ v2 = s5 ∧ Hid (b = (escF (U.take q)).2 ∧ Own wr v2 (P ++ [255] ++ (escF (U.take q)).1) ∧ Av v v2 wo wr)) (fun _ _ s13 _ => e + 1 - (intOf s13).toNat)
                          case atStart => exact ⟨0, _, false, by omega, by simp, rfl, rfl, Lib.hid ⟨rfl, by simpa [escF] using HR.out.1, HR.out.2⟩⟩
                          case round =>
                            clear HR hrl
                            obtain ⟨q, v2, b, hq, rfl, rfl, rfl, hrl⟩ := hrel
                            by_cases hqe : t + q ≤ D
                            · obtain ⟨z, hz⟩ : ∃ z, U[q]? = some z := ⟨U[q]'(by have := HUl.out; omega), List.getElem?_eq_getElem _⟩
                              have hcz : wr.cell? ⟨g, o + (st + t + q), none⟩ = some (.int .u8 z.toNat) := ((hM.out.av.trans hrl.out.2.2).cell hg (by simp [Value.ownBlock])).trans (HUC.out q z hz)
                              have e2 : ((st : Int) + t + q).toNat = st + t + q := by omega
                              have hq1 : (st : Int) + t + q ≤ e := by omega
                              have hq2 : (st : Int) + t + q < n := by omega
                              have hq3 : (0 : Int) ≤ (st : Int) + t + q := by omega
                              obtain ⟨Q, hQ⟩ : ∃ Q, Q = P ++ [255] ++ (escF (U.take q)).1 := ⟨_, rfl⟩
                              have hQo : Own wr v2 Q := by rw [hQ]; exact hrl.out.2.1
                              have hQl : Q.length ≤ 4500000000 := by
                                have h1 := escF_len (U.take q)
                                have h2 : (U.take q).length ≤ 65538 := by rw [List.length_take]; omega
                                rw [hQ, List.length_append, List.length_append]; simp only [List.length_cons, List.length_nil]; omega
                              have hstp := escF_take hz
                              have hB := hrl.out.1
                              have HAV := Lib.hid hrl.out.2.2; have HQO := Lib.hid hQo
                              have hzl := z.toNat_lt
                              clear hrl hQo
                              by_cases h255 : z.toNat = 255
                              · obtain rfl : z = 255 := UInt8.toNat_inj.1 h255
                                have hcz : wr.cell? ⟨g, o + (st + t + q), none⟩ = some (.int .u8 255) := hcz
                                have hN : Q ++ [255] = P ++ [255] ++ (escF (U.take (q + 1))).1 ∧ (!b) = (escF (U.take (q + 1))).2 := by rw [hQ, hstp, hB]; simp [stepE]
                                have HN := Lib.hid hN
                                clear hN hstp hB hz h255 hQ
                                go_wp2_with (at_builtin; refine wpList_app_lit rfl _ _ rfl v2 Q rfl HQO.out 1 1 _ [255] rfl rfl (by omega) rfl (by omega) ?_; intro g3 cap3 w3 ho3 hn3 hk3; have HR3 := Lib.hid (show Own w3 _ _ ∧ Av v _ wo w3 from ⟨HN.out.1 ▸ ho3, HAV.out.trans (Av.step (n := Q.length + 1) (c := cap3) hn3 hk3)⟩); clear ho3 hn3 hk3)
                                go_roundw
                                case rel => exact ⟨q + 1, _, !b, by omega, by go_num, rfl, rfl, Lib.hid ⟨HN.out.2, HR3.out.1, HR3.out.2⟩⟩
                                case measure => simp [intOf]; omega
                              · have g2 : ((z.toNat : Int) == 255) = false := by simp; omega
                                by_cases h9 : z.toNat = 9 ∧ b = false
                                · obtain ⟨h9, rfl⟩ := h9
                                  obtain rfl : z = 9 := UInt8.toNat_inj.1 h9
                                  have hcz : wr.cell? ⟨g, o + (st + t + q), none⟩ = some (.int .u8 9) := hcz
                                  have hN : Q ++ [255] ++ [9] ++ [255] = P ++ [255] ++ (escF (U.take (q + 1))).1 ∧ false = (escF (U.take (q + 1))).2 := by rw [hQ, hstp]; simp [stepE, ← hB]
                                  have HN := Lib.hid hN
                                  clear hN hstp hB hz h255 h9 g2 hQ
                                  obtain ⟨Q1, hQ1⟩ : ∃ Q1, Q1 = Q ++ [255] := ⟨_, rfl⟩
                                  obtain ⟨Q2, hQ2⟩ : ∃ Q2, Q2 = Q1 ++ [9] := ⟨_, rfl⟩
                                  have hQ1l : Q1.length ≤ 4500000001 := by rw [hQ1]; simp; omega
                                  have hQ2l : Q2.length ≤ 4500000002 := by rw [hQ2]; simp; omega
                                  have HQ1 := Lib.hid hQ1; have HQ2 := Lib.hid hQ2
                                  clear hQ1 hQ2
                                  go_wp2_with (first | (at_builtin; refine wpList_app_lit rfl _ _ rfl v2 Q rfl HQO.out 1 1 _ [255] rfl rfl (by omega) rfl (by omega) ?_; intro g3 cap3 w3 ho3 hn3 hk3; have HR3 := Lib.hid (show Own w3 _ Q1 ∧ Av v _ wo w3 from ⟨HQ1.out ▸ ho3, HAV.out.trans (Av.step (n := Q.length + 1) (c := cap3) hn3 hk3)⟩); clear ho3 hn3 hk3) | (at_builtin; refine wpList_app_lit rfl _ _ rfl _ Q1 rfl HR3.out.1 1 1 _ [9] rfl rfl (by omega) rfl (by omega) ?_; intro g4 cap4 w4 ho4 hn4 hk4; have HR4 := Lib.hid (show Own w4 _ Q2 ∧ Av v _ wo w4 from ⟨HQ2.out ▸ ho4, HR3.out.2.trans (Av.step (n := Q1.length + 1) (c := cap4) hn4 hk4)⟩); clear ho4 hn4 hk4) | (at_builtin; refine wpList_app_lit rfl _ _ rfl _ Q2 rfl HR4.out.1 1 1 _ [255] rfl rfl (by omega) rfl (by omega) ?_; intro g5 cap5 w5 ho5 hn5 hk5; have HR5 := Lib.hid (show Own w5 _ (Q2 ++ [255]) ∧ Av v _ wo w5 from ⟨ho5, HR4.out.2.trans (Av.step (n := Q2.length + 1) (c := cap5) hn5 hk5)⟩); clear ho5 hn5 hk5))
                                  go_roundw
                                  case rel => exact ⟨q + 1, _, false, by omega, by go_num, rfl, rfl, Lib.hid ⟨HN.out.2, by rw [← HN.out.1, ← HQ1.out, ← HQ2.out]; exact HR5.out.1, HR5.out.2⟩⟩
                                  case measure => simp [intOf]; omega
                                · have hN : Q ++ [z] = P ++ [255] ++ (escF (U.take (q + 1))).1 ∧ b = (escF (U.take (q + 1))).2 := by
                                    rw [hQ, hstp]
                                    unfold stepE
                                    rw [if_neg h255, if_neg (by rw [← hB]; exact h9)]
                                    exact ⟨by simp [List.append_assoc], hB⟩
                                  have HN := Lib.hid hN
                                  have g3 : (z.toNat ≠ 9) ∨ (z.toNat = 9 ∧ b = true) := by
                                    by_cases h : z.toNat = 9
                                    · exact .inr ⟨h, by cases b; exact absurd ⟨h, rfl⟩ h9; rfl⟩
                                    · exact .inl h
                                  clear hN hstp hB hz h255 h9 hQ
                                  rcases g3 with g3 | ⟨g3, rfl⟩
                                  · have g4 : ((z.toNat : Int) == 9) = false := by simp; omega
                                    clear g3
                                    go_wp2_with (at_builtin; refine wpList_app_lit rfl _ _ rfl v2 Q rfl HQO.out 1 1 _ [z] rfl rfl (by omega) rfl (by omega) ?_; intro g3 cap3 w3 ho3 hn3 hk3; have HR3 := Lib.hid (show Own w3 _ _ ∧ Av v _ wo w3 from ⟨HN.out.1 ▸ ho3, HAV.out.trans (Av.step (n := Q.length + 1) (c := cap3) hn3 hk3)⟩); clear ho3 hn3 hk3)
                                    go_roundw
                                    case rel => exact ⟨q + 1, _, b, by omega, by go_num, rfl, rfl, Lib.hid ⟨HN.out.2, HR3.out.1, HR3.out.2⟩⟩
                                    case measure => simp [intOf]; omega
                                  · obtain rfl : z = 9 := UInt8.toNat_inj.1 g3
                                    have hcz : wr.cell? ⟨g, o + (st + t + q), none⟩ = some (.int .u8 9) := hcz
                                    clear g3 g2
                                    go_wp2_with (at_builtin; refine wpList_app_lit rfl _ _ rfl v2 Q rfl HQO.out 1 1 _ [9] rfl rfl (by omega) rfl (by omega) ?_; intro g3 cap3 w3 ho3 hn3 hk3; have HR3 := Lib.hid (show Own w3 _ _ ∧ Av v _ wo w3 from ⟨HN.out.1 ▸ ho3, HAV.out.trans (Av.step (n := Q.length + 1) (c := cap3) hn3 hk3)⟩); clear ho3 hn3 hk3)
                                    go_roundw
                                    case rel => exact ⟨q + 1, _, true, by omega, by go_num, rfl, rfl, Lib.hid ⟨HN.out.2, HR3.out.1, HR3.out.2⟩⟩
                                    case measure => simp [intOf]; omega
                            · have hq1 : ¬ ((st : Int) + t + q ≤ e) := by omega
                              have ho2 := hrl.out.2.1
                              rw [List.take_of_length_le (by have := HUl.out; omega), HP.out, ← HKE.out, HU.out] at ho2
                              have HR2 := Lib.hid (hM.out.next hse hno.out HX.out fi S.fc _ (by rw [← HS.out, ← HME.out]; exact HST.out) ho2 hrl.out.2.2)
                              clear ho2 hrl
                              go_wp2_with fail
                              go_roundw
                              case rel => exact ⟨e + 1, fi, _, by omega, by go_num, rfl, rfl, HR2⟩
                              case measure => simp [intOf]; omega
                    · have hf1 : 0 ≤ fi := by omega
                      have hft2 : fi < (t : Int) := by omega
                      have hstp : stepI base { S with cur := M } 10 = ⟨fi, S.fc, [], S.out ++ [255] ++ List.replicate ((base + ((t : Int) - fi))).toNat 9 ++ [255] ++ (escF (untab L)).1⟩ := by
                        unfold stepI lineOut indent
                        have hu2 : ¬ (untab L).length = 1 := by rw [HLE.out]; exact hu1
                        rw [if_neg (by decide), if_neg hu1, ← HLE.out, if_neg hu2, ← HT.out]
                        show (⟨if S.fi < 0 then _ else S.fi, if S.fi < 0 then _ else S.fc, _, S.out ++ ([255] ++ List.replicate (if S.fi < 0 then _ else if (t : Int) < S.fi then _ else (t : Int) + S.fc).toNat 9 ++ [255] ++ _)⟩ : Is) = _
                        rw [HSF.out]
                        rw [if_neg hf0, if_neg hf0, if_neg hf0]; have hfc := HOK.out.fc (by rw [HSF.out]; exact hf1); rw [HSF.out] at hfc; rw [if_neg (by omega), show (t : Int) + S.fc = base + ((t : Int) - fi) by omega]; simp [List.append_assoc]
                      have HST := Lib.hid hstp
                      have hli0 : 0 ≤ (base + ((t : Int) - fi)) := by omega
                      have hli1 : (base + ((t : Int) - fi)) ≤ 200000 := by omega
                      clear hf0 hft
                      clear hstp hu1
                      go_wp2_with (at_builtin; refine wpList_app_lit rfl _ _ rfl v S.out rfl HSO.out 1 1 _ [255] rfl rfl (by omega) rfl (by omega) ?_; intro g1 cap1 w1 ho1 hn1 hk1; have HR := Lib.hid (And.intro ho1 (Av.step (n := S.out.length + 1) (c := cap1) hn1 hk1)); clear ho1 hn1 hk1)
                      go_loopw [5, 11] (fun s5 s11 wr => ∃ (k : Nat) (v1 : Value), (k : Int) ≤ (base + ((t : Int) - fi)) ∧ s11 = .int .i64 k ∧ v1 = s5 ∧ Hid (Own wr v1 (S.out ++ [255] ++ List.replicate k 9) ∧ Av v v1 wo wr)) (fun _ s11 _ => ((base + ((t : Int) - fi)) - intOf s11).toNat)
                      case atStart => exact ⟨0, _, hli0, rfl, rfl, Lib.hid (by simpa using HR.out)⟩
                      case round =>
                        clear HR
                        obtain ⟨k, v1, hk, rfl, rfl, hrl⟩ := hrel
                        obtain ⟨P, hP⟩ : ∃ P, P = S.out ++ [255] ++ List.replicate k 9 := ⟨_, rfl⟩
                        have hPo : Own wr v1 P := by rw [hP]; exact hrl.out.1
                        have hPl : P.length ≤ 4400000000 := by rw [hP]; simp; omega
                        have HP := Lib.hid hP; have HPO := Lib.hid hPo
                        clear hP hPo
                        by_cases hkl : (k : Int) < (base + ((t : Int) - fi))
                        · have hN : P ++ [9] = S.out ++ [255] ++ List.replicate (k + 1) 9 := by rw [HP.out, List.append_assoc, ← List.replicate_succ']
                          have HN := Lib.hid hN; clear hN
                          go_wp2_with (at_builtin; refine wpList_app_lit rfl _ _ rfl v1 P rfl HPO.out 1 1 _ [9] rfl rfl (by omega) rfl (by omega) ?_; intro g1 cap1 w1 ho1 hn1 hk1; have HR := Lib.hid (show Own w1 _ _ ∧ Av v _ wo w1 from ⟨HN.out ▸ ho1, hrl.out.2.trans (Av.step (n := P.length + 1) (c := cap1) hn1 hk1)⟩); clear ho1 hn1 hk1)
                          go_roundw
                          case rel => exact ⟨k + 1, _, by omega, by go_num, rfl, HR⟩
                          case measure => simp [intOf]; omega
                        · have hke : ((base + ((t : Int) - fi))).toNat = k := by omega
                          have HKE := Lib.hid hke; clear hke
                          go_wp2_with (at_builtin; refine wpList_app_lit rfl _ _ rfl v1 P rfl HPO.out 1 1 _ [255] rfl rfl (by omega) rfl (by omega) ?_; intro g1 cap1 w1 ho1 hn1 hk1; have HR := Lib.hid (show Own w1 _ (P ++ [255]) ∧ Av v _ wo w1 from ⟨ho1, hrl.out.2.trans (Av.step (n := P.length + 1) (c := cap1) hn1 hk1)⟩); clear ho1 hn1 hk1)
                          obtain ⟨U, hU⟩ : ∃ U, U = untab L := ⟨_, rfl⟩
                          have hUl : U.length = D + 1 - t := by rw [hU, HUL.out]
                          have hUc : ∀ j z, U[j]? = some z → w.cell? ⟨g, o + (st + t + j), none⟩ = some (By z) := fun j z hj => by
                            rw [hU, HUE.out, List.getElem?_drop] at hj
                            have := HLC.out _ z hj
                            rwa [← Nat.add_assoc st] at this
                          have HU := Lib.hid hU; have HUl := Lib.hid hUl; have HUC := Lib.hid hUc
                          have hUb : U.length ≤ 65538 := by omega
                          clear hU hUl hUc
                          go_loopw [5, 12, 13] (fun s5 s12 s13 wr => ∃ (q : Nat) (v2 : Value) (b : Bool), t + q ≤ D + 1 ∧ s13 = .int .i64 ((st : Int) + t + q) ∧ s12 = .bool b ∧ v2 = s5 ∧ Hid (b = (escF (U.take q)).2 ∧ Own wr v2 (P ++ [255] ++ (escF (U.take q)).1) ∧ Av v v2 wo wr)) (fun _ _ s13 _ => e + 1 - (intOf s13).toNat)
                          case atStart => exact ⟨0, _, false, by omega, by simp, rfl, rfl, Lib.hid ⟨rfl, by simpa [escF] using HR.out.1, HR.out.2⟩⟩
                          case round =>
                            clear HR hrl
                            obtain ⟨q, v2, b, hq, rfl, rfl, rfl, hrl⟩ := hrel
                            by_cases hqe : t + q ≤ D
                            · obtain ⟨z, hz⟩ : ∃ z, U[q]? = some z := ⟨U[q]'(by have := HUl.out; omega), List.getElem?_eq_getElem _⟩
                              have hcz : wr.cell? ⟨g, o + (st + t + q), none⟩ = some (.int .u8 z.toNat) := ((hM.out.av.trans hrl.out.2.2).cell hg (by simp [Value.ownBlock])).trans (HUC.out q z hz)
                              have e2 : ((st : Int) + t + q).toNat = st + t + q := by omega
                              have hq1 : (st : Int) + t + q ≤ e := by omega
                              have hq2 : (st : Int) + t + q < n := by omega
                              have hq3 : (0 : Int) ≤ (st : Int) + t + q := by omega
                              obtain ⟨Q, hQ⟩ : ∃ Q, Q = P ++ [255] ++ (escF (U.take q)).1 := ⟨_, rfl⟩
                              have hQo : Own wr v2 Q := by rw [hQ]; exact hrl.out.2.1
                              have hQl : Q.length ≤ 4500000000 := by
                                have h1 := escF_len (U.take q)
                                have h2 : (U.take q).length ≤ 65538 := by rw [List.length_take]; omega
                                rw [hQ, List.length_append, List.length_append]; simp only [List.length_cons, List.length_nil]; omega
                              have hstp := escF_take hz
                              have hB := hrl.out.1
                              have HAV := Lib.hid hrl.out.2.2; have HQO := Lib.hid hQo
                              have hzl := z.toNat_lt
                              clear hrl hQo
                              by_cases h255 : z.toNat = 255
                              · obtain rfl : z = 255 := UInt8.toNat_inj.1 h255
                                have hcz : wr.cell? ⟨g, o + (st + t + q), none⟩ = some (.int .u8 255) := hcz
                                have hN : Q ++ [255] = P ++ [255] ++ (escF (U.take (q + 1))).1 ∧ (!b) = (escF (U.take (q + 1))).2 := by rw [hQ, hstp, hB]; simp [stepE]
                                have HN := Lib.hid hN
                                clear hN hstp hB hz h255 hQ
                                go_wp2_with (at_builtin; refine wpList_app_lit rfl _ _ rfl v2 Q rfl HQO.out 1 1 _ [255] rfl rfl (by omega) rfl (by omega) ?_; intro g3 cap3 w3 ho3 hn3 hk3; have HR3 := Lib.hid (show Own w3 _ _ ∧ Av v _ wo w3 from ⟨HN.out.1 ▸ ho3, HAV.out.trans (Av.step (n := Q.length + 1) (c := cap3) hn3 hk3)⟩); clear ho3 hn3 hk3)
                                go_roundw
                                case rel => exact ⟨q + 1, _, !b, by omega, by go_num, rfl, rfl, Lib.hid ⟨HN.out.2, HR3.out.1, HR3.out.2⟩⟩
                                case measure => simp [intOf]; omega
                              · have g2 : ((z.toNat : Int) == 255) = false := by simp; omega
                                by_cases h9 : z.toNat = 9 ∧ b = false
                                · obtain ⟨h9, rfl⟩ := h9
                                  obtain rfl : z = 9 := UInt8.toNat_inj.1 h9
                                  have hcz : wr.cell? ⟨g, o + (st + t + q), none⟩ = some (.int .u8 9) := hcz
                                  have hN : Q ++ [255] ++ [9] ++ [255] = P ++ [255] ++ (escF (U.take (q + 1))).1 ∧ false = (escF (U.take (q + 1))).2 := by rw [hQ, hstp]; simp [stepE, ← hB]
                                  have HN := Lib.hid hN
                                  clear hN hstp hB hz h255 h9 g2 hQ
                                  obtain ⟨Q1, hQ1⟩ : ∃ Q1, Q1 = Q ++ [255] := ⟨_, rfl⟩
                                  obtain ⟨Q2, hQ2⟩ : ∃ Q2, Q2 = Q1 ++ [9] := ⟨_, rfl⟩
                                  have hQ1l : Q1.length ≤ 4500000001 := by rw [hQ1]; simp; omega
                                  have hQ2l : Q2.length ≤ 4500000002 := by rw [hQ2]; simp; omega
                                  have HQ1 := Lib.hid hQ1; have HQ2 := Lib.hid hQ2
                                  clear hQ1 hQ2
                                  go_wp2_with (first | (at_builtin; refine wpList_app_lit rfl _ _ rfl v2 Q rfl HQO.out 1 1 _ [255] rfl rfl (by omega) rfl (by omega) ?_; intro g3 cap3 w3 ho3 hn3 hk3; have HR3 := Lib.hid (show Own w3 _ Q1 ∧ Av v _ wo w3 from ⟨HQ1.out ▸ ho3, HAV.out.trans (Av.step (n := Q.length + 1) (c := cap3) hn3 hk3)⟩); clear ho3 hn3 hk3) | (at_builtin; refine wpList_app_lit rfl _ _ rfl _ Q1 rfl HR3.out.1 1 1 _ [9] rfl rfl (by omega) rfl (by omega) ?_; intro g4 cap4 w4 ho4 hn4 hk4; have HR4 := Lib.hid (show Own w4 _ Q2 ∧ Av v _ wo w4 from ⟨HQ2.out ▸ ho4, HR3.out.2.trans (Av.step (n := Q1.length + 1) (c := cap4) hn4 hk4)⟩); clear ho4 hn4 hk4) | (at_builtin; refine wpList_app_lit rfl _ _ rfl _ Q2 rfl HR4.out.1 1 1 _ [255] rfl rfl (by omega) rfl (by omega) ?_; intro g5 cap5 w5 ho5 hn5 hk5; have HR5 := Lib.hid (show Own w5 _ (Q2 ++ [255]) ∧ Av v _ wo w5 from ⟨ho5, HR4.out.2.trans (Av.step (n := Q2.length + 1) (c := cap5) hn5 hk5)⟩); clear ho5 hn5 hk5))
                                  go_roundw
                                  case rel => exact ⟨q + 1, _, false, by omega, by go_num, rfl, rfl, Lib.hid ⟨HN.out.2, by rw [← HN.out.1, ← HQ1.out, ← HQ2.out]; exact HR5.out.1, HR5.out.2⟩⟩
                                  case measure => simp [intOf]; omega
                                · have hN : Q ++ [z] = P ++ [255] ++ (escF (U.take (q + 1))).1 ∧ b = (escF (U.take (q + 1))).2 := by
                                    rw [hQ, hstp]
                                    unfold stepE
                                    rw [if_neg h255, if_neg (by rw [← hB]; exact h9)]
                                    exact ⟨by simp [List.append_assoc], hB⟩
                                  have HN := Lib.hid hN
                                  have g3 : (z.toNat ≠ 9) ∨ (z.toNat = 9 ∧ b = true) := by
                                    by_cases h : z.toNat = 9
                                    · exact .inr ⟨h, by cases b; exact absurd ⟨h, rfl⟩ h9; rfl⟩
                                    · exact .inl h
                                  clear hN hstp hB hz h255 h9 hQ
                                  rcases g3 with g3 | ⟨g3, rfl⟩
                                  · have g4 : ((z.toNat : Int) == 9) = false := by simp; omega
                                    clear g3
                                    go_wp2_with (at_builtin; refine wpList_app_lit rfl _ _ rfl v2 Q rfl HQO.out 1 1 _ [z] rfl rfl (by omega) rfl (by omega) ?_; intro g3 cap3 w3 ho3 hn3 hk3; have HR3 := Lib.hid (show Own w3 _ _ ∧ Av v _ wo w3 from ⟨HN.out.1 ▸ ho3, HAV.out.trans (Av.step (n := Q.length + 1) (c := cap3) hn3 hk3)⟩); clear ho3 hn3 hk3)
                                    go_roundw
                                    case rel => exact ⟨q + 1, _, b, by omega, by go_num, rfl, rfl, Lib.hid ⟨HN.out.2, HR3.out.1, HR3.out.2⟩⟩
                                    case measure => simp [intOf]; omega
                                  · obtain rfl : z = 9 := UInt8.toNat_inj.1 g3
                                    have hcz : wr.cell? ⟨g, o + (st + t + q), none⟩ = some (.int .u8 9) := hcz
                                    clear g3 g2
                                    go_wp2_with (at_builtin; refine wpList_app_lit rfl _ _ rfl v2 Q rfl HQO.out 1 1 _ [9] rfl rfl (by omega) rfl (by omega) ?_; intro g3 cap3 w3 ho3 hn3 hk3; have HR3 := Lib.hid (show Own w3 _ _ ∧ Av v _ wo w3 from ⟨HN.out.1 ▸ ho3, HAV.out.trans (Av.step (n := Q.length + 1) (c := cap3) hn3 hk3)⟩); clear ho3 hn3 hk3)
                                    go_roundw
                                    case rel => exact ⟨q + 1, _, true, by omega, by go_num, rfl, rfl, Lib.hid ⟨HN.out.2, HR3.out.1, HR3.out.2⟩⟩
                                    case measure => simp [intOf]; omega
                            · have hq1 : ¬ ((st : Int) + t + q ≤ e) := by omega
                              have ho2 := hrl.out.2.1
                              rw [List.take_of_length_le (by have := HUl.out; omega), HP.out, ← HKE.out, HU.out] at ho2
                              have HR2 := Lib.hid (hM.out.next hse hno.out HX.out fi S.fc _ (by rw [← HS.out, ← HME.out]; exact HST.out) ho2 hrl.out.2.2)
                              clear ho2 hrl
                              go_wp2_with fail
                              go_roundw
                              case rel => exact ⟨e + 1, fi, _, by omega, by go_num, rfl, rfl, HR2⟩
                              case measure => simp [intOf]; omega
          · have g1 : ((x.toNat : Int) != 10) = true := by rw [bne_iff_ne]; omega
            have hno2 : ∀ m, st ≤ m → m < e + 1 → l[m]? ≠ some 10 := by
              intro m h1 h2 h3
              by_cases hme : m = e
              · subst hme; rw [hx] at h3; cases h3; exact h10 rfl
              · exact hno.out m h1 (by omega) h3
            have HN2 := Lib.hid hno2
            clear hno2 hx hno h10
            go_wp2_with fail
            go_round
            case rel => exact ⟨e + 1, by omega, by omega, by go_num, HN2⟩
            case measure => simp [intOf]; omega
        · obtain rfl : e = n := by omega
          have gne : ((e : Int) == e) = true := by simp
          have hR := hM.out.done (by rw [HL.out]; exact hno.out)
          have HR := Lib.hid (And.intro hR hM.out.av)
          clear hR
          go_wp2_with fail
          go_ret
          exact ⟨v, rfl, HR.out.1, HR.out.2⟩
    · have hin : st = n := by omega
      subst hin
      go_wp2_with fail
      go_ret
      refine ⟨v, rfl, ?_, hM.out.av⟩
      have h1 := hM.out.own
      rwa [List.take_of_length_le (by have := HL.out; omega)] at h1
end Go.Proofs.YtejjmonaoajlgaaDoor
