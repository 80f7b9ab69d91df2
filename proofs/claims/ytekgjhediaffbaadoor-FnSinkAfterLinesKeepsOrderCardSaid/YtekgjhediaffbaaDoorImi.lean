/-
  n010_120: the indenter's model, walked.
-/
import Derived.Test.YtekgjhediaffbaaDoorIme
import Derived.Test.YtekgjhediaffbaaDoorInw
namespace Go.Proofs.YtekgjhediaffbaaDoor
open Go.RowKit

theorem slice_mid (g o n c lo hi : Nat) (h1 : lo ≤ hi) (h2 : hi ≤ c) (h3 : lo < c) (H : Int) (hH : H = hi) (w : World) : (Instr.slice 22 (.slice (some ⟨g, o, none⟩) n c) (some (.int .i64 lo)) (some (.int .i64 H)) none).run Tryd.prog w = .ok (.slice (some ⟨g, o + lo, none⟩) (hi - lo) (c - lo)) w := by
  subst hH
  rw [run_slice_lh w _ _ _ _ u8_und2 .i64 .i64 lo hi (by omega) (by omega) (by omega), u8_size]
  simp [sliced, addr_add]
  omega
theorem untab_one {l : List UInt8} (h : (untab (l ++ [10])).length = 1) : untab (l ++ [10]) = [10] := by
  rw [untab_eq] at h ⊢
  rw [List.length_drop, List.length_append] at h
  simp only [List.length_cons, List.length_nil] at h
  rw [show tabs (l ++ [10]) = l.length by omega]
  simp
abbrev nilS : Value := .slice none 0 0
/-- What the model holds at byte i. -/
structure Mi (w wr : World) (base : Int) (l : List UInt8) (i st : Nat) (fi : Int) (v : Value) : Prop where
  fi : (foldI base is0 (l.take i)).fi = fi
  cur : (foldI base is0 (l.take i)).cur = (l.drop st).take (i - st)
  own : Own wr v (foldI base is0 (l.take i)).out
  av : Av nilS v w wr
theorem Mi.plain {w wr : World} {base : Int} {l : List UInt8} {i st : Nat} {fi : Int} {v : Value} (h : Mi w wr base l i st fi v) (hst : st ≤ i) {x : UInt8} (hx : l[i]? = some x) (hne : x.toNat ≠ 10) : Mi w wr base l (i + 1) st fi v := by
  have e : foldI base is0 (l.take (i + 1)) = { foldI base is0 (l.take i) with cur := (foldI base is0 (l.take i)).cur ++ [x] } := by rw [foldI_take hx]; unfold stepI; rw [if_pos hne]
  refine ⟨by rw [e]; exact h.fi, ?_, by rw [e]; exact h.own, h.av⟩
  rw [e]
  show (foldI base is0 (l.take i)).cur ++ [x] = _
  rw [h.cur, show i + 1 - st = i - st + 1 by omega, take_snoc' (show (l.drop st)[i - st]? = some x by rw [List.getElem?_drop, show st + (i - st) = i by omega]; exact hx)]
theorem Mi.next {w wr w2 : World} {base : Int} {l : List UInt8} {i st : Nat} {fi : Int} {v v2 : Value} (h : Mi w wr base l i st fi v) (hx : l[i]? = some 10) (fi2 fc2 : Int) (O : List UInt8) (e : stepI base (foldI base is0 (l.take i)) 10 = ⟨fi2, fc2, [], O⟩) (ho : Own w2 v2 O) (hav : Av v v2 wr w2) : Mi w w2 base l (i + 1) (i + 1) fi2 v2 := by
  have e2 : foldI base is0 (l.take (i + 1)) = ⟨fi2, fc2, [], O⟩ := by rw [foldI_take hx, e]
  exact ⟨by rw [e2], by rw [e2]; simp, by rw [e2]; exact ho, h.av.trans hav⟩
theorem Av.ne {v : Value} {w wr : World} (h : Av nilS v w wr) {g : Nat} (hg : g < w.heap.size) : v.ownBlock ≠ some g := by
  intro e
  rcases h.1 g e with h1 | h1
  · cases h1
  · omega

set_option maxRecDepth 100000 in
set_option maxHeartbeats 6400000 in
theorem mind (w : World) (base : Int) (g o n c : Nat) (l : List UInt8) (hl : l.length = n) (hg : g < w.heap.size) (hc : ∀ j x, l[j]? = some x → w.cell? ⟨g, o + j, none⟩ = some (By x)) (hnc : n ≤ c) (hb1 : 0 ≤ base) (hb2 : base ≤ 65536) (hn : n ≤ 65537) :
    Calls Tryd.prog 21 #[.int .i64 base, .slice (some ⟨g, o, none⟩) n c] w fun e w' => ∃ v', e = .returned v' ∧ Own w' v' (foldI base is0 l).out ∧ Av nilS v' w w' := by
  have hst : Hid (Mi w w base l 0 0 (-1) nilS) := Lib.hid ⟨rfl, by simp [foldI, is0], Own.nil _, Av.refl _ _⟩
  have HL := Lib.hid hl; have HC := Lib.hid hc
  clear hl hc
  go_enter Tryd.func21, Tryd.ntmps21
  go_wp2_with fail
  go_loopw [5, 6, 7, 8] (fun s5 s6 s7 s8 wr => ∃ (i st : Nat) (fi : Int) (v : Value), i ≤ n ∧ st ≤ i ∧ s8 = .int .i64 i ∧ s7 = .int .i64 st ∧ s6 = .int .i64 fi ∧ v = s5 ∧ Hid (Mi w wr base l i st fi v)) (fun _ _ _ s8 _ => n - (intOf s8).toNat)
  case atStart => exact ⟨0, 0, -1, nilS, Nat.zero_le _, Nat.zero_le _, rfl, rfl, rfl, rfl, hst⟩
  case round =>
    obtain ⟨i, st, fi, v, hi, hsi, rfl, rfl, rfl, rfl, hM⟩ := hrel
    clear hst
    obtain ⟨wo, rfl⟩ : ∃ wo : World, wo = wr := ⟨_, rfl⟩
    by_cases hlt : i < n
    · obtain ⟨x, hx⟩ : ∃ x, l[i]? = some x := ⟨l[i]'(by have := HL.out; omega), List.getElem?_eq_getElem _⟩
      have hcs : wo.cell? ⟨g, o + i, none⟩ = some (.int .u8 x.toNat) := (hM.out.av.cell hg (by simp [Value.ownBlock])).trans (HC.out i x hx)
      have hxl := x.toNat_lt
      by_cases h10 : x.toNat = 10
      · obtain rfl : x = 10 := UInt8.toNat_inj.1 h10
        have hcs : wo.cell? ⟨g, o + i, none⟩ = some (.int .u8 10) := hcs
        obtain ⟨S, hS⟩ : ∃ S, S = foldI base is0 (l.take i) := ⟨_, rfl⟩
        have hok : Iok base i S := by rw [hS]; exact take_ok hb1 l i
        have hSfi : S.fi = fi := by rw [hS]; exact hM.out.fi
        have hScur : S.cur = (l.drop st).take (i - st) := by rw [hS]; exact hM.out.cur
        have hSo : Own wo v S.out := by rw [hS]; exact hM.out.own
        obtain ⟨L, hL⟩ : ∃ L, L = S.cur ++ [10] := ⟨_, rfl⟩
        have hLd : L = (l.drop st).take (i + 1 - st) := by
          rw [hL, hScur, show i + 1 - st = i - st + 1 by omega, take_snoc' (show (l.drop st)[i - st]? = some 10 by rw [List.getElem?_drop, show st + (i - st) = i by omega]; exact hx)]
        obtain ⟨m, hm⟩ : ∃ m, m = i + 1 - st := ⟨_, rfl⟩
        have hLl : L.length = m := by rw [hLd, List.length_take, List.length_drop, HL.out]; omega
        obtain ⟨T, hT⟩ : ∃ T, T = tabs L := ⟨_, rfl⟩
        have hTm : T < m := by rw [hT, ← hLl, hL]; exact tabs_lt (by decide)
        have hLc : ∀ j y, L[j]? = some y → w.cell? ⟨g, o + st + j, none⟩ = some (By y) := by
          intro j y hj
          rw [hLd, List.getElem?_take] at hj
          split at hj
          · rw [List.getElem?_drop] at hj
            rw [Nat.add_assoc]; exact HC.out _ y hj
          · cases hj
        have hmi : m ≤ i + 1 := by omega
        have hmi2 : st + m = i + 1 := by omega
        have hul := untab_len L
        have hue := untab_eq L
        rw [← hT, hLl] at hul
        rw [← hT] at hue
        have q9 : ∀ w, (Instr.slice 22 (.slice (some ⟨g, o, none⟩) n c) (some (.int .i64 st)) (some (.int .i64 ((i : Int) + 1))) none).run Tryd.prog w = .ok (.slice (some ⟨g, o + st, none⟩) m (c - st)) w := fun w => by
          rw [hm]; exact slice_mid g o n c st (i + 1) (by omega) (by omega) (by omega) _ (by omega) w
        have q8 : ∀ w, (Instr.slice 22 (.slice (some ⟨g, o + st, none⟩) m (c - st)) (some (.int .i64 T)) none none).run Tryd.prog w = .ok (.slice (some ⟨g, o + st + T, none⟩) (m - T) (c - st - T)) w := fun w => by
          have h := slice_from g (o + st) m (c - st) T (by omega) w
          unfold fromA at h
          rw [if_neg (by omega)] at h
          exact h
        have HX := Lib.hid hx; have HS := Lib.hid hS; have HSF := Lib.hid hSfi; have HSO := Lib.hid hSo; have HLE := Lib.hid hL; have HLL := Lib.hid hLl; have HT := Lib.hid hT; have HLC := Lib.hid hLc; have HUL := Lib.hid hul; have HUE := Lib.hid hue; have HM2 := Lib.hid hmi2
        have hob := hok.out
        have hsb : (i : Int) * (base + 8) ≤ 65537 * (base + 8) := Int.mul_le_mul_of_nonneg_right (by omega) (by omega)
        have hSol : S.out.length ≤ 4300000000 := by omega
        have hfh := hok.hi; have hfl2 := hok.lo
        rw [hSfi] at hfh hfl2
        have HOK := Lib.hid hok
        clear hx hS hSfi hScur hSo hL hLd hm hLl hT hLc hmi2 hul hue h10 hob hsb hok
        go_wp2_with fail
        go_loop [10] (fun s10 => ∃ t : Nat, t ≤ T ∧ s10 = .int .i64 t) (fun s10 => T - (intOf s10).toNat)
        case atStart => exact ⟨0, Nat.zero_le _, rfl⟩
        case round =>
          obtain ⟨t, ht, rfl⟩ := hrel
          obtain ⟨y, hy⟩ : ∃ y, L[t]? = some y := ⟨L[t]'(by have := HLL.out; omega), List.getElem?_eq_getElem _⟩
          have hcy : wo.cell? ⟨g, o + st + t, none⟩ = some (.int .u8 y.toNat) := (hM.out.av.cell hg (by simp [Value.ownBlock])).trans (HLC.out t y hy)
          have htm : t < m := by omega
          by_cases htT : t < T
          · have h9 := tabs_get (l := L) (k := t) (by rw [← HT.out]; exact htT)
            rw [hy] at h9
            obtain rfl : y = 9 := Option.some.inj h9
            have hcy : wo.cell? ⟨g, o + st + t, none⟩ = some (.int .u8 9) := hcy
            clear hy h9
            go_wp2_with fail
            go_round
            case rel => exact ⟨t + 1, by omega, by go_num⟩
            case measure => simp [intOf]; omega
          · obtain rfl : t = T := by omega
            have hne := tabs_stop (l := L) (x := y) (by rw [← HT.out]; exact hy)
            have g1 : ((y.toNat : Int) == 9) = false := by simp; omega
            clear hy hne
            obtain ⟨M, hM0⟩ : ∃ M, M = m - t := ⟨_, rfl⟩
            obtain ⟨MC, hMC⟩ : ∃ MC, MC = c - st - t := ⟨_, rfl⟩
            rw [← hM0, ← hMC] at q8
            have hM1 : t + M ≤ m := by omega
            have hM2 : m ≤ t + M := by omega
            have HUM := Lib.hid (show (untab L).length = M by rw [HUL.out, hM0])
            clear hM0 hMC
            by_cases hone : M = 1
            · subst hone
              have hu1 : (untab (S.cur ++ [10])).length = 1 := by rw [← HLE.out]; exact HUM.out
              have hstp : stepI base S 10 = ⟨fi, S.fc, [], S.out ++ [10]⟩ := by
                unfold stepI
                rw [if_neg (by decide), if_pos hu1, one_left hu1, untab_one hu1, HSF.out]
              have HST := Lib.hid hstp
              clear hstp hu1
              go_wp2_with (at_builtin; refine wpList_app_lit rfl _ _ rfl v S.out rfl HSO.out 1 1 _ [10] rfl rfl (by omega) rfl (by omega) ?_; intro g1 cap1 w1 ho1 hn1 hk1; have HR := Lib.hid (hM.out.next HX.out fi S.fc _ (by rw [← HS.out]; exact HST.out) ho1 (Av.step hn1 hk1)); clear ho1 hn1 hk1)
              go_roundw
              case rel => exact ⟨i + 1, i + 1, fi, _, by omega, by omega, by go_num, by go_num, rfl, rfl, HR⟩
              case measure => simp [intOf]; omega
            · have g2 : ((M : Int) == 1) = false := by simp; omega
              have hu1 : (untab (S.cur ++ [10])).length ≠ 1 := by rw [← HLE.out, HUM.out]; exact hone
              by_cases hf0 : fi < 0
              · have g3 : ¬ ((t : Int) > t) := by omega
                have hstp : stepI base S 10 = ⟨(t : Int), (base - (t : Int)), [], S.out ++ [255] ++ List.replicate (base).toNat 9 ++ [255] ++ (escF (untab L)).1⟩ := by
                  unfold stepI lineOut indent
                  have hu2 : ¬ (untab L).length = 1 := by rw [HUM.out]; exact hone
                  rw [if_neg (by decide), if_neg hu1, ← HLE.out, if_neg hu2, ← HT.out, HSF.out]
                  rw [if_pos hf0, if_pos hf0, if_pos hf0]; simp [List.append_assoc]
                have HST := Lib.hid hstp
                have hli0 : 0 ≤ base := by omega
                have hli1 : base ≤ 200000 := by omega
                clear g3
                clear hstp hu1
                go_wp2_with (at_builtin; refine wpList_app_lit rfl _ _ rfl v S.out rfl HSO.out 1 1 _ [255] rfl rfl (by omega) rfl (by omega) ?_; intro g1 cap1 w1 ho1 hn1 hk1; have HR := Lib.hid (And.intro ho1 (Av.step (n := S.out.length + 1) (c := cap1) hn1 hk1)); clear ho1 hn1 hk1)
                go_loopw [5, 13] (fun s5 s13 wr => ∃ (k : Nat) (v1 : Value), (k : Int) ≤ base ∧ s13 = .int .i64 k ∧ v1 = s5 ∧ Hid (Own wr v1 (S.out ++ [255] ++ List.replicate k 9) ∧ Av v v1 wo wr)) (fun _ s13 _ => (base - intOf s13).toNat)
                case atStart => exact ⟨0, _, hli0, rfl, rfl, Lib.hid (by simpa using HR.out)⟩
                case round =>
                  clear HR
                  obtain ⟨k, v1, hk, rfl, rfl, hrl⟩ := hrel
                  obtain ⟨P, hP⟩ : ∃ P, P = S.out ++ [255] ++ List.replicate k 9 := ⟨_, rfl⟩
                  have hPo : Own wr v1 P := by rw [hP]; exact hrl.out.1
                  have hPl : P.length ≤ 4400000000 := by rw [hP]; simp; omega
                  have HP := Lib.hid hP; have HPO := Lib.hid hPo
                  clear hP hPo
                  by_cases hkl : (k : Int) < base
                  · have hN : P ++ [9] = S.out ++ [255] ++ List.replicate (k + 1) 9 := by rw [HP.out, List.append_assoc, ← List.replicate_succ']
                    have HN := Lib.hid hN; clear hN
                    go_wp2_with (at_builtin; refine wpList_app_lit rfl _ _ rfl v1 P rfl HPO.out 1 1 _ [9] rfl rfl (by omega) rfl (by omega) ?_; intro g1 cap1 w1 ho1 hn1 hk1; have HR := Lib.hid (show Own w1 _ _ ∧ Av v _ wo w1 from ⟨HN.out ▸ ho1, hrl.out.2.trans (Av.step (n := P.length + 1) (c := cap1) hn1 hk1)⟩); clear ho1 hn1 hk1)
                    go_roundw
                    case rel => exact ⟨k + 1, _, by omega, by go_num, rfl, HR⟩
                    case measure => simp [intOf]; omega
                  · have hke : (base).toNat = k := by omega
                    have HKE := Lib.hid hke; clear hke
                    go_wp2_with (at_builtin; refine wpList_app_lit rfl _ _ rfl v1 P rfl HPO.out 1 1 _ [255] rfl rfl (by omega) rfl (by omega) ?_; intro g1 cap1 w1 ho1 hn1 hk1; have HR := Lib.hid (show Own w1 _ (P ++ [255]) ∧ Av v _ wo w1 from ⟨ho1, hrl.out.2.trans (Av.step (n := P.length + 1) (c := cap1) hn1 hk1)⟩); clear ho1 hn1 hk1)
                    have hav := hM.out.av.trans HR.out.2
                    have hcon := mesc w1 g (o + st + t) M MC (untab L) _ (P ++ [255]) HUM.out (fun _ => Nat.lt_of_lt_of_le hg hav.2.size) (fun j z hj => by
                      rw [hav.cell hg (by simp [Value.ownBlock])]
                      rw [HUE.out, List.getElem?_drop] at hj
                      rw [Nat.add_assoc]; exact HLC.out _ z hj) (hav.ne hg) HR.out.1 (by rw [List.length_append]; simp; omega)
                    have HCON := Lib.hid hcon
                    clear hcon hav
                    refine HCON.out.mono ?_
                    rintro e w2 ⟨v2, rfl, ho2, hav2⟩
                    have HR2 := Lib.hid (hM.out.next HX.out (t : Int) (base - (t : Int)) _ (by rw [← HS.out]; exact HST.out) (by rw [HKE.out, ← HP.out]; exact ho2) (HR.out.2.trans hav2))
                    clear ho2 hav2 HCON HR
                    go_wp2_with fail
                    go_roundw
                    case rel => exact ⟨i + 1, i + 1, (t : Int), _, by omega, by omega, by go_num, by go_num, rfl, rfl, HR2⟩
                    case measure => simp [intOf]; omega
              · by_cases hft : (t : Int) ≤ fi
                · have hf1 : 0 ≤ fi := by omega
                  have hstp : stepI base S 10 = ⟨fi, S.fc, [], S.out ++ [255] ++ List.replicate (base).toNat 9 ++ [255] ++ (escF (untab L)).1⟩ := by
                    unfold stepI lineOut indent
                    have hu2 : ¬ (untab L).length = 1 := by rw [HUM.out]; exact hone
                    rw [if_neg (by decide), if_neg hu1, ← HLE.out, if_neg hu2, ← HT.out, HSF.out]
                    rw [if_neg hf0, if_neg hf0, if_neg hf0]; have hfc := HOK.out.fc (by rw [HSF.out]; exact hf1); rw [HSF.out] at hfc; rw [show (if (t : Int) < fi then base else (t : Int) + S.fc) = base by split <;> omega]; simp [List.append_assoc]
                  have HST := Lib.hid hstp
                  have hli0 : 0 ≤ base := by omega
                  have hli1 : base ≤ 200000 := by omega
                  clear hf0
                  clear hstp hu1
                  go_wp2_with (at_builtin; refine wpList_app_lit rfl _ _ rfl v S.out rfl HSO.out 1 1 _ [255] rfl rfl (by omega) rfl (by omega) ?_; intro g1 cap1 w1 ho1 hn1 hk1; have HR := Lib.hid (And.intro ho1 (Av.step (n := S.out.length + 1) (c := cap1) hn1 hk1)); clear ho1 hn1 hk1)
                  go_loopw [5, 13] (fun s5 s13 wr => ∃ (k : Nat) (v1 : Value), (k : Int) ≤ base ∧ s13 = .int .i64 k ∧ v1 = s5 ∧ Hid (Own wr v1 (S.out ++ [255] ++ List.replicate k 9) ∧ Av v v1 wo wr)) (fun _ s13 _ => (base - intOf s13).toNat)
                  case atStart => exact ⟨0, _, hli0, rfl, rfl, Lib.hid (by simpa using HR.out)⟩
                  case round =>
                    clear HR
                    obtain ⟨k, v1, hk, rfl, rfl, hrl⟩ := hrel
                    obtain ⟨P, hP⟩ : ∃ P, P = S.out ++ [255] ++ List.replicate k 9 := ⟨_, rfl⟩
                    have hPo : Own wr v1 P := by rw [hP]; exact hrl.out.1
                    have hPl : P.length ≤ 4400000000 := by rw [hP]; simp; omega
                    have HP := Lib.hid hP; have HPO := Lib.hid hPo
                    clear hP hPo
                    by_cases hkl : (k : Int) < base
                    · have hN : P ++ [9] = S.out ++ [255] ++ List.replicate (k + 1) 9 := by rw [HP.out, List.append_assoc, ← List.replicate_succ']
                      have HN := Lib.hid hN; clear hN
                      go_wp2_with (at_builtin; refine wpList_app_lit rfl _ _ rfl v1 P rfl HPO.out 1 1 _ [9] rfl rfl (by omega) rfl (by omega) ?_; intro g1 cap1 w1 ho1 hn1 hk1; have HR := Lib.hid (show Own w1 _ _ ∧ Av v _ wo w1 from ⟨HN.out ▸ ho1, hrl.out.2.trans (Av.step (n := P.length + 1) (c := cap1) hn1 hk1)⟩); clear ho1 hn1 hk1)
                      go_roundw
                      case rel => exact ⟨k + 1, _, by omega, by go_num, rfl, HR⟩
                      case measure => simp [intOf]; omega
                    · have hke : (base).toNat = k := by omega
                      have HKE := Lib.hid hke; clear hke
                      go_wp2_with (at_builtin; refine wpList_app_lit rfl _ _ rfl v1 P rfl HPO.out 1 1 _ [255] rfl rfl (by omega) rfl (by omega) ?_; intro g1 cap1 w1 ho1 hn1 hk1; have HR := Lib.hid (show Own w1 _ (P ++ [255]) ∧ Av v _ wo w1 from ⟨ho1, hrl.out.2.trans (Av.step (n := P.length + 1) (c := cap1) hn1 hk1)⟩); clear ho1 hn1 hk1)
                      have hav := hM.out.av.trans HR.out.2
                      have hcon := mesc w1 g (o + st + t) M MC (untab L) _ (P ++ [255]) HUM.out (fun _ => Nat.lt_of_lt_of_le hg hav.2.size) (fun j z hj => by
                        rw [hav.cell hg (by simp [Value.ownBlock])]
                        rw [HUE.out, List.getElem?_drop] at hj
                        rw [Nat.add_assoc]; exact HLC.out _ z hj) (hav.ne hg) HR.out.1 (by rw [List.length_append]; simp; omega)
                      have HCON := Lib.hid hcon
                      clear hcon hav
                      refine HCON.out.mono ?_
                      rintro e w2 ⟨v2, rfl, ho2, hav2⟩
                      have HR2 := Lib.hid (hM.out.next HX.out fi S.fc _ (by rw [← HS.out]; exact HST.out) (by rw [HKE.out, ← HP.out]; exact ho2) (HR.out.2.trans hav2))
                      clear ho2 hav2 HCON HR
                      go_wp2_with fail
                      go_roundw
                      case rel => exact ⟨i + 1, i + 1, fi, _, by omega, by omega, by go_num, by go_num, rfl, rfl, HR2⟩
                      case measure => simp [intOf]; omega
                · have hf1 : 0 ≤ fi := by omega
                  have hft2 : fi < (t : Int) := by omega
                  have hstp : stepI base S 10 = ⟨fi, S.fc, [], S.out ++ [255] ++ List.replicate ((base + ((t : Int) - fi))).toNat 9 ++ [255] ++ (escF (untab L)).1⟩ := by
                    unfold stepI lineOut indent
                    have hu2 : ¬ (untab L).length = 1 := by rw [HUM.out]; exact hone
                    rw [if_neg (by decide), if_neg hu1, ← HLE.out, if_neg hu2, ← HT.out, HSF.out]
                    rw [if_neg hf0, if_neg hf0, if_neg hf0]; have hfc := HOK.out.fc (by rw [HSF.out]; exact hf1); rw [HSF.out] at hfc; rw [if_neg (by omega), show (t : Int) + S.fc = base + ((t : Int) - fi) by omega]; simp [List.append_assoc]
                  have HST := Lib.hid hstp
                  have hli0 : 0 ≤ (base + ((t : Int) - fi)) := by omega
                  have hli1 : (base + ((t : Int) - fi)) ≤ 200000 := by omega
                  clear hf0 hft
                  clear hstp hu1
                  go_wp2_with (at_builtin; refine wpList_app_lit rfl _ _ rfl v S.out rfl HSO.out 1 1 _ [255] rfl rfl (by omega) rfl (by omega) ?_; intro g1 cap1 w1 ho1 hn1 hk1; have HR := Lib.hid (And.intro ho1 (Av.step (n := S.out.length + 1) (c := cap1) hn1 hk1)); clear ho1 hn1 hk1)
                  go_loopw [5, 13] (fun s5 s13 wr => ∃ (k : Nat) (v1 : Value), (k : Int) ≤ (base + ((t : Int) - fi)) ∧ s13 = .int .i64 k ∧ v1 = s5 ∧ Hid (Own wr v1 (S.out ++ [255] ++ List.replicate k 9) ∧ Av v v1 wo wr)) (fun _ s13 _ => ((base + ((t : Int) - fi)) - intOf s13).toNat)
                  case atStart => exact ⟨0, _, hli0, rfl, rfl, Lib.hid (by simpa using HR.out)⟩
                  case round =>
                    clear HR
                    obtain ⟨k, v1, hk, rfl, rfl, hrl⟩ := hrel
                    obtain ⟨P, hP⟩ : ∃ P, P = S.out ++ [255] ++ List.replicate k 9 := ⟨_, rfl⟩
                    have hPo : Own wr v1 P := by rw [hP]; exact hrl.out.1
                    have hPl : P.length ≤ 4400000000 := by rw [hP]; simp; omega
                    have HP := Lib.hid hP; have HPO := Lib.hid hPo
                    clear hP hPo
                    by_cases hkl : (k : Int) < (base + ((t : Int) - fi))
                    · have hN : P ++ [9] = S.out ++ [255] ++ List.replicate (k + 1) 9 := by rw [HP.out, List.append_assoc, ← List.replicate_succ']
                      have HN := Lib.hid hN; clear hN
                      go_wp2_with (at_builtin; refine wpList_app_lit rfl _ _ rfl v1 P rfl HPO.out 1 1 _ [9] rfl rfl (by omega) rfl (by omega) ?_; intro g1 cap1 w1 ho1 hn1 hk1; have HR := Lib.hid (show Own w1 _ _ ∧ Av v _ wo w1 from ⟨HN.out ▸ ho1, hrl.out.2.trans (Av.step (n := P.length + 1) (c := cap1) hn1 hk1)⟩); clear ho1 hn1 hk1)
                      go_roundw
                      case rel => exact ⟨k + 1, _, by omega, by go_num, rfl, HR⟩
                      case measure => simp [intOf]; omega
                    · have hke : ((base + ((t : Int) - fi))).toNat = k := by omega
                      have HKE := Lib.hid hke; clear hke
                      go_wp2_with (at_builtin; refine wpList_app_lit rfl _ _ rfl v1 P rfl HPO.out 1 1 _ [255] rfl rfl (by omega) rfl (by omega) ?_; intro g1 cap1 w1 ho1 hn1 hk1; have HR := Lib.hid (show Own w1 _ (P ++ [255]) ∧ Av v _ wo w1 from ⟨ho1, hrl.out.2.trans (Av.step (n := P.length + 1) (c := cap1) hn1 hk1)⟩); clear ho1 hn1 hk1)
                      have hav := hM.out.av.trans HR.out.2
                      have hcon := mesc w1 g (o + st + t) M MC (untab L) _ (P ++ [255]) HUM.out (fun _ => Nat.lt_of_lt_of_le hg hav.2.size) (fun j z hj => by
                        rw [hav.cell hg (by simp [Value.ownBlock])]
                        rw [HUE.out, List.getElem?_drop] at hj
                        rw [Nat.add_assoc]; exact HLC.out _ z hj) (hav.ne hg) HR.out.1 (by rw [List.length_append]; simp; omega)
                      have HCON := Lib.hid hcon
                      clear hcon hav
                      refine HCON.out.mono ?_
                      rintro e w2 ⟨v2, rfl, ho2, hav2⟩
                      have HR2 := Lib.hid (hM.out.next HX.out fi S.fc _ (by rw [← HS.out]; exact HST.out) (by rw [HKE.out, ← HP.out]; exact ho2) (HR.out.2.trans hav2))
                      clear ho2 hav2 HCON HR
                      go_wp2_with fail
                      go_roundw
                      case rel => exact ⟨i + 1, i + 1, fi, _, by omega, by omega, by go_num, by go_num, rfl, rfl, HR2⟩
                      case measure => simp [intOf]; omega
      · have g1 : ((x.toNat : Int) != 10) = true := by rw [bne_iff_ne]; omega
        have HR := Lib.hid (hM.out.plain hsi hx h10)
        clear hx h10
        go_wp2_with fail
        go_roundw
        case rel => exact ⟨i + 1, st, fi, v, by omega, by omega, by go_num, rfl, rfl, rfl, HR⟩
        case measure => simp [intOf]; omega
    · have hin : i = n := by omega
      subst hin
      go_wp2_with fail
      go_ret
      refine ⟨v, rfl, ?_, hM.out.av⟩
      have h1 := hM.out.own
      rwa [List.take_of_length_le (by have := HL.out; omega)] at h1
end Go.Proofs.YtekgjhediaffbaaDoor
