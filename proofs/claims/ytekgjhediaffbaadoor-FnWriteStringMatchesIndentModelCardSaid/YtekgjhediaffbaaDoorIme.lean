/-
  n010_120: the model of tab escaping, walked.
-/
import Derived.Test.YtekgjhediaffbaaDoorApp
import Derived.Test.YtekgjhediaffbaaDoorIndP
import Derived.Test.YtekgjhediaffbaaDoorBw
namespace Go.Proofs.YtekgjhediaffbaaDoor
open Go.RowKit

/-- v0 has been appended to until it is v. -/
def Av (v0 v : Value) (w w' : World) : Prop := (∀ g ∈ v.ownBlock, v0.ownBlock = some g ∨ w.heap.size ≤ g) ∧ Kept v0.ownBlock.toList w w'
section
variable {v0 v1 v2 : Value} {w w1 w2 : World}
theorem Av.refl (v : Value) (w : World) : Av v v w w := ⟨fun _ h => .inl h, Kept.refl _ _⟩
theorem Av.trans (h : Av v0 v1 w w1) (k : Av v1 v2 w1 w2) : Av v0 v2 w w2 := by
  have hs := h.2.size
  refine ⟨fun g hg => ?_, h.2.trans2 k.2 fun x hx => ?_⟩
  · rcases k.1 g hg with e | e
    · exact h.1 g e
    · exact .inr (by omega)
  · rcases h.1 x (by simpa using hx) with e | e
    · exact .inl (by simp [e])
    · exact .inr e
theorem Av.step {g n c : Nat} (h : v0.ownBlock = some g ∨ w.heap.size ≤ g) (k : Kept v0.ownBlock.toList w w1) : Av v0 (.slice (some ⟨g, 0, none⟩) n c) w w1 := ⟨fun g' hg' => by cases hg'; exact h, k⟩
theorem Av.cell (h : Av v0 v1 w w1) {g o : Nat} (h1 : g < w.heap.size) (h2 : v0.ownBlock ≠ some g) : w1.cell? ⟨g, o, none⟩ = w.cell? ⟨g, o, none⟩ := h.2.cell (p := ⟨g, o, none⟩) h1 (by simpa using h2)
theorem Av.drew (h : Av v0 v1 w w1) : Av v0 v1 w w1.drew := ⟨h.1, h.2.drew⟩
end

set_option maxRecDepth 100000 in
set_option maxHeartbeats 3200000 in
theorem mesc (w : World) (g o n c : Nat) (l : List UInt8) (v0 : Value) (o0 : List UInt8) (hl : l.length = n) (hg : 0 < n → g < w.heap.size) (hc : ∀ j x, l[j]? = some x → w.cell? ⟨g, o + j, none⟩ = some (By x)) (hA : v0.ownBlock ≠ some g) (ho : Own w v0 o0) (hlim : o0.length + 3 * n ≤ 100000000000) :
    Calls Tryd.prog 18 #[.slice (some ⟨g, o, none⟩) n c, v0] w fun e w' => ∃ v', e = .returned v' ∧ Own w' v' (o0 ++ (escF l).1) ∧ Av v0 v' w w' := by
  have hst : Hid (Own w v0 (o0 ++ (escF (l.take 0)).1) ∧ (0 < n → (escF (l.take 0)).2 = false) ∧ Av v0 v0 w w) := Lib.hid ⟨by simpa [escF] using ho, fun _ => rfl, Av.refl _ _⟩
  have hn : n ≤ 100000000000 := by omega
  have HS := Lib.hid (And.intro hl trivial); have HC := Lib.hid hc; have HA := Lib.hid hA; have HG := Lib.hid hg
  clear hl hc hA ho hg
  go_enter Tryd.func18, Tryd.ntmps18
  go_wp2_with fail
  go_loopw [1, 5] (fun s1 s5 wr => ∃ (i : Nat) (v : Value), i ≤ n ∧ s5 = .int .i64 i ∧ v = s1 ∧ Hid (Own wr v (o0 ++ (escF (l.take i)).1) ∧ (i < n → (escF (l.take i)).2 = false) ∧ Av v0 v w wr)) (fun _ s5 _ => n - (intOf s5).toNat)
  case atStart => exact ⟨0, v0, Nat.zero_le _, rfl, rfl, hst⟩
  case round =>
    obtain ⟨i, v, hi, rfl, rfl, hrel⟩ := hrel
    clear hst
    obtain ⟨wo, rfl⟩ : ∃ wo : World, wo = wr := ⟨_, rfl⟩
    by_cases hlt : i < n
    · have hg : g < w.heap.size := HG.out (by omega)
      obtain ⟨x, hx⟩ : ∃ x, l[i]? = some x := ⟨l[i]'(by have := HS.out.1; omega), List.getElem?_eq_getElem _⟩
      have hcs : wo.cell? ⟨g, o + i, none⟩ = some (.int .u8 x.toNat) := (hrel.out.2.2.cell hg HA.out).trans (HC.out i x hx)
      have hbl := escF_len (l.take i)
      have hbl2 : (l.take i).length ≤ i := by simp; omega
      have hfl := hrel.out.2.1 hlt
      have hstp := escF_take hx
      obtain ⟨O, hO⟩ : ∃ O, O = o0 ++ (escF (l.take i)).1 := ⟨_, rfl⟩
      have hol : O.length + (n - i) + 3 ≤ 1000000000000 := by rw [hO, List.length_append]; omega
      have hown := hrel.out.1
      rw [← hO] at hown
      have HOW := Lib.hid hown; have HAV := Lib.hid hrel.out.2.2; have HOL := Lib.hid hol; have HO := Lib.hid (And.intro trivial hO)
      clear hown hrel hbl hbl2 hol
      have hxl := x.toNat_lt
      by_cases h255 : x.toNat = 255
      · obtain rfl : x = 255 := UInt8.toNat_inj.1 h255
        have hcs : wo.cell? ⟨g, o + i, none⟩ = some (.int .u8 255) := hcs
        have hop := fun m => escF_open hfl hx m
        have HOP := Lib.hid hop
        clear hop hfl hx hstp h255 hO
        go_wp2_with fail
        go_loop [7] (fun s7 => ∃ j : Nat, i + 1 ≤ j ∧ j ≤ n ∧ s7 = .int .i64 j ∧ Hid (∀ m, i < m → m < j → l[m]? ≠ some 255)) (fun s7 => n - (intOf s7).toNat)
        case atStart => exact ⟨i + 1, by omega, by omega, by go_num, Lib.hid (fun m h1 h2 => by omega)⟩
        case round =>
          obtain ⟨j, hj1, hj2, rfl, hno⟩ := hrel
          by_cases hjn : j < n
          · obtain ⟨y, hy⟩ : ∃ y, l[j]? = some y := ⟨l[j]'(by have := HS.out.1; omega), List.getElem?_eq_getElem _⟩
            have hcy : wo.cell? ⟨g, o + j, none⟩ = some (.int .u8 y.toNat) := (HAV.out.cell hg HA.out).trans (HC.out j y hy)
            have hyl := y.toNat_lt
            by_cases hy2 : y.toNat = 255
            · obtain rfl : y = 255 := UInt8.toNat_inj.1 hy2
              have hcy : wo.cell? ⟨g, o + j, none⟩ = some (.int .u8 255) := hcy
              have hej : escF (l.take (j + 1)) = ((escF (l.take i)).1 ++ (l.drop i).take (j + 1 - i), false) := by
                have h1 := HOP.out (j - (i + 1)) (by have := HS.out.1; omega) (fun m a b => hno.out m a (by omega))
                have h2 := escF_shut h1 (by rw [show i + 1 + (j - (i + 1)) = j by omega]; exact hy)
                rw [show i + 1 + (j - (i + 1)) + 1 = j + 1 by omega, show 1 + (j - (i + 1)) + 1 = j + 1 - i by omega] at h2
                exact h2
              have HEB := Lib.hid (show j + 1 < n → (escF (l.take (j + 1))).2 = false from fun _ => by rw [hej])
              have HEJ := Lib.hid (show o0 ++ (escF (l.take (j + 1))).1 = o0 ++ (escF (l.take i)).1 ++ (l.drop i).take (j + 1 - i) by rw [hej]; simp)
              clear hej hy hy2
              have hJl : (j + 1) ≤ n := by omega
              have hiJ : i < (j + 1) := by omega
              clear hno
              go_wp2_with fail
              have hst2 : Hid (Own wo v (O ++ (l.drop i).take 0) ∧ Av v0 v w wo) := Lib.hid (by rw [List.take_zero, List.append_nil]; exact ⟨HOW.out, HAV.out⟩)
              go_loopw [1, 8] (fun s1 s8 wr => ∃ (m : Nat) (v1 : Value), i + m ≤ (j + 1) ∧ s8 = .int .i64 ((i : Int) + m) ∧ v1 = s1 ∧ Hid (Own wr v1 (O ++ (l.drop i).take m) ∧ Av v0 v1 w wr)) (fun _ s8 _ => (j + 1) - (intOf s8).toNat)
              case atStart => exact ⟨0, v, by omega, by simp, rfl, hst2⟩
              case round =>
                obtain ⟨m, v1, hm, rfl, rfl, hrl⟩ := hrel
                clear hst2
                by_cases hml : i + m < (j + 1)
                · obtain ⟨y, hy⟩ : ∃ y, l[i + m]? = some y := ⟨l[i + m]'(by have := HS.out.1; omega), List.getElem?_eq_getElem _⟩
                  have hcy : wr.cell? ⟨g, o + (i + m), none⟩ = some (.int .u8 y.toNat) := (hrl.out.2.cell hg HA.out).trans (HC.out _ y hy)
                  obtain ⟨P, hP⟩ : ∃ P, P = O ++ (l.drop i).take m := ⟨_, rfl⟩
                  have hN : P ++ [y] = O ++ (l.drop i).take (m + 1) := by rw [hP, take_snoc' (show (l.drop i)[m]? = some y by rw [List.getElem?_drop]; exact hy), List.append_assoc]
                  have hlm : P.length + 1 ≤ 1000000000000 := by have := HOL.out; rw [hP, List.length_append, List.length_take]; omega
                  have how : Own wr v1 P := by rw [hP]; exact hrl.out.1
                  have HN := Lib.hid hN; have HLM := Lib.hid hlm; have HOWP := Lib.hid how
                  have e1 : ((i : Int) + m).toNat = i + m := by omega
                  clear hy hN hlm how hP
                  go_wp2_with (at_builtin; refine wpList_app_lit rfl _ _ rfl v1 P rfl HOWP.out 1 1 _ [y] rfl rfl (by omega) rfl HLM.out ?_; intro g1 cap1 w1 ho1 hn1 hk1; have HR := Lib.hid (show Own w1 _ _ ∧ Av v0 _ w w1 from ⟨HN.out ▸ ho1, hrl.out.2.trans (Av.step (n := P.length + 1) (c := cap1) hn1 hk1)⟩); clear ho1 hn1 hk1)
                  go_roundw
                  case rel => exact ⟨m + 1, _, by omega, by go_num, rfl, HR⟩
                  case measure => simp [intOf]; omega
                · have hme : i + m = (j + 1) := by omega
                  have HME := Lib.hid hme; clear hme
                  go_wp2_with fail
                  go_roundw
                  case rel =>
                    have hme := HME.out
                    refine ⟨(j + 1), _, by omega, by go_num, rfl, Lib.hid ⟨?_, ?_, hrl.out.2⟩⟩
                    · rw [HEJ.out, ← HO.out.2]; have := hrl.out.1; rwa [show m = (j + 1) - i by omega] at this
                    · intro hlt; exact HEB.out hlt
                  case measure => simp [intOf]; omega
            · have g1 : ((y.toNat : Int) != 255) = true := by rw [bne_iff_ne]; omega
              have hno2 : ∀ m, i < m → m < j + 1 → l[m]? ≠ some 255 := by
                intro m h1 h2 h3
                by_cases hmj : m = j
                · subst hmj; rw [hy] at h3; cases h3; exact hy2 rfl
                · exact hno.out m h1 (by omega) h3
              have HN2 := Lib.hid hno2
              clear hno2 hy hno hy2
              go_wp2_with fail
              go_round
              case rel => exact ⟨j + 1, by omega, by omega, by go_num, HN2⟩
              case measure => simp [intOf]; omega
          · obtain rfl : j = n := by omega
            have hej : escF (l.take j) = ((escF (l.take i)).1 ++ (l.drop i).take (j - i), true) := by
              have h1 := HOP.out (j - (i + 1)) (by have := HS.out.1; omega) (fun m a b => hno.out m a (by omega))
              rw [show i + 1 + (j - (i + 1)) = j by omega, show 1 + (j - (i + 1)) = j - i by omega] at h1
              exact h1
            have HEB := Lib.hid (show j < j → (escF (l.take j)).2 = false from fun h => absurd h (by omega))
            have HEJ := Lib.hid (show o0 ++ (escF (l.take j)).1 = o0 ++ (escF (l.take i)).1 ++ (l.drop i).take (j - i) by rw [hej]; simp)
            clear hej
            have hJl : j ≤ j := by omega
            have hiJ : i < j := by omega
            clear hno
            go_wp2_with fail
            have hst2 : Hid (Own wo v (O ++ (l.drop i).take 0) ∧ Av v0 v w wo) := Lib.hid (by rw [List.take_zero, List.append_nil]; exact ⟨HOW.out, HAV.out⟩)
            go_loopw [1, 8] (fun s1 s8 wr => ∃ (m : Nat) (v1 : Value), i + m ≤ j ∧ s8 = .int .i64 ((i : Int) + m) ∧ v1 = s1 ∧ Hid (Own wr v1 (O ++ (l.drop i).take m) ∧ Av v0 v1 w wr)) (fun _ s8 _ => j - (intOf s8).toNat)
            case atStart => exact ⟨0, v, by omega, by simp, rfl, hst2⟩
            case round =>
              obtain ⟨m, v1, hm, rfl, rfl, hrl⟩ := hrel
              clear hst2
              by_cases hml : i + m < j
              · obtain ⟨y, hy⟩ : ∃ y, l[i + m]? = some y := ⟨l[i + m]'(by have := HS.out.1; omega), List.getElem?_eq_getElem _⟩
                have hcy : wr.cell? ⟨g, o + (i + m), none⟩ = some (.int .u8 y.toNat) := (hrl.out.2.cell hg HA.out).trans (HC.out _ y hy)
                obtain ⟨P, hP⟩ : ∃ P, P = O ++ (l.drop i).take m := ⟨_, rfl⟩
                have hN : P ++ [y] = O ++ (l.drop i).take (m + 1) := by rw [hP, take_snoc' (show (l.drop i)[m]? = some y by rw [List.getElem?_drop]; exact hy), List.append_assoc]
                have hlm : P.length + 1 ≤ 1000000000000 := by have := HOL.out; rw [hP, List.length_append, List.length_take]; omega
                have how : Own wr v1 P := by rw [hP]; exact hrl.out.1
                have HN := Lib.hid hN; have HLM := Lib.hid hlm; have HOWP := Lib.hid how
                have e1 : ((i : Int) + m).toNat = i + m := by omega
                clear hy hN hlm how hP
                go_wp2_with (at_builtin; refine wpList_app_lit rfl _ _ rfl v1 P rfl HOWP.out 1 1 _ [y] rfl rfl (by omega) rfl HLM.out ?_; intro g1 cap1 w1 ho1 hn1 hk1; have HR := Lib.hid (show Own w1 _ _ ∧ Av v0 _ w w1 from ⟨HN.out ▸ ho1, hrl.out.2.trans (Av.step (n := P.length + 1) (c := cap1) hn1 hk1)⟩); clear ho1 hn1 hk1)
                go_roundw
                case rel => exact ⟨m + 1, _, by omega, by go_num, rfl, HR⟩
                case measure => simp [intOf]; omega
              · have hme : i + m = j := by omega
                have HME := Lib.hid hme; clear hme
                go_wp2_with fail
                go_roundw
                case rel =>
                  have hme := HME.out
                  refine ⟨j, _, by omega, by go_num, rfl, Lib.hid ⟨?_, ?_, hrl.out.2⟩⟩
                  · rw [HEJ.out, ← HO.out.2]; have := hrl.out.1; rwa [show m = j - i by omega] at this
                  · intro hlt; exact HEB.out hlt
                case measure => simp [intOf]; omega
      · have g1 : ((x.toNat : Int) == 255) = false := by simp; omega
        by_cases h9 : x.toNat = 9
        · obtain rfl : x = 9 := UInt8.toNat_inj.1 h9
          have hcs : wo.cell? ⟨g, o + i, none⟩ = some (.int .u8 9) := hcs
          have hN : O ++ [255, 9, 255] = o0 ++ (escF (l.take (i + 1))).1 ∧ (escF (l.take (i + 1))).2 = false := by rw [hstp, hO]; simp [stepE, hfl]
          have HN := Lib.hid hN
          clear hN hstp hfl hx h9 h255 g1 hO
          go_wp2_with (at_builtin; refine wpList_app_lit rfl _ _ rfl v O rfl HOW.out 3 3 _ [255, 9, 255] rfl rfl (by omega) rfl (by have := HOL.out; omega) ?_; intro g1 cap1 w1 ho1 hn1 hk1; have HR := Lib.hid (show Own w1 _ _ ∧ Av v0 _ w w1 from ⟨HN.out.1 ▸ ho1, HAV.out.trans (Av.step (n := O.length + 3) (c := cap1) hn1 hk1)⟩); clear ho1 hn1 hk1)
          go_roundw
          case rel => exact ⟨i + 1, _, by omega, by go_num, rfl, Lib.hid ⟨HR.out.1, fun _ => HN.out.2, HR.out.2⟩⟩
          case measure => simp [intOf]; omega
        · have g2 : ((x.toNat : Int) == 9) = false := by simp; omega
          have hN : O ++ [x] = o0 ++ (escF (l.take (i + 1))).1 ∧ (escF (l.take (i + 1))).2 = false := by rw [hstp, hO]; simp [stepE, hfl, h255, h9]
          have HN := Lib.hid hN
          clear hN hstp hfl hx h9 h255 hO
          go_wp2_with (at_builtin; refine wpList_app_lit rfl _ _ rfl v O rfl HOW.out 1 1 _ [x] rfl rfl (by omega) rfl (by have := HOL.out; omega) ?_; intro g1 cap1 w1 ho1 hn1 hk1; have HR := Lib.hid (show Own w1 _ _ ∧ Av v0 _ w w1 from ⟨HN.out.1 ▸ ho1, HAV.out.trans (Av.step (n := O.length + 1) (c := cap1) hn1 hk1)⟩); clear ho1 hn1 hk1)
          go_roundw
          case rel => exact ⟨i + 1, _, by omega, by go_num, rfl, Lib.hid ⟨HR.out.1, fun _ => HN.out.2, HR.out.2⟩⟩
          case measure => simp [intOf]; omega
    · have hin : i = n := by omega
      subst hin
      go_wp2_with fail
      go_ret
      refine ⟨v, rfl, ?_, hrel.out.2.2⟩
      have h1 := hrel.out.1
      rwa [List.take_of_length_le (by have := HS.out.1; omega)] at h1
end Go.Proofs.YtekgjhediaffbaaDoor
