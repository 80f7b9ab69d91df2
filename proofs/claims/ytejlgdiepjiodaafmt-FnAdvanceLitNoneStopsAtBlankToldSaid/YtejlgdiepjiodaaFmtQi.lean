/-
  advanceLitHdoc on plain bytes, walked.
-/
import Derived.Test.YtejlgdiepjiodaaFmtQh
import Derived.Handy
namespace Go.Proofs.YtejlgdiepjiodaaFmt
open Go.RowKit

set_option maxRecDepth 1000000 in
set_option maxHeartbeats 1600000 in
theorem hd_any {w : World} {B pb rb hb sb c : Nat} {ea : Addr} {q : Pc} {stop : List UInt8} {x : UInt8} {t : List UInt8} {a : Int} (h : HdS w B pb rb ea q none (x :: t) a) (hB : 0 < B) (hs : HsAt w B pb rb hb sb c stop) (hq1 : q.hdocStops = .slice (some ⟨hb, 0, none⟩) 1 1) (hq2 : q.quote = .int .u32 256) (hq3 : q.parsingDoc = .bool false) (hq4 : q.tok = .int .u32 2) (hq5 : q.val = .string ⟨#[]⟩) (hok : hdOk stop [] (x :: t)) (hl : (x :: t).length ≤ 100000000) :
    Calls Tryf.prog 33 #[.pointer (some ⟨pb, 0, none⟩), .int .i32 a] w fun e w' => e = .returned (.tuple #[]) ∧ HdPost w w' B pb rb hb sb c q stop (hdF stop [] [] (x :: t)) := by
  obtain ⟨F, hF⟩ : ∃ F, F = hdF stop [] [] (x :: t) := ⟨_, rfl⟩
  rw [← hF]
  have hx : a = x.toNat ∧ LexS w B pb rb ea q x.toNat t none 0 ∧ plB x := by
    rcases h with ⟨_, h2, _⟩ | ⟨y, t', h1, h2, h3, h4, _⟩
    · cases h2
    · cases h1; exact ⟨h2, h4, h3⟩
  obtain ⟨hax, hl0, hpl⟩ := hx
  obtain ⟨p, o, b, wd, ln, cl, hp, hb0, _, _, ⟨e1, e2, e3, e4, e5, e6, e7, e8, e9, e10, e11, e12, e13, e14, e15⟩, _⟩ := hl0.mark hB
  have c10 := hp.c_tok; have c15 := hp.c_pos1; have c16 := hp.c_pos2
  have g10 : p.tok = q.tok := by have := congrArg Pc.tok hb0; exact this
  rw [g10, hq4] at c10
  have fz := hp.frozen
  have HNP := Lib.hid (nextpos_any hp o b wd ln cl e1 e2 e3 e4 e5 e6 e7 e8 e9 e10 e11 e12 (by omega) e14 (by omega))
  have ga : (a == 1114113) = false := by have := hpl.1; simp; omega
  have hlt := hp.lt
  have HP := Lib.hid hp
  have H := Lib.hid h; have HS := Lib.hid hs; have HQ1 := Lib.hid hq1; have HQ2 := Lib.hid hq2; have HQ3 := Lib.hid hq3; have HQ4 := Lib.hid hq4; have HQ5 := Lib.hid hq5; have HOK := Lib.hid hok; have HF := Lib.hid hF
  clear h hs hq1 hq2 hq3 hq4 hq5 hok hF hl0 hp hb0 e1 e2 e3 e4 e5 e6 e7 e8 e9 e10 e11 e12 e13 e14 e15 g10 hax hpl
  go_enter Tryf.func33, Tryf.ntmps33
  go_wp2_with fail
  refine wp_loop_once ?_
  go_wp2_with (first
    | (go_at_call 41; refine HNP.out.mono ?_; rintro e w1 ⟨⟨v1, v2, rfl⟩, hk1⟩; have d10 := (hk1.cell (p := ⟨pb, 10, none⟩) hlt (by simp)).trans c10; have d15 := (hk1.cell (p := ⟨pb, 15, none⟩) hlt (by simp)).trans c15; have d16 := (hk1.cell (p := ⟨pb, 16, none⟩) hlt (by simp)).trans c16; have fz1 : ∀ i, w1.frozen? ⟨pb, i, none⟩ = false := (HP.out.kept hk1 (by simp)).frozen; have HK1 := Lib.hid hk1; clear hk1 c10 c15 c16 fz)
    | (go_at_call 42; have hm := hd_mark (x := .int .u32 v1) (y := .int .u32 v2) H.out hB HK1.out rfl; have HKM := Lib.hid hm.2; refine (hd_newlit hm.1 hB hl).mono ?_; rintro e w2 ⟨rfl, h2, hk2⟩; have H2 := Lib.hid h2; have HK2 := Lib.hid hk2; clear hm h2 hk2))
  have hx2 : LexS w2 B pb rb ea { q with tok := .int .u32 3, pos1 := .int .u32 v1, pos2 := .int .u32 v2 } x.toNat t (some [x]) 0 := by
    rcases H2.out with ⟨_, h2, _⟩ | ⟨y, t', h1, h2, h3, h4, _⟩
    · cases h2
    · cases h1; exact h4
  have hkr2 : Kr B pb rb w w2 := (Kr.of HKM.out (by simp)).trans (Kr.of HK2.out (by simp))
  have hs2 := HS.out.kept hkr2
  obtain ⟨p2, g2, o2, cc2, _, _, _, f17, _, f27, _, _, f2087, fcc, _⟩ := hx2.facts hB
  have fh := hs2.cell
  rw [show ({ q with tok := .int .u32 3, pos1 := .int .u32 v1, pos2 := .int .u32 v2 } : Pc).quote = .int .u32 256 from HQ2.out] at f17
  rw [show ({ q with tok := .int .u32 3, pos1 := .int .u32 v1, pos2 := .int .u32 v2 } : Pc).hdocStops = .slice (some ⟨hb, 0, none⟩) 1 1 from HQ1.out] at f27
  have HS2 := Lib.hid hs2; have HKR2 := Lib.hid hkr2
  clear hx2 hkr2 hs2
  refine wp_loop_once ?_
  go_wp2_with fail
  go_quiet (fail)
  go_wp2_with fail
  obtain ⟨q3, hq3⟩ : ∃ q3 : Pc, q3 = { q with tok := .int .u32 3, pos1 := .int .u32 v1, pos2 := .int .u32 v2 } := ⟨_, rfl⟩
  rw [← hq3] at H2
  have k17 : q3.quote = .int .u32 256 := by rw [hq3]; exact HQ2.out
  have k27 : q3.hdocStops = .slice (some ⟨hb, 0, none⟩) 1 1 := by rw [hq3]; exact HQ1.out
  have k28 : q3.parsingDoc = .bool false := by rw [hq3]; exact HQ3.out
  have k10 : q3.tok = .int .u32 3 := by rw [hq3]
  have k11 : q3.val = .string ⟨#[]⟩ := by rw [hq3]; exact HQ5.out
  have K17 := Lib.hid k17; have K27 := Lib.hid k27; have K28 := Lib.hid k28; have K10 := Lib.hid k10; have K11 := Lib.hid k11
  have kq : Kept [] w2 (w2.drewN nq) := (Kept.refl _ _).drewN nq
  have H3 := Lib.hid (H2.out.kept0 hB kq); have HKR3 := Lib.hid (HKR2.out.trans (Kr.of kq (by simp))); have HS3 := Lib.hid (HS2.out.kept (Kr.of kq (by simp)))
  clear hq3 k17 k27 k28 k10 k11 f17 f27 f2087 fcc fh fz1 d10 d15 d16 ga kq
  go_loopg [1, 5] (t.length + 1) (fun n r l wr => ∃ (a : Int) (ls : Nat), r = .int .i32 a ∧ l = .int .i64 ls ∧ Hid (HdI w wr B pb rb hb sb c ea q3 stop F n ls a))
  case atStart => exact ⟨a, 0, rfl, rfl, Lib.hid ⟨HKR3.out, HS3.out, [], [], x :: t, H3.out, HF.out, HOK.out, rfl, rfl⟩⟩
  case round =>
    obtain ⟨a, ls, rfl, rfl, HI⟩ := hrel
    obtain ⟨hkr, hsa, done, line, u, hS, hFe, hok, hn, hls⟩ := HI.out
    rcases hS with ⟨rfl, rfl, hx⟩ | ⟨x, t, rfl, hax, hpx, hx, h96⟩
    · obtain ⟨p3, g, o, cc, hp3, f10, f11, f17, _, f27, f28, f30, f2087, fcc, fcell, flen, r10, r11, r27, rr⟩ := hx.facts hB
      rw [K17.out] at f17; rw [K27.out] at f27; rw [K28.out] at f28; rw [K10.out] at f10
      have fz := hp3.frozen
      obtain ⟨N, hN⟩ : ∃ N, N = (done ++ line).length := ⟨_, rfl⟩
      rw [← hN] at f2087 fcc flen
      have hNb : N ≤ 1000000000 := by omega
      have hN3 : N = done.length + line.length := by rw [hN]; simp
      have hlsN : ls ≤ N := by omega
      have HSRC := Lib.hid (fun (A : Option Addr) (n : Nat) (h1 : n = N - ls) (h2 : n = 0 ∨ A = some ⟨g, o + ls, none⟩) => line_src (L := done ++ line) (line := line) (ls := ls) fcell (fun j y hj => by rw [hls, List.getElem?_append_right (by omega), Nat.add_sub_cancel_left]; exact hj) (by omega) h2)
      obtain ⟨b0, hb0⟩ : ∃ b0, ((ls : Int) == 0) = b0 := ⟨_, rfl⟩
      have hcs : cc = ls ∨ ¬ cc = ls := by omega
      by_cases hst : line = stop
      · rcases hcs with hcs | hcs
        all_goals (
          have HEQ := Lib.hid (hd_equal hsa true (decide_eq_true hst))
          have HEL0 := endlit_s (hx.s_tok hB (.int .u32 4)) hB (.inl (.inl rfl))
          have hE0 : endOf 1114112 (done ++ line) = done ++ line := rfl
          rw [hE0] at HEL0
          obtain ⟨E, hE⟩ : ∃ E : ByteArray, E = ⟨(done ++ line).toArray⟩ := ⟨_, rfl⟩
          rw [← hE] at HEL0
          have HEL := Lib.hid HEL0
          have hEs : ls ≤ E.size := by
            have : E.size = (done ++ line).length := by rw [hE]; rfl
            rw [this]; simp; omega
          obtain ⟨D, hD⟩ : ∃ D : ByteArray, D = ⟨done.toArray⟩ := ⟨_, rfl⟩
          have hx1 : E.extract 0 ls = D := by rw [hE, ext_take, hD, hls]; simp
          have HS1 := Lib.hid (hsa.kept (Kr.of ((Kept.refl [pb] _).setCell (p := ⟨pb, 10, none⟩) (by simp) (.int .u32 4)) (by simp)))
          have HK1 := Lib.hid (hkr.trans (Kr.of ((Kept.refl [pb] _).setCell (p := ⟨pb, 10, none⟩) (by simp) (.int .u32 4)) (by simp)))
          have HFE := Lib.hid (show F = (if done = [] then 2 else 4, done, 1114112, true) by rw [hFe, hdF]; simp [hst])
          have HDD := Lib.hid hD
          clear HEL0 hx hkr hFe hok hn hN HI hsa hp3 r10 r11 r27 rr fcell hN3 hE0 hE hD hst hls
          cases b0
          all_goals (
            go_wp2_with (first | (go_at_call 48; refine (HEQ.out _ _ _ (HSRC.out _ _ (by omega) (by first | exact .inr rfl | exact .inl (by omega)))).mono ?_; rintro e w' ⟨rfl, rfl⟩) | (go_at_call 43; refine HEL.out.mono ?_; rintro e w4 ⟨rfl, hl4, hk4⟩; obtain ⟨p4, _, _, _, _, _, hp4, hb4, _⟩ := hl4.mark hB; have c10 := hp4.c_tok; have c11 := hp4.c_val; have c27 := hp4.c_hdocStops; have fz4 := hp4.frozen; have e27 : p4.hdocStops = q3.hdocStops := (by have := congrArg Pc.hdocStops hb4; exact this); rw [e27, K27.out] at c27; clear e27; have hs4 := HS1.out.kept (Kr.of hk4 (by simp)); have fh4 := hs4.cell; have ffz : w4.frozen? ⟨hb, 0, none⟩ = false := frozen_of_row _ _ _ _ _ hs4.row; have hne1 : hb ≠ pb := hs4.h1.2.1; have hne2 : pb ≠ hb := Ne.symm hne1; have HCL := Lib.hid (hd_close (HK1.out.trans (Kr.of hk4 (by simp))) hs4 hl4 hB (K27.out.trans HQ1.out.symm) rfl HFE.out HDD.out); clear hl4 hk4 hp4 hb4 hs4))
            all_goals (
            go_region
            all_goals (
            go_wp2_with fail
            go_returns
            exact ⟨rfl, by first | exact (HCL.out.1 (by assumption)).drew | exact (HCL.out.2 (by assumption)).drew⟩))))
      · have HEQ := Lib.hid (hd_equal hsa false (decide_eq_false hst))
        have HLO := Lib.hid (hd_lost (F := F) hkr hsa hx hB (K27.out.trans HQ1.out.symm) K10.out K11.out (by rw [hFe, hdF]; simp [hst]))
        clear hx hkr hFe hok hn hN HI hsa hp3 r10 r11 r27 rr fcell hN3 hst hls
        rcases hcs with hcs | hcs
        all_goals (
          cases b0
          all_goals (
            go_wp2_with (go_at_call 48; refine (HEQ.out _ _ _ (HSRC.out _ _ (by omega) (by first | exact .inr rfl | exact .inl (by omega)))).mono ?_; rintro e w' ⟨rfl, rfl⟩)
            go_returns
            exact ⟨rfl, HLO.out⟩))
    by_cases h10 : a = 10
    · subst h10
      have hx10 : x = 10 := UInt8.toNat_inj.1 (by show x.toNat = 10; omega)
      subst hx10
      obtain ⟨p3, g, o, cc, hp3, f10, f11, f17, _, f27, f28, f30, f2087, fcc, fcell, flen, r10, r11, r27, rr⟩ := hx.facts hB
      rw [K17.out] at f17; rw [K27.out] at f27; rw [K28.out] at f28; rw [K10.out] at f10
      have fz := hp3.frozen
      obtain ⟨N, hN⟩ : ∃ N, N = (done ++ line ++ [10]).length := ⟨_, rfl⟩
      rw [← hN] at f2087 fcc flen
      have hNb : N ≤ 1000000000 := by omega
      have hN3 : N = done.length + line.length + 1 := by rw [hN]; simp; omega
      have hN2 : ls + 1 ≤ N := by omega
      have hne : ¬ cc = ls := by omega
      have HSRC := Lib.hid (fun (A : Option Addr) (n : Nat) (h1 : n = N - ls - 1) (h2 : n = 0 ∨ A = some ⟨g, o + ls, none⟩) => line_src (L := done ++ line ++ [10]) (line := line) (ls := ls) fcell (fun j y hj => by
        have hjl := (List.getElem?_eq_some_iff.1 hj).1
        rw [hls, List.append_assoc, List.getElem?_append_right (by omega), Nat.add_sub_cancel_left, List.getElem?_append_left hjl]; exact hj) (by omega) h2)
      obtain ⟨b0, hb0⟩ : ∃ b0, ((ls : Int) == 0) = b0 := ⟨_, rfl⟩
      by_cases hst : line = stop
      · have HEQ := Lib.hid (hd_equal hsa true (decide_eq_true hst))
        have HEL0 := endlit_s (hx.s_tok hB (.int .u32 4)) hB (.inr ⟨by decide, by decide, List.length_pos_of_mem (by simp : (10 : UInt8) ∈ done ++ line ++ [10])⟩)
        have hE0 : endOf 10 (done ++ line ++ [10]) = done ++ line := endOf_snoc _ _ (by decide) (by decide)
        have e10 : ((10 : UInt8).toNat : Int) = 10 := rfl
        rw [e10, hE0] at HEL0
        obtain ⟨E, hE⟩ : ∃ E : ByteArray, E = ⟨(done ++ line).toArray⟩ := ⟨_, rfl⟩
        rw [← hE] at HEL0
        have HEL := Lib.hid HEL0
        have hEs : ls ≤ E.size := by
          have : E.size = (done ++ line).length := by rw [hE]; rfl
          rw [this]; simp; omega
        obtain ⟨D, hD⟩ : ∃ D : ByteArray, D = ⟨done.toArray⟩ := ⟨_, rfl⟩
        have hx1 : E.extract 0 ls = D := by rw [hE, ext_take, hD, hls]; simp
        have HS1 := Lib.hid (hsa.kept (Kr.of ((Kept.refl [pb] _).setCell (p := ⟨pb, 10, none⟩) (by simp) (.int .u32 4)) (by simp)))
        have HK1 := Lib.hid (hkr.trans (Kr.of ((Kept.refl [pb] _).setCell (p := ⟨pb, 10, none⟩) (by simp) (.int .u32 4)) (by simp)))
        have HFE := Lib.hid (show F = (if done = [] then 2 else 4, done, 10, true) by rw [hFe, hdF]; simp [hst])
        have HDD := Lib.hid hD
        clear HEL0 hx hkr hFe hok hn hN HI hsa hax hpx h96 hp3 r10 r11 r27 rr fcell hN3 hE0 hE hD hst hls
        cases b0
        all_goals (
          go_wp2_with (first | (go_at_call 48; refine (HEQ.out _ _ _ (HSRC.out _ _ (by omega) (by first | exact .inr rfl | exact .inl (by omega)))).mono ?_; rintro e w' ⟨rfl, rfl⟩) | (go_at_call 43; refine HEL.out.mono ?_; rintro e w4 ⟨rfl, hl4, hk4⟩; obtain ⟨p4, _, _, _, _, _, hp4, hb4, _⟩ := hl4.mark hB; have c10 := hp4.c_tok; have c11 := hp4.c_val; have c27 := hp4.c_hdocStops; have fz4 := hp4.frozen; have e27 : p4.hdocStops = q3.hdocStops := (by have := congrArg Pc.hdocStops hb4; exact this); rw [e27, K27.out] at c27; clear e27; have hs4 := HS1.out.kept (Kr.of hk4 (by simp)); have fh4 := hs4.cell; have ffz : w4.frozen? ⟨hb, 0, none⟩ = false := frozen_of_row _ _ _ _ _ hs4.row; have hne1 : hb ≠ pb := hs4.h1.2.1; have hne2 : pb ≠ hb := Ne.symm hne1; have HCL := Lib.hid (hd_close (HK1.out.trans (Kr.of hk4 (by simp))) hs4 hl4 hB (K27.out.trans HQ1.out.symm) rfl HFE.out HDD.out); clear hl4 hk4 hp4 hb4 hs4))
          all_goals (
          go_region
          all_goals (
          go_wp2_with fail
          go_returns
          exact ⟨rfl, by first | exact (HCL.out.1 (by assumption)).drew | exact (HCL.out.2 (by assumption)).drew⟩)))
      · have HEQ := Lib.hid (hd_equal hsa false (decide_eq_false hst))
        have HOK' := Lib.hid (show hdOk stop [] t by have := hok.2; simpa [hst] using this)
        have HR := Lib.hid (hd_next hx hB (by decide) (fun y t' e => by have := HOK'.out; rw [e] at this; exact this.1))
        have HFE := Lib.hid (show F = hdF stop (done ++ line ++ [10]) [] t by rw [hFe, hdF]; simp [hst])
        have HKR := Lib.hid hkr; have HSA := Lib.hid hsa; have HN := Lib.hid hN; have HNN := Lib.hid hn
        clear hx hkr hFe hok hn hN HI hsa hax hpx h96 hp3 r10 r11 r27 rr fcell hN3 hst hls
        cases b0
        all_goals (
          go_wp2_with (go_at_call 48; refine (HEQ.out _ _ _ (HSRC.out _ _ (by omega) (by first | exact .inr rfl | exact .inl (by omega)))).mono ?_; rintro e w' ⟨rfl, rfl⟩)
          refine wp_loop_once ?_
          go_wp2_with (go_at_call 28; refine HR.out.mono ?_; rintro e w2' ⟨a2, rfl, h2', k2'⟩; have H2' := Lib.hid h2'; have K2' := Lib.hid k2'; clear h2' k2')
          go_roundg t.length
          case measure => rw [HNN.out]; simp
          case rel => exact ⟨a2, N, rfl, rfl, Lib.hid ⟨HKR.out.trans K2'.out, HSA.out.kept K2'.out, done ++ line ++ [10], [], t, by simpa using H2'.out, HFE.out, HOK'.out, rfl, HN.out⟩⟩)
    by_cases h36a : a = 36
    · subst h36a
      have hxc : x = 36 := UInt8.toNat_inj.1 (by show x.toNat = 36; omega)
      subst hxc
      have hx' : LexS wr B pb rb ea q3 36 t (some (done ++ line ++ [36])) 0 := hx
      obtain ⟨p3, g, o, cc, hp3, _, f11, _, _, _, _, f30, _⟩ := hx.facts hB
      have HL := Lib.hid hx'; have HSA := Lib.hid hsa; have HKR := Lib.hid hkr
      have hE0 : endOf 36 (done ++ line ++ [36]) = done ++ line := endOf_snoc _ _ (by decide) (by decide)
      have HE0 := Lib.hid hE0
      have HFE := Lib.hid (show F = (3, done ++ line, 36, false) by rw [hFe, hdF]; simp)
      clear hx hx' hkr hFe hok hn HI hsa hax hpx h96 hp3 hE0 f11 f30
      go_wp2_with (first | (go_at_call 43; have hel := endlit_s HL.out hB (.inr ⟨by decide, by decide, List.length_pos_of_mem (by simp : (36 : UInt8) ∈ done ++ line ++ [36])⟩); rw [HE0.out] at hel; refine hel.mono ?_; clear hel; rintro e w4 ⟨rfl, hl4, hk4⟩; obtain ⟨p4, _, _, _, _, _, hp4, hb4, _⟩ := hl4.mark hB; have c11 := hp4.c_val; have fz4 := hp4.frozen; have HST := Lib.hid (hd_stop (HKR.out.trans (Kr.of hk4 (by simp))) (HSA.out.kept (Kr.of hk4 (by simp))) hl4 hB (K27.out.trans HQ1.out.symm) K10.out HFE.out); clear hl4 hk4 hp4 hb4))
      go_returns
      exact ⟨rfl, HST.out⟩
    by_cases h96a : a = 96
    · subst h96a
      have hxc : x = 96 := UInt8.toNat_inj.1 (by show x.toNat = 96; omega)
      subst hxc
      have hx' : LexS wr B pb rb ea q3 96 t (some (done ++ line ++ [96])) 0 := hx
      obtain ⟨p3, g, o, cc, hp3, _, f11, _, _, _, _, f30, _⟩ := hx.facts hB
      have HBQ := Lib.hid (bqend f30 (h96 rfl))
      have HL := Lib.hid hx'; have HSA := Lib.hid hsa; have HKR := Lib.hid hkr
      have hE0 : endOf 96 (done ++ line ++ [96]) = done ++ line := endOf_snoc _ _ (by decide) (by decide)
      have HE0 := Lib.hid hE0
      have HFE := Lib.hid (show F = (3, done ++ line, 96, false) by rw [hFe, hdF]; simp)
      clear hx hx' hkr hFe hok hn HI hsa hax hpx h96 hp3 hE0 f11 f30
      go_wp2_with (first | (go_at_call 47; refine HBQ.out.mono ?_; rintro e w5 ⟨rfl, hk5⟩; have HL5 := Lib.hid (HL.out.kept0 hB hk5); have HS5 := Lib.hid (HSA.out.kept (Kr.of hk5 (by simp))); have HK5 := Lib.hid (HKR.out.trans (Kr.of hk5 (by simp))); clear hk5) | (go_at_call 43; have hel := endlit_s HL5.out hB (.inr ⟨by decide, by decide, List.length_pos_of_mem (by simp : (96 : UInt8) ∈ done ++ line ++ [96])⟩); rw [HE0.out] at hel; refine hel.mono ?_; clear hel; rintro e w4 ⟨rfl, hl4, hk4⟩; obtain ⟨p4, _, _, _, _, _, hp4, hb4, _⟩ := hl4.mark hB; have c11 := hp4.c_val; have fz4 := hp4.frozen; have HST := Lib.hid (hd_stop (HK5.out.trans (Kr.of hk4 (by simp))) (HS5.out.kept (Kr.of hk4 (by simp))) hl4 hB (K27.out.trans HQ1.out.symm) K10.out HFE.out); clear hl4 hk4 hp4 hb4))
      go_returns
      exact ⟨rfl, HST.out⟩
    have g1 : (a == 1114113) = false := by have := hpx.1; simp; omega
    have g2 : (a == 36) = false := by simpa using h36a
    have g3 : (a == 92) = false := by have := hpx.2.2.2; simp; omega
    have g4 : (a == 96) = false := by simpa using h96a
    have g5 : (a == 10) = false := by simpa using h10
    have g6 : (a == 1114112) = false := by have := hpx.1; simp; omega
    have hne : x ≠ 36 ∧ x ≠ 96 ∧ x ≠ 10 := ⟨fun e => h36a (by rw [hax, e]; rfl), fun e => h96a (by rw [hax, e]; rfl), fun e => h10 (by rw [hax, e]; rfl)⟩
    have HOK' := Lib.hid (show hdOk stop (line ++ [x]) t by have := hok.2; simpa [hne] using this)
    have HR := Lib.hid (hd_next hx hB (by have := hpx.1; omega) (fun y t' e => by have := HOK'.out; rw [e] at this; exact this.1))
    have HFE := Lib.hid (show F = hdF stop done (line ++ [x]) t by rw [hFe, hdF]; simp [hne])
    have HKR := Lib.hid hkr; have HSA := Lib.hid hsa; have HLS := Lib.hid hls; have HNN := Lib.hid hn
    clear hx hkr hFe hok hn HI hsa hax hpx h96 hls h10 h36a h96a hne
    go_wp2_with (go_at_call 28; refine HR.out.mono ?_; rintro e w2' ⟨a2, rfl, h2', k2'⟩; have H2' := Lib.hid h2'; have K2' := Lib.hid k2'; clear h2' k2')
    go_roundg t.length
    case measure => rw [HNN.out]; simp
    case rel => exact ⟨a2, ls, rfl, rfl, Lib.hid ⟨HKR.out.trans K2'.out, HSA.out.kept K2'.out, done, line ++ [x], t, by simpa using H2'.out, HFE.out, HOK'.out, rfl, HLS.out⟩⟩
end Go.Proofs.YtejlgdiepjiodaaFmt
