/-
  quotedHdocWord, walked.
-/
import Derived.Test.YtnjaeooblfihbaaFmtVk
import Derived.Handy

namespace Go.Proofs.YtnjaeooblfihbaaFmt
open Go.RowKit

set_option maxRecDepth 1000000 in
set_option maxHeartbeats 3200000 in
theorem qh_any {w : World} {B pb rb hb sb c : Nat} {ea : Addr} {q : Pc} {stop s : List UInt8} {a : Int} (h : RdS w B pb rb ea q none s a) (hB : 0 < B) (hs : HsAt w B pb rb hb sb c stop) (hq1 : q.hdocStops = .slice (some ⟨hb, 0, none⟩) 1 1) (hq2 : q.quote = .int .u32 256) (hq3 : q.litBatch = nilS) (hq4 : q.wordBatch = nilS) (hc : NoPair 13 10 s) (hst : StOk stop) (hl : s.length ≤ 100000000) :
    Calls Tryf.prog 23 #[.pointer (some ⟨pb, 0, none⟩)] w fun e w' => QPost w w' B pb rb hb sb c s stop e := by
  obtain ⟨t0, l0, k0, hl0, _⟩ := h.lex
  obtain ⟨p, o, b, wd, ln, cl, hp, hb0, hpr, _, _, _, _, b1, b2, b3, _, _⟩ := hl0.upd hB
  have c3 : w.cell? ⟨pb, 3, none⟩ = some (.int .i32 a) := by rw [hp.c_r, hpr]
  have H := Lib.hid h; have HS := Lib.hid hs; have HQ1 := Lib.hid hq1; have HQ2 := Lib.hid hq2; have HQ3 := Lib.hid hq3; have HQ4 := Lib.hid hq4; have HC := Lib.hid hc; have HST := Lib.hid hst
  clear h hs hq1 hq2 hq3 hq4 hc hst hl0 hp hb0 hpr
  go_enter Tryf.func23, Tryf.ntmps23
  go_wp2_with (first
    | (go_at_call 34; refine (newlit_r H.out hB hl).mono ?_; rintro e w2 ⟨rfl, h2, hk2, n2, cl2⟩; have hs2 := HS.out.kept (Kr.of hk2 (by simp)); obtain ⟨t2, l2, kk2, hl2, hkk2⟩ := h2.lex; have c27 := hl2.c27 hB; rw [HQ1.out] at c27; have ch := hs2.cell; obtain ⟨p2, o2, b2', wd2, ln2, cl2', hp2, _, _, _, _, ⟨e1, e2, e3, e4, e5, e6, e7, e8, e9, e10, e11, e12, e13, e14, e15⟩, _⟩ := hl2.upd hB; have HNP := Lib.hid (nextpos_any hp2 o2 b2' wd2 ln2 cl2' e1 e2 e3 e4 e5 e6 e7 e8 e9 e10 e11 e12 (by omega) e14 (by omega)); have H2 := Lib.hid h2; have HK2 := Lib.hid hk2; have HS2 := Lib.hid hs2; have CL2 := Lib.hid cl2; clear h2 hk2 hs2 cl2 hl2 hp2 e1 e2 e3 e4 e5 e6 e7 e8 e9 e10 e11 e12 e13 e14 e15 hkk2)
    | (go_at_call 33; refine HNP.out.mono ?_; rintro e w3 ⟨⟨x, y, rfl⟩, hk3⟩; have c27 := (hk3.cell (p := ⟨pb, 27, none⟩) (block_lt_of_cell c27) (by simp)).trans c27; have ch := (hk3.cell (p := ⟨hb, 0, none⟩) (block_lt_of_cell ch) (by simp)).trans ch; have ka : Kept [] w3 (w3.alloc (.cells #[.int .u32 x, .int .u32 y] 50)) := (Kept.refl _ _).alloc _; have d27 := (ka.cell (p := ⟨pb, 27, none⟩) (block_lt_of_cell c27) (by simp)).trans c27; have dh := (ka.cell (p := ⟨hb, 0, none⟩) (block_lt_of_cell ch) (by simp)).trans ch; have hpz := block_lt_of_cell c27; have hhz := block_lt_of_cell ch; have HK3 := Lib.hid hk3; clear hk3 ka))
  go_quiet (fail)
  go_wp2_with fail
  obtain ⟨w5, hw5⟩ : ∃ w5, w5 = (w3.alloc (.cells #[.int .u32 x, .int .u32 y] 50)).drewN nq := ⟨_, rfl⟩
  rw [← hw5]
  have k35 : Kept [] w3 w5 := by rw [hw5]; exact ((Kept.refl _ _).alloc _).drewN _
  have hp5 : w5.heap[w3.heap.size]? = some (.cells #[.int .u32 x, .int .u32 y] 50 (0, 0)) := by rw [hw5]; exact heap_alloc_new w3 _
  have hz5 := heap_lt hp5
  have k25 : Kept [] w2 w5 := HK3.out.trans k35
  have hcl5 : w5.cell? ⟨pb, 2087, none⟩ = some (.slice (some ⟨pb, 1063, none⟩) n2 1024) := (k25.cell (p := ⟨pb, 2087, none⟩) (block_lt_of_cell CL2.out) (by simp)).trans CL2.out
  have hz2 := HK2.out.size
  have hz3 := HK3.out.size
  have hBB : B ≤ w5.heap.size := by have := k35.size; omega
  have hh := HS.out.h1
  have R5 : RdS w5 w5.heap.size pb rb ea q (some []) s a := (H2.out.kept0 hB k25).raise hBB (Nat.le_refl _) hcl5
  have G5 : QG w5 w5 w5.heap.size pb rb hb sb c w3.heap.size x y stop := ⟨Kr.refl _ _ _ _, (HS2.out.kept (Kr.of k25 (by simp))).raise hBB (Nat.le_refl _), hp5, by omega, by omega, by omega, by omega⟩
  obtain ⟨B', hB'⟩ : ∃ B', B' = w5.heap.size := ⟨_, rfl⟩
  rw [← hB'] at hBB R5 G5
  have hE : 0 < B' := by have := hB; omega
  obtain ⟨posb, hposb⟩ : ∃ posb, posb = w3.heap.size := ⟨_, rfl⟩
  rw [← hposb] at G5 ⊢
  have I5 := Lib.hid (qi_of hE G5 R5 (s := s) rfl (.inl rfl) (free_zero _ _))
  have K05 := Lib.hid (show Kept [pb] w w5 from HK2.out.trans (k25.weaken (by simp)))
  clear hw5 k35 hp5 hz5 k25 hcl5 hz2 hz3 R5 G5 hB' hposb hh
  go_loopg [3] s.length (fun n r wr => ∃ a, r = .int .i32 a ∧ Hid (QI w5 wr B' pb rb hb sb c posb ea q x y s stop n a))
  case atStart => exact ⟨a, rfl, I5⟩
  case round =>
    obtain ⟨a, rfl, HI⟩ := hrel
    obtain ⟨hg, hcase⟩ := HI.out
    rcases hcase with ⟨rfl, h27, hno⟩ | ⟨hne, pre, u, hr, hsu, hat, hfr, hn⟩
    · have HF := Lib.hid (qpost_none (B := B) K05.out hBB hg (h27.trans (by rw [HQ1.out])) hno)
      clear hg h27 hno HI
      refine wp_seq ?_
      go_wp2_with fail
      refine wp_scope_all ?_
      go_wp2_with fail
      rw [jumps_ret]
      go_ret
      exact HF.out
    · obtain ⟨t0, L0, hlx, hlr⟩ := first_rune hr hne
      obtain ⟨p3, g, o', cc, hp3, f17, f27, f30, f2087, fcc, _, flen, _⟩ := hlx.facts hE
      rw [HQ2.out] at f17
      have ga : (a == 1114112) = false := by simpa using hne
      obtain ⟨lsv, hlsv⟩ : ∃ lsv : Int, (L0.length : Int) - 1 = lsv := ⟨_, rfl⟩
      rw [hlsv] at hlr
      have hlsb : -1 ≤ lsv ∧ lsv ≤ 1000000000 := by omega
      obtain ⟨N0, hN0⟩ : ∃ N0, N0 = L0.length := ⟨_, rfl⟩
      rw [← hN0] at f2087 fcc flen hlsv
      have HG := Lib.hid hg; have HR0 := Lib.hid hr; have HSU := Lib.hid hsu; have HAT := Lib.hid hat; have HFR := Lib.hid hfr; have HN := Lib.hid hn; have HLR := Lib.hid hlr; have HU0 := Lib.hid (show u ≠ [] from fun e => by
        rcases hr with ⟨e2, _⟩ | ⟨_, _, e2, _⟩ | ⟨_, _, _, e2, _, hmm, _⟩ | ⟨_, e2, _⟩
        · exact hne e2
        · rw [e] at e2; cases e2
        · have h2 := hmm.1; have := congrArg List.length e2; rw [e] at this; simp at this; omega
        · rw [e] at e2; cases e2)
      clear hg hr hsu hat hfr hn hlr hlx hp3 HI hne hN0
      refine wp_seq ?_
      go_wp2_with fail
      refine wp_scope_all ?_
      go_wp2_with fail
      refine wp_loop_once ?_
      go_wp2_with fail
      refine wp_label ?_
      go_wp2_with fail
      have J0 : Hid (IQ w5 wr B' pb rb hb sb c posb ea q x y pre u stop u.length a) := Lib.hid ⟨HG.out, [], u, by simpa using HR0.out, rfl, by simp, rfl⟩
      go_loopg [3] u.length (fun m r wr => ∃ a', r = .int .i32 a' ∧ Hid (IQ w5 wr B' pb rb hb sb c posb ea q x y pre u stop m a'))
      case atStart => exact ⟨a, rfl, J0⟩
      case round =>
        obtain ⟨a', rfl, HJ⟩ := hrel
        obtain ⟨hg', line, v, hr', huv, h10, hm⟩ := HJ.out
        clear f17 f27 f30 f2087 fcc flen ga J0
        rcases hr' with ⟨rfl, rfl, k, hk, hx⟩ | ⟨x1, t, rfl, rfl, g1, g2, hv, hx, h96⟩ | ⟨bs, t, n1, rfl, rfl, hmb, hv, hx, _⟩ | ⟨t, rfl, rfl, hv, hx⟩
        · have hlo : lineOf u = line := by rw [huv, List.append_nil]; exact lineOf_all h10
          have hlu : lineOf u = u := by rw [hlo, huv, List.append_nil]
          rw [← hlo] at hx
          have HX := Lib.hid hx; have HG' := Lib.hid hg'; have HLU := Lib.hid hlu; have HM := Lib.hid hm
          clear hx hg' huv h10 hlo hlu hm HJ
          by_cases hneg : lsv < 0
          · have HNS := Lib.hid (line_neg HLR.out HST.out hneg)
            go_wp2_with (first | fail)
            try rw [jumps_exit]
            go_wp2_with (first | (go_at_call 22; refine (rune_l_eof HX.out (by omega) hE).mono ?_; rintro e w7 ⟨rfl, h7, k7⟩; have H7 := Lib.hid h7; have K7 := Lib.hid k7; clear h7 k7))
            go_roundg 0
            case measure => rw [HN.out]; exact List.length_pos_iff.2 HU0.out
            case rel => exact ⟨1114112, rfl, Lib.hid ⟨HG'.out.kept K7.out, .inl ⟨rfl, H7.out.c27 hE, line_last HSU.out HLU.out HFR.out HNS.out⟩⟩⟩
          · obtain ⟨LS, rfl⟩ : ∃ LS : Nat, lsv = LS := ⟨lsv.toNat, by omega⟩
            have hcmp := line_cmp HSU.out HLR.out HAT.out HST.out (by omega)
            have hlt0 : LS < (pre ++ lineOf u).length + 1 := by simpa using hcmp.1
            rw [List.length_append] at hlt0
            have hstr := line_strict HLR.out
            have hlu2 := congrArg List.length HLU.out
            obtain ⟨b0, hb0⟩ : ∃ b0, decide (lineOf u = stop) = b0 := ⟨_, rfl⟩
            have hb1 : decide ((pre ++ lineOf u).drop LS = stop) = b0 := by rw [← hb0]; simpa using hcmp.2.1
            have HB0 := Lib.hid hb1
            clear hb1
            obtain ⟨p3, g, o', cc, hp3, _, f27, _, f2087, fcc, fcell, flen, _⟩ := LexL.facts HX.out hE
            rw [HQ1.out] at f27
            have fz := hp3.frozen
            obtain ⟨N, hN⟩ : ∃ N, N = (pre ++ lineOf u).length := ⟨_, rfl⟩
            rw [← hN] at f2087 fcc flen
            have hNL : N = pre.length + (lineOf u).length + 0 := (by rw [hN]; simp; try omega)
            have HSRC := Lib.hid (fun (A : Option Addr) (n : Nat) (h1 : n = N - LS - 0) (h2 : n = 0 ∨ A = some ⟨g, o' + LS, none⟩) => line_src (L := pre ++ lineOf u) (line := (pre ++ lineOf u).drop LS) (ls := LS) fcell (fun j y hj => (by rw [List.getElem?_drop] at hj; exact hj)) (by rw [List.length_drop, List.length_append]; omega) h2)
            have hLN : LS < N := (by omega)
            have hcs : ¬ cc = LS := (by omega)
            have hcs2 : ¬ LS = cc := (by omega)
            have hLN2 : (LS : Int) ≤ N := (by omega)
            have HEQ := Lib.hid (hd_equal ((HG'.out.kept (Kr.refl _ _ _ _)).hs) b0 HB0.out)
            clear hN hNL
            cases b0 with
            | false =>
              have HNS := Lib.hid (show lineOf u ≠ stop from of_decide_eq_false hb0)
              go_wp2_with (first | (go_at_call 36; refine (HEQ.out _ _ _ (HSRC.out _ _ (by omega) (by first | exact .inr rfl | exact .inl (by omega)))).mono ?_; rintro e w' ⟨rfl, rfl⟩))
              try rw [jumps_normal]
              go_wp2_with (first | (go_at_call 22; refine (rune_l_eof HX.out (by omega) hE).mono ?_; rintro e w7 ⟨rfl, h7, k7⟩; have H7 := Lib.hid h7; have K7 := Lib.hid k7; clear h7 k7))
              go_roundg 0
              case measure => rw [HN.out]; exact List.length_pos_iff.2 HU0.out
              case rel => exact ⟨1114112, rfl, Lib.hid ⟨HG'.out.kept K7.out, .inl ⟨rfl, H7.out.c27 hE, line_last HSU.out HLU.out HFR.out HNS.out⟩⟩⟩
            | true =>
              have heq : lineOf u = stop := of_decide_eq_true hb0
              have hLSp : LS = pre.length := by have := hcmp.2.2 heq; omega
              have HFI := Lib.hid (hit_first HSU.out HU0.out HAT.out HFR.out heq)
              have HLSP := Lib.hid hLSp
              clear hLSp heq
              go_wp2_with (first | (go_at_call 36; refine (HEQ.out _ _ _ (HSRC.out _ _ (by omega) (by first | exact .inr rfl | exact .inl (by omega)))).mono ?_; rintro e w' ⟨rfl, rfl⟩))
              have HGW := Lib.hid (HG'.out.kept (Kr.refl _ _ _ _))
              have HEL := Lib.hid (el_hit HX.out hE (by omega) ⟨HGW.out.hs.h1.1, HGW.out.hs.h1.2.1⟩ (.inl (.inl rfl)))
              obtain ⟨E, hEq⟩ : ∃ E : ByteArray, E = ⟨(pre ++ lineOf u).toArray⟩ := ⟨_, rfl⟩
              have hE2 : (⟨(if (1114112 : Int) = 10 then (pre ++ lineOf u).take ((pre ++ lineOf u).length - 1) else pre ++ lineOf u).toArray⟩ : ByteArray) = E := by rw [hEq, if_neg (by decide)]
              rw [hE2] at HEL
              obtain ⟨D, hD⟩ : ∃ D : ByteArray, D = ⟨pre.toArray⟩ := ⟨_, rfl⟩
              have hEs : LS ≤ E.size := by rw [hEq]; show LS ≤ (_ : List UInt8).toArray.size; simp; omega
              have hx1 : E.extract 0 LS = D := by rw [hEq, ext_take, hD, HLSP.out]; simp
              have hDe : D.toList = pre := by rw [hD, ByteArray.toList_mk]
              have hDs : s.take pre.length = pre := by rw [HSU.out]; simp
              have HDS := Lib.hid hDs; have HDD := Lib.hid hD
              have hh1 := HGW.out.hs.cell
              have hh1f : (wr).frozen? ⟨hb, 0, none⟩ = false := frozen_of_row _ _ _ _ _ HGW.out.hs.row
              have hnb := HGW.out.hs.h1; have hne1 : hb ≠ pb := hnb.2.1; have hne2 : pb ≠ hb := Ne.symm hne1
              clear hEq hE2 hcmp hlt0 hb0 hD hDs hnb
              by_cases hpe : pre = []
              · have hd0 : D.toList.isEmpty = true := by rw [hDe, hpe]; rfl
                clear hDe
                go_region
                all_goals (
                  go_wp2_with (go_at_call 37; (refine (HEL.out _ (by exact ((Kept.refl [hb] _).setCell (by simp) _).drew)).mono ?_); rintro e w6 ⟨rfl, hk6, p6, o6, b6, wd6, ln6, cl6, hp6, y1, y2, y3, e1, e2, e3, e4, e5, e6, e7, e8, e9, e10, e11, e12, e13, e14, e15⟩; (have HP6 := Lib.hid hp6; have c27 := hp6.c_hdocStops; rw [y3, HQ1.out] at c27; have HK6 := Lib.hid hk6; have kh6 := Kept.trans ((show Kept [hb, pb] wr _ from ((((Kept.refl [hb] wr).setCell (by simp) (.slice none 0 0)).drew).weaken (by simp)))) (hk6.weaken (by simp)); have hpos6 := (kh6.block posb (heap_lt HGW.out.pos) (by have := HGW.out.p1; simp; omega)).trans HGW.out.pos; have dp0 := (cell_of_row _ _ 0 _ _ _ hpos6); have dp1 := (cell_of_row _ _ 1 _ _ _ hpos6); simp only [List.getElem?_toArray, List.getElem?_cons_zero, List.getElem?_cons_succ] at dp0 dp1; have KH6 := Lib.hid kh6; have HH6 := Lib.hid ((hk6.cell (p := ⟨hb, 0, none⟩) (by have := heap_lt HGW.out.hs.row; simpa [World.setCell] using this) (by simpa using hne1)).trans (show _ = some (Value.slice none 0 0) from row_cell (w := wr.setCell ⟨hb, 0, none⟩ (.slice none 0 0)) (L := [.slice none 0 0]) (by have := heap_setCell_same wr hb 0 _ _ (.slice none 0 0) HGW.out.hs.row; simpa using this) 0)); clear hk6 hp6 kh6 hpos6))
                  rw [jumps_ret]
                  go_ret
                  exact qpost_hit K05.out hBB HGW.out KH6.out c27 HH6.out HFI.out (.inl ⟨by rw [hpe]; rfl, rfl⟩))
              · have hd0 : D.toList.isEmpty = false := by rw [hDe]; cases hq : pre with | nil => exact absurd hq hpe | cons => rfl
                have HPE := Lib.hid hpe
                clear hDe hpe
                go_region
                all_goals (
                  go_wp2_with (first | (go_at_call 37; (refine (HEL.out _ (by exact ((Kept.refl [hb] _).setCell (by simp) _).drew)).mono ?_); rintro e w6 ⟨rfl, hk6, p6, o6, b6, wd6, ln6, cl6, hp6, y1, y2, y3, e1, e2, e3, e4, e5, e6, e7, e8, e9, e10, e11, e12, e13, e14, e15⟩; (have HP6 := Lib.hid hp6; have c27 := hp6.c_hdocStops; rw [y3, HQ1.out] at c27; have HK6 := Lib.hid hk6; have kh6 := Kept.trans ((show Kept [hb, pb] wr _ from ((((Kept.refl [hb] wr).setCell (by simp) (.slice none 0 0)).drew).weaken (by simp)))) (hk6.weaken (by simp)); have hpos6 := (kh6.block posb (heap_lt HGW.out.pos) (by have := HGW.out.p1; simp; omega)).trans HGW.out.pos; have dp0 := (cell_of_row _ _ 0 _ _ _ hpos6); have dp1 := (cell_of_row _ _ 1 _ _ _ hpos6); simp only [List.getElem?_toArray, List.getElem?_cons_zero, List.getElem?_cons_succ] at dp0 dp1; have KH6 := Lib.hid kh6; have HH6 := Lib.hid ((hk6.cell (p := ⟨hb, 0, none⟩) (by have := heap_lt HGW.out.hs.row; simpa [World.setCell] using this) (by simpa using hne1)).trans (show _ = some (Value.slice none 0 0) from row_cell (w := wr.setCell ⟨hb, 0, none⟩ (.slice none 0 0)) (L := [.slice none 0 0]) (by have := heap_setCell_same wr hb 0 _ _ (.slice none 0 0) HGW.out.hs.row; simpa using this) 0)); clear hk6 hp6 kh6 hpos6)) | (go_at_call 39; (refine (lit_new HP6.out o6 b6 wd6 ln6 cl6 e1 e2 e3 e4 e5 e6 e7 e8 e9 e10 e11 e12 e13 e14 e15 (y1.trans HQ3.out) x y D).mono ?_); rintro e w7 ⟨lg, rfl, z7, c7, ⟨v7, hp7⟩, k7⟩; have HP7 := Lib.hid hp7; have K7 := Lib.hid k7; have C7 := Lib.hid c7; clear hp7 k7 c7) | (go_at_call 38; (refine (wordone_new HP7.out (y2.trans HQ4.out) _ _).mono ?_); rintro e w8 ⟨wg, rfl, z8, c80, c81, ⟨v8, hp8⟩, k8⟩; have HP8 := Lib.hid hp8; have K8 := Lib.hid k8; have C80 := Lib.hid c80; have C81 := Lib.hid c81; clear hp8 k8 c80 c81))
                  rw [jumps_ret]
                  go_ret
                  have hp6l := HP6.out.lt
                  have z77 := K7.out.size
                  refine qpost_hit K05.out hBB HGW.out ((KH6.out.trans (K7.out.weaken (by simp))).trans (K8.out.weaken (by simp))) (by rw [HP8.out.c_hdocStops]; exact congrArg some (y3.trans HQ1.out)) ((K8.out.cell (p := ⟨hb, 0, none⟩) (block_lt_of_cell ((K7.out.cell (p := ⟨hb, 0, none⟩) (block_lt_of_cell HH6.out) (by simpa using hne1)).trans HH6.out)) (by simpa using hne1)).trans ((K7.out.cell (p := ⟨hb, 0, none⟩) (block_lt_of_cell HH6.out) (by simpa using hne1)).trans HH6.out)) HFI.out (.inr ⟨List.length_pos_iff.2 HPE.out, wg, lg, rfl, C80.out, C81.out, ?_⟩)
                  rw [HDS.out, ← HDD.out]
                  exact (K8.out.cell (p := ⟨lg, 4, none⟩) (block_lt_of_cell C7.out) (by simp; omega)).trans C7.out)
        · obtain ⟨X, hX⟩ : ∃ X : Int, X = x1.toNat := ⟨_, rfl⟩
          rw [← hX] at hx ⊢
          by_cases h10x : x1 = 10
          · subst h10x
            have hX' : X = 10 := hX
            subst hX'
            have hlo : lineOf u = line := by rw [huv]; exact lineOf_stop h10
            have hu2 : u = lineOf u ++ 10 :: t := by rw [hlo]; exact huv
            rw [← hlo] at hx
            have hx2 : LexL wr B' pb rb ea q 10 t (some (pre ++ lineOf u ++ [10])) 0 := hx
            have hnp2 : NoPair 13 10 t := by
              have h1 := HC.out
              rw [HSU.out, huv] at h1
              exact h1.app.app.tail
            have HX := Lib.hid hx2; have HG' := Lib.hid hg'; have HU2 := Lib.hid hu2; have HV := Lib.hid hv; have HNP2 := Lib.hid hnp2
            clear hx hx2 hg' huv h10 hlo hu2 hm HJ hX h96 g1 g2 hv hnp2
            by_cases hneg : lsv < 0
            · have HNS := Lib.hid (line_neg HLR.out HST.out hneg)
              go_wp2_with (first | fail)
              try rw [jumps_exit]
              go_wp2_with (first | (go_at_call 22; refine (next_l HX.out hE (by decide) HV.out HNP2.out).mono ?_; rintro e w7 ⟨a2, rfl, h7, k7⟩; have H7 := Lib.hid h7; have K7 := Lib.hid k7; clear h7 k7))
              go_roundg t.length
              case measure => rw [HN.out, HU2.out]; simp; try omega
              case rel => exact ⟨a2, rfl, (by obtain ⟨e1, e2, e3⟩ := line_next HSU.out HU2.out HFR.out HNS.out; exact Lib.hid (qi_of hE ((HG'.out.kept (Kr.refl _ _ _ _)).kept K7.out) H7.out e1 e2 e3))⟩
            · obtain ⟨LS, rfl⟩ : ∃ LS : Nat, lsv = LS := ⟨lsv.toNat, by omega⟩
              have hcmp := line_cmp HSU.out HLR.out HAT.out HST.out (by omega)
              have hlt0 : LS < (pre ++ lineOf u).length + 1 := by simpa using hcmp.1
              rw [List.length_append] at hlt0
              obtain ⟨b0, hb0⟩ : ∃ b0, decide (lineOf u = stop) = b0 := ⟨_, rfl⟩
              have hb1 : decide ((pre ++ lineOf u).drop LS = stop) = b0 := by rw [← hb0]; simpa using hcmp.2.1
              have HB0 := Lib.hid hb1
              clear hb1
              obtain ⟨p3, g, o', cc, hp3, _, f27, _, f2087, fcc, fcell, flen, _⟩ := LexL.facts HX.out hE
              rw [HQ1.out] at f27
              have fz := hp3.frozen
              obtain ⟨N, hN⟩ : ∃ N, N = (pre ++ lineOf u ++ [10]).length := ⟨_, rfl⟩
              rw [← hN] at f2087 fcc flen
              have hNL : N = pre.length + (lineOf u).length + 1 := (by rw [hN]; simp; try omega)
              have HSRC := Lib.hid (fun (A : Option Addr) (n : Nat) (h1 : n = N - LS - 1) (h2 : n = 0 ∨ A = some ⟨g, o' + LS, none⟩) => line_src (L := pre ++ lineOf u ++ [10]) (line := (pre ++ lineOf u).drop LS) (ls := LS) fcell (fun j y hj => (by rw [List.getElem?_drop] at hj; rw [List.getElem?_append_left ((List.getElem?_eq_some_iff.1 hj).1)]; exact hj)) (by rw [List.length_drop, List.length_append]; omega) h2)
              have hLN : LS < N := (by omega)
              have hcs : ¬ cc = LS := (by omega)
              have hcs2 : ¬ LS = cc := (by omega)
              have hLN2 : (LS : Int) ≤ N := (by omega)
              have HEQ := Lib.hid (hd_equal ((HG'.out.kept (Kr.refl _ _ _ _)).hs) b0 HB0.out)
              clear hN hNL
              cases b0 with
              | false =>
                have HNS := Lib.hid (show lineOf u ≠ stop from of_decide_eq_false hb0)
                go_wp2_with (first | (go_at_call 36; refine (HEQ.out _ _ _ (HSRC.out _ _ (by omega) (by first | exact .inr rfl | exact .inl (by omega)))).mono ?_; rintro e w' ⟨rfl, rfl⟩))
                try rw [jumps_normal]
                go_wp2_with (first | (go_at_call 22; refine (next_l HX.out hE (by decide) HV.out HNP2.out).mono ?_; rintro e w7 ⟨a2, rfl, h7, k7⟩; have H7 := Lib.hid h7; have K7 := Lib.hid k7; clear h7 k7))
                go_roundg t.length
                case measure => rw [HN.out, HU2.out]; simp; try omega
                case rel => exact ⟨a2, rfl, (by obtain ⟨e1, e2, e3⟩ := line_next HSU.out HU2.out HFR.out HNS.out; exact Lib.hid (qi_of hE ((HG'.out.kept (Kr.refl _ _ _ _)).kept K7.out) H7.out e1 e2 e3))⟩
              | true =>
                have heq : lineOf u = stop := of_decide_eq_true hb0
                have hLSp : LS = pre.length := by have := hcmp.2.2 heq; omega
                have HFI := Lib.hid (hit_first HSU.out HU0.out HAT.out HFR.out heq)
                have HLSP := Lib.hid hLSp
                clear hLSp heq
                go_wp2_with (first | (go_at_call 36; refine (HEQ.out _ _ _ (HSRC.out _ _ (by omega) (by first | exact .inr rfl | exact .inl (by omega)))).mono ?_; rintro e w' ⟨rfl, rfl⟩))
                have HGW := Lib.hid (HG'.out.kept (Kr.refl _ _ _ _))
                have HEL := Lib.hid (el_hit HX.out hE (by omega) ⟨HGW.out.hs.h1.1, HGW.out.hs.h1.2.1⟩ (.inr ⟨rfl, by simp; omega⟩))
                obtain ⟨E, hEq⟩ : ∃ E : ByteArray, E = ⟨(pre ++ lineOf u).toArray⟩ := ⟨_, rfl⟩
                have hE2 : (⟨(if (10 : Int) = 10 then (pre ++ lineOf u ++ [10]).take ((pre ++ lineOf u ++ [10]).length - 1) else pre ++ lineOf u ++ [10]).toArray⟩ : ByteArray) = E := by rw [hEq, if_pos rfl, take_snoc]
                rw [hE2] at HEL
                obtain ⟨D, hD⟩ : ∃ D : ByteArray, D = ⟨pre.toArray⟩ := ⟨_, rfl⟩
                have hEs : LS ≤ E.size := by rw [hEq]; show LS ≤ (_ : List UInt8).toArray.size; simp; omega
                have hx1 : E.extract 0 LS = D := by rw [hEq, ext_take, hD, HLSP.out]; simp
                have hDe : D.toList = pre := by rw [hD, ByteArray.toList_mk]
                have hDs : s.take pre.length = pre := by rw [HSU.out]; simp
                have HDS := Lib.hid hDs; have HDD := Lib.hid hD
                have hh1 := HGW.out.hs.cell
                have hh1f : (wr).frozen? ⟨hb, 0, none⟩ = false := frozen_of_row _ _ _ _ _ HGW.out.hs.row
                have hnb := HGW.out.hs.h1; have hne1 : hb ≠ pb := hnb.2.1; have hne2 : pb ≠ hb := Ne.symm hne1
                clear hEq hE2 hcmp hlt0 hb0 hD hDs hnb
                by_cases hpe : pre = []
                · have hd0 : D.toList.isEmpty = true := by rw [hDe, hpe]; rfl
                  clear hDe
                  go_region
                  all_goals (
                    go_wp2_with (go_at_call 37; (refine (HEL.out _ (by exact ((Kept.refl [hb] _).setCell (by simp) _).drew)).mono ?_); rintro e w6 ⟨rfl, hk6, p6, o6, b6, wd6, ln6, cl6, hp6, y1, y2, y3, e1, e2, e3, e4, e5, e6, e7, e8, e9, e10, e11, e12, e13, e14, e15⟩; (have HP6 := Lib.hid hp6; have c27 := hp6.c_hdocStops; rw [y3, HQ1.out] at c27; have HK6 := Lib.hid hk6; have kh6 := Kept.trans ((show Kept [hb, pb] wr _ from ((((Kept.refl [hb] wr).setCell (by simp) (.slice none 0 0)).drew).weaken (by simp)))) (hk6.weaken (by simp)); have hpos6 := (kh6.block posb (heap_lt HGW.out.pos) (by have := HGW.out.p1; simp; omega)).trans HGW.out.pos; have dp0 := (cell_of_row _ _ 0 _ _ _ hpos6); have dp1 := (cell_of_row _ _ 1 _ _ _ hpos6); simp only [List.getElem?_toArray, List.getElem?_cons_zero, List.getElem?_cons_succ] at dp0 dp1; have KH6 := Lib.hid kh6; have HH6 := Lib.hid ((hk6.cell (p := ⟨hb, 0, none⟩) (by have := heap_lt HGW.out.hs.row; simpa [World.setCell] using this) (by simpa using hne1)).trans (show _ = some (Value.slice none 0 0) from row_cell (w := wr.setCell ⟨hb, 0, none⟩ (.slice none 0 0)) (L := [.slice none 0 0]) (by have := heap_setCell_same wr hb 0 _ _ (.slice none 0 0) HGW.out.hs.row; simpa using this) 0)); clear hk6 hp6 kh6 hpos6))
                    rw [jumps_ret]
                    go_ret
                    exact qpost_hit K05.out hBB HGW.out KH6.out c27 HH6.out HFI.out (.inl ⟨by rw [hpe]; rfl, rfl⟩))
                · have hd0 : D.toList.isEmpty = false := by rw [hDe]; cases hq : pre with | nil => exact absurd hq hpe | cons => rfl
                  have HPE := Lib.hid hpe
                  clear hDe hpe
                  go_region
                  all_goals (
                    go_wp2_with (first | (go_at_call 37; (refine (HEL.out _ (by exact ((Kept.refl [hb] _).setCell (by simp) _).drew)).mono ?_); rintro e w6 ⟨rfl, hk6, p6, o6, b6, wd6, ln6, cl6, hp6, y1, y2, y3, e1, e2, e3, e4, e5, e6, e7, e8, e9, e10, e11, e12, e13, e14, e15⟩; (have HP6 := Lib.hid hp6; have c27 := hp6.c_hdocStops; rw [y3, HQ1.out] at c27; have HK6 := Lib.hid hk6; have kh6 := Kept.trans ((show Kept [hb, pb] wr _ from ((((Kept.refl [hb] wr).setCell (by simp) (.slice none 0 0)).drew).weaken (by simp)))) (hk6.weaken (by simp)); have hpos6 := (kh6.block posb (heap_lt HGW.out.pos) (by have := HGW.out.p1; simp; omega)).trans HGW.out.pos; have dp0 := (cell_of_row _ _ 0 _ _ _ hpos6); have dp1 := (cell_of_row _ _ 1 _ _ _ hpos6); simp only [List.getElem?_toArray, List.getElem?_cons_zero, List.getElem?_cons_succ] at dp0 dp1; have KH6 := Lib.hid kh6; have HH6 := Lib.hid ((hk6.cell (p := ⟨hb, 0, none⟩) (by have := heap_lt HGW.out.hs.row; simpa [World.setCell] using this) (by simpa using hne1)).trans (show _ = some (Value.slice none 0 0) from row_cell (w := wr.setCell ⟨hb, 0, none⟩ (.slice none 0 0)) (L := [.slice none 0 0]) (by have := heap_setCell_same wr hb 0 _ _ (.slice none 0 0) HGW.out.hs.row; simpa using this) 0)); clear hk6 hp6 kh6 hpos6)) | (go_at_call 39; (refine (lit_new HP6.out o6 b6 wd6 ln6 cl6 e1 e2 e3 e4 e5 e6 e7 e8 e9 e10 e11 e12 e13 e14 e15 (y1.trans HQ3.out) x y D).mono ?_); rintro e w7 ⟨lg, rfl, z7, c7, ⟨v7, hp7⟩, k7⟩; have HP7 := Lib.hid hp7; have K7 := Lib.hid k7; have C7 := Lib.hid c7; clear hp7 k7 c7) | (go_at_call 38; (refine (wordone_new HP7.out (y2.trans HQ4.out) _ _).mono ?_); rintro e w8 ⟨wg, rfl, z8, c80, c81, ⟨v8, hp8⟩, k8⟩; have HP8 := Lib.hid hp8; have K8 := Lib.hid k8; have C80 := Lib.hid c80; have C81 := Lib.hid c81; clear hp8 k8 c80 c81))
                    rw [jumps_ret]
                    go_ret
                    have hp6l := HP6.out.lt
                    have z77 := K7.out.size
                    refine qpost_hit K05.out hBB HGW.out ((KH6.out.trans (K7.out.weaken (by simp))).trans (K8.out.weaken (by simp))) (by rw [HP8.out.c_hdocStops]; exact congrArg some (y3.trans HQ1.out)) ((K8.out.cell (p := ⟨hb, 0, none⟩) (block_lt_of_cell ((K7.out.cell (p := ⟨hb, 0, none⟩) (block_lt_of_cell HH6.out) (by simpa using hne1)).trans HH6.out)) (by simpa using hne1)).trans ((K7.out.cell (p := ⟨hb, 0, none⟩) (block_lt_of_cell HH6.out) (by simpa using hne1)).trans HH6.out)) HFI.out (.inr ⟨List.length_pos_iff.2 HPE.out, wg, lg, rfl, C80.out, C81.out, ?_⟩)
                    rw [HDS.out, ← HDD.out]
                    exact (K8.out.cell (p := ⟨lg, 4, none⟩) (block_lt_of_cell C7.out) (by simp; omega)).trans C7.out)
          · have n1 : (X == 1114112) = false := by simp; omega
            have n2 : (X == 10) = false := by
              have : ¬ x1.toNat = 10 := fun e => h10x (UInt8.toNat_inj.1 e)
              simp; omega
            have n3 : (X == 1114113) = false := by simp; omega
            have hnp : NoPair 13 10 t := by
              have h1 := HC.out
              rw [HSU.out, huv] at h1
              exact h1.app.app.tail
            have hrx : X ≠ 1114112 := by omega
            have HR := Lib.hid (fun (W : World) (kw : Kept [] wr W) => next_l (hx.kept0 hE kw) hE hrx hv hnp)
            have hl10 : (10 : UInt8) ∉ line ++ [x1] := by simp only [List.mem_append, List.mem_singleton, not_or]; exact ⟨h10, fun e => h10x e.symm⟩
            have huv2 : u = (line ++ [x1]) ++ t := by rw [huv]; simp
            have HG' := Lib.hid hg'; have HM := Lib.hid hm; have HL10 := Lib.hid hl10; have HUV := Lib.hid huv2
            by_cases h96x : x1 = 96
            · subst h96x
              have hX' : X = 96 := hX
              subst hX'
              obtain ⟨_, _, _, _, _, _, _, f30, _⟩ := hx.facts hE
              have f32 := h96 rfl
              have HBQ := Lib.hid (bqend f30 f32)
              clear hx hg' huv h10 hm HJ hX h96 g1 g2 hv hnp hl10 huv2 f30 f32 n1 n2 n3 h10x hrx
              go_wp2_with (first
                | (go_at_call 35; refine HBQ.out.mono ?_; rintro e w6 ⟨rfl, hk6⟩; have HK6 := Lib.hid hk6; clear hk6)
                | (go_at_call 22; refine (HR.out _ HK6.out).mono ?_; rintro e w7 ⟨a2, rfl, h7, k7⟩; have H7 := Lib.hid h7; have K7 := Lib.hid k7; clear h7 k7))
              go_roundg t.length
              case measure => rw [HM.out]; simp
              case rel => exact ⟨a2, rfl, Lib.hid ⟨HG'.out.kept ((Kr.of HK6.out (by simp)).trans K7.out), line ++ [96], t, by simpa using H7.out, HUV.out, HL10.out, rfl⟩⟩
            · have n4 : (X == 96) = false := by
                have : ¬ x1.toNat = 96 := fun e => h96x (UInt8.toNat_inj.1 e)
                simp; omega
              clear hx hg' huv h10 hm HJ hX h96 g1 g2 hv hnp hl10 huv2 h10x h96x hrx
              go_wp2_with (go_at_call 22; refine (HR.out _ (Kept.refl _ _)).mono ?_; rintro e w7 ⟨a2, rfl, h7, k7⟩; have H7 := Lib.hid h7; have K7 := Lib.hid k7; clear h7 k7)
              go_roundg t.length
              case measure => rw [HM.out]; simp
              case rel => exact ⟨a2, rfl, Lib.hid ⟨HG'.out.kept K7.out, line ++ [x1], t, by simpa using H7.out, HUV.out, HL10.out, rfl⟩⟩
        · have hmf := mb_facts hmb
          obtain ⟨X, hX⟩ : ∃ X : Int, X = n1 := ⟨_, rfl⟩
          rw [← hX] at hx ⊢
          have n1' : (X == 1114112) = false := by simp; omega
          have n2 : (X == 10) = false := by simp; omega
          have n3 : (X == 1114113) = false := by simp; omega
          have n4 : (X == 96) = false := by simp; omega
          have hnp : NoPair 13 10 t := by
            have h1 := HC.out
            rw [HSU.out, huv] at h1
            exact h1.app.app.app
          have hrx : X ≠ 1114112 := by omega
          have HR := Lib.hid (fun (W : World) (kw : Kept [] wr W) => next_l (hx.kept0 hE kw) hE hrx hv hnp)
          have hl10 : (10 : UInt8) ∉ line ++ bs := by simp only [List.mem_append, not_or]; exact ⟨h10, high_no10 (mb_high hmb)⟩
          have huv2 : u = (line ++ bs) ++ t := by rw [huv]; simp
          have hbl := hmb.1
          have HG' := Lib.hid hg'; have HM := Lib.hid hm; have HL10 := Lib.hid hl10; have HUV := Lib.hid huv2
          clear hx hg' huv h10 hm HJ hX hv hnp hl10 huv2 hrx hmf hmb
          go_wp2_with (go_at_call 22; refine (HR.out _ (Kept.refl _ _)).mono ?_; rintro e w7 ⟨a2, rfl, h7, k7⟩; have H7 := Lib.hid h7; have K7 := Lib.hid k7; clear h7 k7)
          go_roundg t.length
          case measure => rw [HM.out]; simp; omega
          case rel => exact ⟨a2, rfl, Lib.hid ⟨HG'.out.kept K7.out, line ++ bs, t, by simpa using H7.out, HUV.out, HL10.out, rfl⟩⟩
        · have hlo : lineOf u = line ++ [92] := by
            rw [huv, lineOf_app h10]
            simp [lineOf]
          have hu2 : u = lineOf u ++ 10 :: t := by rw [hlo]; rw [huv]; simp
          have hll2 : pre ++ line ++ [92, 10] = pre ++ lineOf u ++ [10] := by rw [hlo]; simp
          have hnp2 : NoPair 13 10 t := by
            have h1 := HC.out
            rw [HSU.out, huv] at h1
            exact h1.app.app.tail.tail
          obtain ⟨p, _, _, _, _, _, hp, hbase, _, _, hlt, _, _, hpbB, _, hBw, hlen, hup⟩ := hx.upd hE
          have hlen2 := hlen (pre ++ line) rfl
          obtain ⟨lA, ln', lc, hlv⟩ := hlt.none_or
          have cl : wr.cell? ⟨pb, 2087, none⟩ = some (.slice (some lA) ln' lc) := by rw [hp.c_litBs, hlv]
          have fz := hp.frozen
          have hul := congrArg List.length hu2
          have hlen3 : (pre ++ line ++ [92, 10]).length + t.length ≤ 1000000000 := by
            have e1 := congrArg List.length HSU.out
            simp at e1 hul ⊢
            have e2 := congrArg List.length hlo
            simp at e2
            omega
          have HLT := Lib.hid hlt; have HPB := Lib.hid hp; have HBW := Lib.hid hBw; have HLV := Lib.hid hlv; have HLIM := Lib.hid (show (pre ++ line).length + 2 ≤ 100000000000 by omega); have HUP := Lib.hid hup; have HBASE := Lib.hid hbase; have HLEN := Lib.hid hlen3; have HLL := Lib.hid hll2
          have HG' := Lib.hid hg'; have HU2 := Lib.hid hu2; have HV := Lib.hid hv; have HNP2 := Lib.hid hnp2
          clear hx hg' huv h10 hlo hu2 hm HJ hv hnp2 hp hlt hBw hlv hup hbase hlen hlen2 hlen3 hll2 hul
          by_cases hneg : lsv < 0
          · have HNS := Lib.hid (line_neg HLR.out HST.out hneg)
            go_wp2_with (first | (at_builtin; (refine wpList_litn rfl _ _ rfl HLT.out HPB.out hpbB HBW.out (by exact HLV.out.symm) _ [92, 10] _ 2 rfl rfl rfl rfl (by omega) HLIM.out ?_); intro vA vn vc w9 p4 hp4 hlb hl4 hk4; have cl4 : w9.cell? ⟨pb, 2087, none⟩ = some p4.litBs := hp4.c_litBs; have fz4 := hp4.frozen; have KRW := Lib.hid (hk4.kr.trans (Kr.of ((Kept.refl [pb] w9).setCell (p := ⟨pb, 2087, none⟩) (by simp) (.slice (some vA) vn vc)) (by simp)) : Kr B' pb rb wr (w9.setCell ⟨pb, 2087, none⟩ (.slice (some vA) vn vc))); have HXW := Lib.hid (lexl_app HUP.out HBASE.out hpbB hp4 hlb hl4 hk4 HLEN.out); rw [HLL.out] at HXW; have hcv := (hp4.s_litBs (.slice (some vA) vn vc)).c_litBs; clear hp4 hlb hl4 hk4) | fail)
            try rw [jumps_exit]
            go_wp2_with (first | (go_at_call 22; refine (next_l HXW.out hE (by decide) HV.out HNP2.out).mono ?_; rintro e w7 ⟨a2, rfl, h7, k7⟩; have H7 := Lib.hid h7; have K7 := Lib.hid k7; clear h7 k7))
            go_roundg t.length
            case measure => rw [HN.out, HU2.out]; simp; try omega
            case rel => exact ⟨a2, rfl, (by obtain ⟨e1, e2, e3⟩ := line_next HSU.out HU2.out HFR.out HNS.out; exact Lib.hid (qi_of hE ((HG'.out.kept (KRW.out)).kept K7.out) H7.out e1 e2 e3))⟩
          · obtain ⟨LS, rfl⟩ : ∃ LS : Nat, lsv = LS := ⟨lsv.toNat, by omega⟩
            have hcmp := line_cmp HSU.out HLR.out HAT.out HST.out (by omega)
            have hlt0 : LS < (pre ++ lineOf u).length + 1 := by simpa using hcmp.1
            rw [List.length_append] at hlt0
            obtain ⟨b0, hb0⟩ : ∃ b0, decide (lineOf u = stop) = b0 := ⟨_, rfl⟩
            have hb1 : decide ((pre ++ lineOf u).drop LS = stop) = b0 := by rw [← hb0]; simpa using hcmp.2.1
            have HB0 := Lib.hid hb1
            clear hb1
            cases b0 with
            | false =>
              have HNS := Lib.hid (show lineOf u ≠ stop from of_decide_eq_false hb0)
              go_wp2_with (first | (at_builtin; (refine wpList_litn rfl _ _ rfl HLT.out HPB.out hpbB HBW.out (by exact HLV.out.symm) _ [92, 10] _ 2 rfl rfl rfl rfl (by omega) HLIM.out ?_); intro vA vn vc w9 p4 hp4 hlb hl4 hk4; have cl4 : w9.cell? ⟨pb, 2087, none⟩ = some p4.litBs := hp4.c_litBs; have fz4 := hp4.frozen; have KRW := Lib.hid (hk4.kr.trans (Kr.of ((Kept.refl [pb] w9).setCell (p := ⟨pb, 2087, none⟩) (by simp) (.slice (some vA) vn vc)) (by simp)) : Kr B' pb rb wr (w9.setCell ⟨pb, 2087, none⟩ (.slice (some vA) vn vc))); have HXW := Lib.hid (lexl_app HUP.out HBASE.out hpbB hp4 hlb hl4 hk4 HLEN.out); rw [HLL.out] at HXW; have hcv := (hp4.s_litBs (.slice (some vA) vn vc)).c_litBs; (obtain ⟨p3, g, o', cc, hp3, _, f27, _, f2087, fcc, fcell, flen, _⟩ := LexL.facts HXW.out hE; rw [HQ1.out] at f27; have fz := hp3.frozen; obtain ⟨N, hN⟩ : ∃ N, N = (pre ++ lineOf u ++ [10]).length := ⟨_, rfl⟩; rw [← hN] at f2087 fcc flen; have hNL : N = pre.length + (lineOf u).length + 1 := (by rw [hN]; simp; try omega); have HSRC := Lib.hid (fun (A : Option Addr) (n : Nat) (h1 : n = N - LS - 1) (h2 : n = 0 ∨ A = some ⟨g, o' + LS, none⟩) => line_src (L := pre ++ lineOf u ++ [10]) (line := (pre ++ lineOf u).drop LS) (ls := LS) fcell (fun j y hj => (by rw [List.getElem?_drop] at hj; rw [List.getElem?_append_left ((List.getElem?_eq_some_iff.1 hj).1)]; exact hj)) (by rw [List.length_drop, List.length_append]; omega) h2); have hLN : LS < N := (by omega); have hcs : ¬ cc = LS := (by omega); have hcs2 : ¬ LS = cc := (by omega); have hLN2 : (LS : Int) ≤ N := (by omega); have HEQ := Lib.hid (hd_equal ((HG'.out.kept (KRW.out)).hs) false HB0.out); clear hN hNL); (rw [f2087] at hcv; simp only [Option.some.injEq, Value.slice.injEq] at hcv; obtain ⟨hcv1, hcv2, hcv3⟩ := hcv; subst hcv1 hcv2 hcv3); clear hp4 hlb hl4 hk4) | (go_at_call 36; refine (HEQ.out _ _ _ (HSRC.out _ _ (by omega) (by first | exact .inr rfl | exact .inl (by omega)))).mono ?_; rintro e w' ⟨rfl, rfl⟩))
              try rw [jumps_normal]
              go_wp2_with (first | (go_at_call 22; refine (next_l HXW.out hE (by decide) HV.out HNP2.out).mono ?_; rintro e w7 ⟨a2, rfl, h7, k7⟩; have H7 := Lib.hid h7; have K7 := Lib.hid k7; clear h7 k7))
              go_roundg t.length
              case measure => rw [HN.out, HU2.out]; simp; try omega
              case rel => exact ⟨a2, rfl, (by obtain ⟨e1, e2, e3⟩ := line_next HSU.out HU2.out HFR.out HNS.out; exact Lib.hid (qi_of hE ((HG'.out.kept (KRW.out)).kept K7.out) H7.out e1 e2 e3))⟩
            | true =>
              have heq : lineOf u = stop := of_decide_eq_true hb0
              have hLSp : LS = pre.length := by have := hcmp.2.2 heq; omega
              have HFI := Lib.hid (hit_first HSU.out HU0.out HAT.out HFR.out heq)
              have HLSP := Lib.hid hLSp
              clear hLSp heq
              go_wp2_with (first | (at_builtin; (refine wpList_litn rfl _ _ rfl HLT.out HPB.out hpbB HBW.out (by exact HLV.out.symm) _ [92, 10] _ 2 rfl rfl rfl rfl (by omega) HLIM.out ?_); intro vA vn vc w9 p4 hp4 hlb hl4 hk4; have cl4 : w9.cell? ⟨pb, 2087, none⟩ = some p4.litBs := hp4.c_litBs; have fz4 := hp4.frozen; have KRW := Lib.hid (hk4.kr.trans (Kr.of ((Kept.refl [pb] w9).setCell (p := ⟨pb, 2087, none⟩) (by simp) (.slice (some vA) vn vc)) (by simp)) : Kr B' pb rb wr (w9.setCell ⟨pb, 2087, none⟩ (.slice (some vA) vn vc))); have HXW := Lib.hid (lexl_app HUP.out HBASE.out hpbB hp4 hlb hl4 hk4 HLEN.out); rw [HLL.out] at HXW; have hcv := (hp4.s_litBs (.slice (some vA) vn vc)).c_litBs; (obtain ⟨p3, g, o', cc, hp3, _, f27, _, f2087, fcc, fcell, flen, _⟩ := LexL.facts HXW.out hE; rw [HQ1.out] at f27; have fz := hp3.frozen; obtain ⟨N, hN⟩ : ∃ N, N = (pre ++ lineOf u ++ [10]).length := ⟨_, rfl⟩; rw [← hN] at f2087 fcc flen; have hNL : N = pre.length + (lineOf u).length + 1 := (by rw [hN]; simp; try omega); have HSRC := Lib.hid (fun (A : Option Addr) (n : Nat) (h1 : n = N - LS - 1) (h2 : n = 0 ∨ A = some ⟨g, o' + LS, none⟩) => line_src (L := pre ++ lineOf u ++ [10]) (line := (pre ++ lineOf u).drop LS) (ls := LS) fcell (fun j y hj => (by rw [List.getElem?_drop] at hj; rw [List.getElem?_append_left ((List.getElem?_eq_some_iff.1 hj).1)]; exact hj)) (by rw [List.length_drop, List.length_append]; omega) h2); have hLN : LS < N := (by omega); have hcs : ¬ cc = LS := (by omega); have hcs2 : ¬ LS = cc := (by omega); have hLN2 : (LS : Int) ≤ N := (by omega); have HEQ := Lib.hid (hd_equal ((HG'.out.kept (KRW.out)).hs) true HB0.out); clear hN hNL); (rw [f2087] at hcv; simp only [Option.some.injEq, Value.slice.injEq] at hcv; obtain ⟨hcv1, hcv2, hcv3⟩ := hcv; subst hcv1 hcv2 hcv3); clear hp4 hlb hl4 hk4) | (go_at_call 36; refine (HEQ.out _ _ _ (HSRC.out _ _ (by omega) (by first | exact .inr rfl | exact .inl (by omega)))).mono ?_; rintro e w' ⟨rfl, rfl⟩))
              have HGW := Lib.hid (HG'.out.kept (KRW.out))
              have HEL := Lib.hid (el_hit HXW.out hE (by omega) ⟨HGW.out.hs.h1.1, HGW.out.hs.h1.2.1⟩ (.inl (.inr rfl)))
              obtain ⟨E, hEq⟩ : ∃ E : ByteArray, E = ⟨(pre ++ lineOf u ++ [10]).toArray⟩ := ⟨_, rfl⟩
              have hE2 : (⟨(if (1114113 : Int) = 10 then (pre ++ lineOf u ++ [10]).take ((pre ++ lineOf u ++ [10]).length - 1) else pre ++ lineOf u ++ [10]).toArray⟩ : ByteArray) = E := by rw [hEq, if_neg (by decide)]
              rw [hE2] at HEL
              obtain ⟨D, hD⟩ : ∃ D : ByteArray, D = ⟨pre.toArray⟩ := ⟨_, rfl⟩
              have hEs : LS ≤ E.size := by rw [hEq]; show LS ≤ (_ : List UInt8).toArray.size; simp; omega
              have hx1 : E.extract 0 LS = D := by rw [hEq, ext_take, hD, HLSP.out]; simp
              have hDe : D.toList = pre := by rw [hD, ByteArray.toList_mk]
              have hDs : s.take pre.length = pre := by rw [HSU.out]; simp
              have HDS := Lib.hid hDs; have HDD := Lib.hid hD
              have hh1 := HGW.out.hs.cell
              have hh1f : ((w9.setCell ⟨pb, 2087, none⟩ (.slice (some ⟨g, o', none⟩) N cc))).frozen? ⟨hb, 0, none⟩ = false := frozen_of_row _ _ _ _ _ HGW.out.hs.row
              have hnb := HGW.out.hs.h1; have hne1 : hb ≠ pb := hnb.2.1; have hne2 : pb ≠ hb := Ne.symm hne1
              clear hEq hE2 hcmp hlt0 hb0 hD hDs hnb
              by_cases hpe : pre = []
              · have hd0 : D.toList.isEmpty = true := by rw [hDe, hpe]; rfl
                clear hDe
                go_region
                all_goals (
                  go_wp2_with (go_at_call 37; (refine (HEL.out _ (by exact ((Kept.refl [hb] _).setCell (by simp) _).drew)).mono ?_); rintro e w6 ⟨rfl, hk6, p6, o6, b6, wd6, ln6, cl6, hp6, y1, y2, y3, e1, e2, e3, e4, e5, e6, e7, e8, e9, e10, e11, e12, e13, e14, e15⟩; (have HP6 := Lib.hid hp6; have c27 := hp6.c_hdocStops; rw [y3, HQ1.out] at c27; have HK6 := Lib.hid hk6; have kh6 := Kept.trans ((show Kept [hb, pb] (w9.setCell ⟨pb, 2087, none⟩ (.slice (some ⟨g, o', none⟩) N cc)) _ from ((((Kept.refl [hb] (w9.setCell ⟨pb, 2087, none⟩ (.slice (some ⟨g, o', none⟩) N cc))).setCell (by simp) (.slice none 0 0)).drew).weaken (by simp)))) (hk6.weaken (by simp)); have hpos6 := (kh6.block posb (heap_lt HGW.out.pos) (by have := HGW.out.p1; simp; omega)).trans HGW.out.pos; have dp0 := (cell_of_row _ _ 0 _ _ _ hpos6); have dp1 := (cell_of_row _ _ 1 _ _ _ hpos6); simp only [List.getElem?_toArray, List.getElem?_cons_zero, List.getElem?_cons_succ] at dp0 dp1; have KH6 := Lib.hid kh6; have HH6 := Lib.hid ((hk6.cell (p := ⟨hb, 0, none⟩) (by have := heap_lt HGW.out.hs.row; simpa [World.setCell] using this) (by simpa using hne1)).trans (show _ = some (Value.slice none 0 0) from row_cell (w := (w9.setCell ⟨pb, 2087, none⟩ (.slice (some ⟨g, o', none⟩) N cc)).setCell ⟨hb, 0, none⟩ (.slice none 0 0)) (L := [.slice none 0 0]) (by have := heap_setCell_same (w9.setCell ⟨pb, 2087, none⟩ (.slice (some ⟨g, o', none⟩) N cc)) hb 0 _ _ (.slice none 0 0) HGW.out.hs.row; simpa using this) 0)); clear hk6 hp6 kh6 hpos6))
                  rw [jumps_ret]
                  go_ret
                  exact qpost_hit K05.out hBB HGW.out KH6.out c27 HH6.out HFI.out (.inl ⟨by rw [hpe]; rfl, rfl⟩))
              · have hd0 : D.toList.isEmpty = false := by rw [hDe]; cases hq : pre with | nil => exact absurd hq hpe | cons => rfl
                have HPE := Lib.hid hpe
                clear hDe hpe
                go_region
                all_goals (
                  go_wp2_with (first | (go_at_call 37; (refine (HEL.out _ (by exact ((Kept.refl [hb] _).setCell (by simp) _).drew)).mono ?_); rintro e w6 ⟨rfl, hk6, p6, o6, b6, wd6, ln6, cl6, hp6, y1, y2, y3, e1, e2, e3, e4, e5, e6, e7, e8, e9, e10, e11, e12, e13, e14, e15⟩; (have HP6 := Lib.hid hp6; have c27 := hp6.c_hdocStops; rw [y3, HQ1.out] at c27; have HK6 := Lib.hid hk6; have kh6 := Kept.trans ((show Kept [hb, pb] (w9.setCell ⟨pb, 2087, none⟩ (.slice (some ⟨g, o', none⟩) N cc)) _ from ((((Kept.refl [hb] (w9.setCell ⟨pb, 2087, none⟩ (.slice (some ⟨g, o', none⟩) N cc))).setCell (by simp) (.slice none 0 0)).drew).weaken (by simp)))) (hk6.weaken (by simp)); have hpos6 := (kh6.block posb (heap_lt HGW.out.pos) (by have := HGW.out.p1; simp; omega)).trans HGW.out.pos; have dp0 := (cell_of_row _ _ 0 _ _ _ hpos6); have dp1 := (cell_of_row _ _ 1 _ _ _ hpos6); simp only [List.getElem?_toArray, List.getElem?_cons_zero, List.getElem?_cons_succ] at dp0 dp1; have KH6 := Lib.hid kh6; have HH6 := Lib.hid ((hk6.cell (p := ⟨hb, 0, none⟩) (by have := heap_lt HGW.out.hs.row; simpa [World.setCell] using this) (by simpa using hne1)).trans (show _ = some (Value.slice none 0 0) from row_cell (w := (w9.setCell ⟨pb, 2087, none⟩ (.slice (some ⟨g, o', none⟩) N cc)).setCell ⟨hb, 0, none⟩ (.slice none 0 0)) (L := [.slice none 0 0]) (by have := heap_setCell_same (w9.setCell ⟨pb, 2087, none⟩ (.slice (some ⟨g, o', none⟩) N cc)) hb 0 _ _ (.slice none 0 0) HGW.out.hs.row; simpa using this) 0)); clear hk6 hp6 kh6 hpos6)) | (go_at_call 39; (refine (lit_new HP6.out o6 b6 wd6 ln6 cl6 e1 e2 e3 e4 e5 e6 e7 e8 e9 e10 e11 e12 e13 e14 e15 (y1.trans HQ3.out) x y D).mono ?_); rintro e w7 ⟨lg, rfl, z7, c7, ⟨v7, hp7⟩, k7⟩; have HP7 := Lib.hid hp7; have K7 := Lib.hid k7; have C7 := Lib.hid c7; clear hp7 k7 c7) | (go_at_call 38; (refine (wordone_new HP7.out (y2.trans HQ4.out) _ _).mono ?_); rintro e w8 ⟨wg, rfl, z8, c80, c81, ⟨v8, hp8⟩, k8⟩; have HP8 := Lib.hid hp8; have K8 := Lib.hid k8; have C80 := Lib.hid c80; have C81 := Lib.hid c81; clear hp8 k8 c80 c81))
                  rw [jumps_ret]
                  go_ret
                  have hp6l := HP6.out.lt
                  have z77 := K7.out.size
                  refine qpost_hit K05.out hBB HGW.out ((KH6.out.trans (K7.out.weaken (by simp))).trans (K8.out.weaken (by simp))) (by rw [HP8.out.c_hdocStops]; exact congrArg some (y3.trans HQ1.out)) ((K8.out.cell (p := ⟨hb, 0, none⟩) (block_lt_of_cell ((K7.out.cell (p := ⟨hb, 0, none⟩) (block_lt_of_cell HH6.out) (by simpa using hne1)).trans HH6.out)) (by simpa using hne1)).trans ((K7.out.cell (p := ⟨hb, 0, none⟩) (block_lt_of_cell HH6.out) (by simpa using hne1)).trans HH6.out)) HFI.out (.inr ⟨List.length_pos_iff.2 HPE.out, wg, lg, rfl, C80.out, C81.out, ?_⟩)
                  rw [HDS.out, ← HDD.out]
                  exact (K8.out.cell (p := ⟨lg, 4, none⟩) (block_lt_of_cell C7.out) (by simp; omega)).trans C7.out)
end Go.Proofs.YtnjaeooblfihbaaFmt
