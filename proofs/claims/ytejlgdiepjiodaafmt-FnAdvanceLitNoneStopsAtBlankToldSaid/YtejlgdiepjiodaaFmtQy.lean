/-
  advanceLitNone in POSIX shell, outside of all quotes, walked.
-/
import Derived.Test.YtejlgdiepjiodaaFmtQx
namespace Go.Proofs.YtejlgdiepjiodaaFmt
open Go.RowKit

set_option maxRecDepth 1000000 in
set_option maxHeartbeats 8000000 in
theorem adv_none {w : World} {B pb rb : Nat} {ea : Addr} {q : Pc} {u : List UInt8} {a : Int} (h : NoS w B pb rb ea q none u a) (hB : 0 < B) (hq1 : q.lang = .int .i64 2) (hq2 : q.val = .string ⟨#[]⟩) (hq3 : q.quote = .int .u32 1) (hok : noOk u) (hhd : ∀ x t, u = x :: t → ¬ (x = 62 ∨ x = 60)) (hl : u.length ≤ 100000000) :
    Calls Tryf.prog 32 #[.pointer (some ⟨pb, 0, none⟩), .int .i32 a] w fun e w' => e = .returned (.tuple #[]) ∧ NoPost w w' B pb rb (noF [] (-1) u) := by
  obtain ⟨F, hF⟩ : ∃ F, F = noF [] (-1) u := ⟨_, rfl⟩
  rw [← hF]
  have h2 : NoS (w.setCell ⟨pb, 18, none⟩ (.int .i64 (-1))) B pb rb ea (qe q (-1)) none u a ∧ (∃ v, w.cell? ⟨pb, 18, none⟩ = some v) ∧ (∀ i, w.frozen? ⟨pb, i, none⟩ = false) := by
    have key : ∀ {r : Int} {u : List UInt8} {lit : Option (List UInt8)} {k : Nat}, LexS w B pb rb ea q r u lit k → (∃ v, w.cell? ⟨pb, 18, none⟩ = some v) ∧ (∀ i, w.frozen? ⟨pb, i, none⟩ = false) := fun h => by
      obtain ⟨p, _, _, _, _, _, hp, _⟩ := h.mark hB
      exact ⟨⟨_, hp.c_eqlOffs⟩, hp.frozen⟩
    rcases h with ⟨x, t, e1, e2, e3, h⟩ | ⟨t, e1, e2, e3, h⟩ | ⟨t, e1, e2, h⟩
    · exact ⟨.inl ⟨x, t, e1, e2, e3, h.s_eql hB _⟩, key h⟩
    · exact ⟨.inr (.inl ⟨t, e1, e2, e3, h.s_eql hB _⟩), key h⟩
    · exact ⟨.inr (.inr ⟨t, e1, e2, h.s_eql hB _⟩), key h⟩
  obtain ⟨h2, ⟨v18, c18⟩, fz⟩ := h2
  have HN := Lib.hid (no_newlit h2 hB hok hl)
  have K0 : Hid (Kr B pb rb w (w.setCell ⟨pb, 18, none⟩ (.int .i64 (-1)))) := Lib.hid (Kr.of ((Kept.refl [pb] _).setCell (p := ⟨pb, 18, none⟩) (by simp) _) (by simp))
  have HOK := Lib.hid hok; have HF := Lib.hid hF; have HH := Lib.hid hhd; have HQ1 := Lib.hid hq1; have HQ2 := Lib.hid hq2; have HQ3 := Lib.hid hq3
  clear h h2 hok hF hhd hq1 hq2 hq3
  go_enter Tryf.func32, Tryf.ntmps32
  go_wp2_with fail
  go_step3
  go_wp2_with fail
  go_step3
  go_wp2_with (go_at_call 42; refine HN.out.mono ?_; rintro e w1 ⟨rfl, hpost⟩; have HP := Lib.hid hpost; clear hpost)
  clear c18 fz
  go_loopg [1, 4] u.length (fun n r t wr => ∃ a, r = .int .i32 a ∧ t = .int .u32 4 ∧ Hid (NoI w wr B pb rb ea q F n a))
  case atStart => exact ⟨a, rfl, rfl, Lib.hid ⟨K0.out.trans HP.out.2, -1, [], u, HP.out.1, HF.out, rfl, HOK.out, fun _ => HH.out, by simp, by omega, by omega, by simp; omega⟩⟩
  case round =>
    have i9 := in9; have i16 := in16; have i29 := in29
    obtain ⟨a, rfl, rfl, HI⟩ := hrel
    obtain ⟨hkr, e, L, u, hS, hFe, rfl, hok, hLe, hLu, he1, he2, hlen⟩ := HI.out
    rcases hS with ⟨x, t, rfl, hax, h13, hx⟩ | ⟨t, rfl, hh, rfl, hx⟩ | ⟨t, rfl, rfl, hx⟩
    case inr.inl =>
      have hfe := hFe.trans (noF_cr hh)
      have HE : Hid (NoE w wr B pb rb F) := Lib.hid (no_fin hkr hx hB ⟨by omega, by omega⟩ hfe)
      have HT : Hid (F.1 = 4) := Lib.hid (by rw [hfe])
      clear hkr hx hFe HI hok hLe hLu hfe hh
      go_wp2_with (first | (go_at_call 43; refine Calls.mono HE.out ?_; rintro e9 w3 ⟨rfl, hpost⟩; obtain ⟨hk3, p3, hp3, hr3, he3⟩ := hpost.out; have c10 := hp3.c_tok; have c11 := hp3.c_val; have fz : ∀ i, w3.frozen? ⟨pb, i, none⟩ = false := hp3.frozen; have HP3 := Lib.hid hp3; have HR3 := Lib.hid hr3; have HX3 := Lib.hid he3; have HK3 := Lib.hid hk3; clear hpost hk3 hp3 hr3 he3))
      try rw [Exit.noGoto_normal]
      go_end0
      exact ⟨rfl, no_post HK3.out HP3.out HR3.out HX3.out HT.out⟩
    case inr.inr =>
      have hfe := hFe.trans noF_crlf
      have HE : Hid (NoE w wr B pb rb F) := Lib.hid (no_fin hkr hx hB ⟨by omega, by omega⟩ hfe)
      have HT : Hid (F.1 = 4) := Lib.hid (by rw [hfe])
      clear hkr hx hFe HI hok hLe hLu hfe
      go_wp2_with (first | (go_at_call 43; refine Calls.mono HE.out ?_; rintro e9 w3 ⟨rfl, hpost⟩; obtain ⟨hk3, p3, hp3, hr3, he3⟩ := hpost.out; have c10 := hp3.c_tok; have c11 := hp3.c_val; have fz : ∀ i, w3.frozen? ⟨pb, i, none⟩ = false := hp3.frozen; have HP3 := Lib.hid hp3; have HR3 := Lib.hid hr3; have HX3 := Lib.hid he3; have HK3 := Lib.hid hk3; clear hpost hk3 hp3 hr3 he3))
      try rw [Exit.noGoto_normal]
      go_end0
      exact ⟨rfl, no_post HK3.out HP3.out HR3.out HX3.out HT.out⟩
    have hal := noOk_head hok
    have hx : LexS wr B pb rb ea (qe q e) a t (some (L ++ [x])) 0 := by rw [hax]; exact hx
    obtain ⟨p3, g, o, cc, hp3, f10, f11, f17, f20, f27, f28, f30, f2087, fcc, fcell, flen, r10, r11, r27, rr⟩ := hx.facts hB
    have f18 := hx.c_eql hB
    have fz3 := hp3.frozen
    rw [show (qe q e).quote = .int .u32 1 from HQ3.out] at f17
    rw [show (qe q e).lang = .int .i64 2 from HQ1.out] at f20
    rw [show (qe q e).eqlOffs = .int .i64 e from rfl] at f18
    have hLl : (L ++ [x]).length = L.length + 1 := by simp
    rw [hLl] at f2087 fcc
    have har : 0 < a ∧ a < 128 := by have := hal.1; have := hal.2.1; omega
    have hne : a ≠ 1114112 := by omega
    have hLx : ∀ y ∈ L ++ [x], y.toNat < 128 := fun y hy => by
      rcases List.mem_append.1 hy with h | h
      · exact hLu y h
      · simp at h; rw [h]; exact hal.1
    have hln : (L ++ [x]).length + t.length ≤ 200000000 := by rw [hLl]; simp at hlen; omega
    have hnl : L ++ [x] ≠ [] := by simp
    by_cases hs : stopN x
    · have hfe := hFe.trans (noF_stop hs)
      rw [← hax] at hfe
      have hsa : a = 32 ∨ a = 9 ∨ a = 10 ∨ a = 38 ∨ a = 124 ∨ a = 59 ∨ a = 41 ∨ a = 40 := by
        unfold stopN at hs
        rcases hs with rfl | rfl | rfl | rfl | rfl | rfl | rfl | rfl <;> rw [hax] <;> decide
      have HE : Hid (NoE w wr B pb rb F) := Lib.hid (no_fin hkr hx hB har hfe)
      have HT : Hid (F.1 = 4) := Lib.hid (by rw [hfe])
      clear hkr hx hFe HI hok hLe hLu hfe hs hax h13 hal f10 f11 f17 f18 f20 f27 f28 f30 f2087 fcc fcell flen r10 r11 r27 rr hp3 fz3 hLx hln hnl hLl har hne
      rcases hsa with rfl | rfl | rfl | rfl | rfl | rfl | rfl | rfl
      all_goals (
        go_wp2_with (first | (go_at_call 43; refine Calls.mono HE.out ?_; rintro e9 w3 ⟨rfl, hpost⟩; obtain ⟨hk3, p3, hp3, hr3, he3⟩ := hpost.out; have c10 := hp3.c_tok; have c11 := hp3.c_val; have fz : ∀ i, w3.frozen? ⟨pb, i, none⟩ = false := hp3.frozen; have HP3 := Lib.hid hp3; have HR3 := Lib.hid hr3; have HX3 := Lib.hid he3; have HK3 := Lib.hid hk3; clear hpost hk3 hp3 hr3 he3))
        try rw [Exit.noGoto_normal]
        go_end0
        exact ⟨rfl, no_post HK3.out HP3.out HR3.out HX3.out HT.out⟩)
    by_cases hs2 : x = 62 ∨ x = 60
    · have hsa : a = 62 ∨ a = 60 := by
        rcases hs2 with rfl | rfl <;> rw [hax] <;> decide
      have hfe := hFe.trans (noF_redir hs2)
      rw [← hax] at hfe
      have hL0 : L ≠ [] := fun e => hLe e x t rfl hs2
      obtain ⟨c, hc⟩ : ∃ c, c = (hd2 t).1 := ⟨_, rfl⟩
      have HPK := Lib.hid (peek_s hx hne)
      rw [← hc] at HPK hfe
      unfold By at HPK
      have HE1 := Lib.hid (fun (w1 : World) (h1 : LexS w1 B pb rb ea (qe q e) a t (some (L ++ [x])) 0) (k1 : Kr B pb rb wr w1) => no_fin (t := if c = 40 then 3 else if litR L then 5 else 4) (hkr.trans k1) h1 hB har hfe)
      have HT0 : F.1 = if c = 40 then 3 else if litR L then 5 else 4 := by rw [hfe]
      obtain ⟨cv, hcv⟩ : ∃ cv : Int, cv = c.toNat := ⟨_, rfl⟩
      rw [← hcv] at HPK
      by_cases hc4 : c = 40
      · have HT : Hid (F.1 = 3) := Lib.hid (by rw [HT0, if_pos hc4])
        have hcv4 : cv = 40 := by rw [hcv, hc4]; rfl
        subst hcv4
        clear hkr hx hFe HI hok hLe hLu hfe hs hs2 hax h13 hal f10 f11 f17 f18 f27 f28 f30 f2087 fcc fcell flen r10 r11 r27 rr hp3 fz3 hLx hln hnl hLl har hne hc hcv hc4 HT0 hL0
        rcases hsa with rfl | rfl
        all_goals (
          go_wp2_with (first | (go_at_call 44; refine (in_any _ _).mono ?_; rintro e9 w9 ⟨rfl, rfl⟩) | (go_at_call 35; refine HPK.out.mono ?_; rintro e9 w1 ⟨rfl, h1, k1⟩; have HL1 := Lib.hid h1; have HE := Lib.hid (HE1.out _ h1 k1); have HK1 := Lib.hid k1; clear h1 k1) | (go_at_call 43; refine Calls.mono HE.out ?_; rintro e9 w3 ⟨rfl, hpost⟩; obtain ⟨hk3, p3, hp3, hr3, he3⟩ := hpost.out; have c10 := hp3.c_tok; have c11 := hp3.c_val; have fz : ∀ i, w3.frozen? ⟨pb, i, none⟩ = false := hp3.frozen; have HP3 := Lib.hid hp3; have HR3 := Lib.hid hr3; have HX3 := Lib.hid he3; have HK3 := Lib.hid hk3; clear hpost hk3 hp3 hr3 he3))
          try rw [Exit.noGoto_normal]
          go_end0
          exact ⟨rfl, no_post HK3.out HP3.out HR3.out HX3.out HT.out⟩)
      · have hcv4 : (cv == 40) = false := by
          have : ¬ c.toNat = 40 := fun e => hc4 (UInt8.toNat_inj.1 e)
          simp; omega
        rw [if_neg hc4] at HT0
        obtain ⟨b, hb⟩ : ∃ b, litR L = b := ⟨_, rfl⟩
        have HLR := Lib.hid (fun (w1 : World) (h1 : LexS w1 B pb rb ea (qe q e) a t (some (L ++ [x])) 0) => litredir_s h1 hB HQ1.out hL0 hLu (by simp at hlen; omega) b hb)
        have HT : Hid (F.1 = if b then 5 else 4) := Lib.hid (by rw [HT0, hb])
        clear hkr hx hFe HI hok hLe hLu hfe hs hs2 hax h13 hal f10 f11 f17 f18 f27 f28 f30 f2087 fcc fcell flen r10 r11 r27 rr hp3 fz3 hLx hln hnl hLl har hne hc hcv hc4 HT0 hL0 hb
        rcases hsa with rfl | rfl
        all_goals (
          cases b
          all_goals (
            go_wp2_with (first | (go_at_call 44; refine (in_any _ _).mono ?_; rintro e9 w9 ⟨rfl, rfl⟩) | (go_at_call 35; refine HPK.out.mono ?_; rintro e9 w1 ⟨rfl, h1, k1⟩; have HL1 := Lib.hid h1; have HE := Lib.hid (HE1.out _ h1 k1); have HK1 := Lib.hid k1; clear h1 k1) | (go_at_call 45; refine (HLR.out _ HL1.out).mono ?_; rintro e9 w2 ⟨rfl, k2⟩; have HE := Lib.hid (HE1.out _ (HL1.out.kept0 hB k2) (HK1.out.trans (Kr.of k2 (by simp)))); clear k2) | (go_at_call 43; refine Calls.mono HE.out ?_; rintro e9 w3 ⟨rfl, hpost⟩; obtain ⟨hk3, p3, hp3, hr3, he3⟩ := hpost.out; have c10 := hp3.c_tok; have c11 := hp3.c_val; have fz : ∀ i, w3.frozen? ⟨pb, i, none⟩ = false := hp3.frozen; have HP3 := Lib.hid hp3; have HR3 := Lib.hid hr3; have HX3 := Lib.hid he3; have HK3 := Lib.hid hk3; clear hpost hk3 hp3 hr3 he3))
            try rw [Exit.noGoto_normal]
            go_end0
            exact ⟨rfl, no_post HK3.out HP3.out HR3.out HX3.out HT.out⟩))
    by_cases hs3 : litN x
    · have hfe := hFe.trans (noF_lit hs3)
      rw [← hax] at hfe
      have hsa : a = 96 ∨ a = 34 ∨ a = 39 ∨ a = 36 := by
        unfold litN at hs3
        rcases hs3 with rfl | rfl | rfl | rfl <;> rw [hax] <;> decide
      have HE : Hid (NoE w wr B pb rb F) := Lib.hid (no_fin hkr hx hB har hfe)
      have HT : Hid (F.1 = 3) := Lib.hid (by rw [hfe])
      clear hkr hx hFe HI hok hLe hLu hfe hs hs2 hs3 hax h13 hal f10 f11 f18 f20 f27 f28 f30 f2087 fcc fcell flen r10 r11 r27 rr hp3 fz3 hLx hln hnl hLl har hne
      rcases hsa with rfl | rfl | rfl | rfl
      all_goals (
        go_wp2_with (first | (go_at_call 43; refine Calls.mono HE.out ?_; rintro e9 w3 ⟨rfl, hpost⟩; obtain ⟨hk3, p3, hp3, hr3, he3⟩ := hpost.out; have c10 := hp3.c_tok; have c11 := hp3.c_val; have fz : ∀ i, w3.frozen? ⟨pb, i, none⟩ = false := hp3.frozen; have HP3 := Lib.hid hp3; have HR3 := Lib.hid hr3; have HX3 := Lib.hid he3; have HK3 := Lib.hid hk3; clear hpost hk3 hp3 hr3 he3))
        try rw [Exit.noGoto_normal]
        go_end0
        exact ⟨rfl, no_post HK3.out HP3.out HR3.out HX3.out HT.out⟩)
    have hok' := noOk_tail hok hs
    by_cases hs4 : globN x
    · have hsa : a = 63 ∨ a = 42 ∨ a = 43 ∨ a = 64 ∨ a = 33 := by
        unfold globN at hs4
        rcases hs4 with rfl | rfl | rfl | rfl | rfl <;> rw [hax] <;> decide
      have HEG := Lib.hid (eg_s hx hB hne HQ1.out HQ2.out)
      have hfe := hFe.trans (noF_glob hs4)
      rw [← hax] at hfe
      cases heg : egB t with
      | true =>
        rw [heg] at HEG
        rw [if_pos heg] at hfe
        have HE1 := Lib.hid (fun (w1 : World) (h1 : LexS w1 B pb rb ea (qe q e) a t (some (L ++ [x])) 0) (k1 : Kr B pb rb wr w1) => no_fin (hkr.trans k1) h1 hB har hfe)
        have HT : Hid (F.1 = 3) := Lib.hid (by rw [hfe])
        clear hkr hx hFe HI hok hLe hLu hfe hs hs2 hs3 hs4 hax h13 hal f10 f11 f17 f18 f20 f27 f28 f30 f2087 fcc fcell flen r10 r11 r27 rr hp3 fz3 hLx hln hnl hLl har hne heg hok'
        rcases hsa with rfl | rfl | rfl | rfl | rfl
        all_goals (
          go_wp2_with (first | (go_at_call 46; refine HEG.out.mono ?_; rintro e9 w1 ⟨rfl, hh⟩; obtain ⟨h1, k1⟩ := hh.out; have HE := Lib.hid (HE1.out _ h1 k1); clear hh h1 k1) | (go_at_call 43; refine Calls.mono HE.out ?_; rintro e9 w3 ⟨rfl, hpost⟩; obtain ⟨hk3, p3, hp3, hr3, he3⟩ := hpost.out; have c10 := hp3.c_tok; have c11 := hp3.c_val; have fz : ∀ i, w3.frozen? ⟨pb, i, none⟩ = false := hp3.frozen; have HP3 := Lib.hid hp3; have HR3 := Lib.hid hr3; have HX3 := Lib.hid he3; have HK3 := Lib.hid hk3; clear hpost hk3 hp3 hr3 he3))
          try rw [Exit.noGoto_normal]
          go_end0
          exact ⟨rfl, no_post HK3.out HP3.out HR3.out HX3.out HT.out⟩)
      | false =>
        rw [heg] at HEG
        rw [if_neg (by simp [heg])] at hfe
        have HR1 := Lib.hid (fun (w1 : World) (h1 : LexS w1 B pb rb ea (qe q e) a t (some (L ++ [x])) 0) (k1 : Kr B pb rb wr w1) => no_go (hkr.trans k1) h1 hB hne hfe hok' hnl hLx he1 he2 hln)
        clear hkr hx hFe HI hok hLe hLu hfe hs hs2 hs3 hs4 hax h13 hal f10 f11 f17 f18 f20 f27 f28 f30 f2087 fcc fcell flen r10 r11 r27 rr hp3 fz3 hLx hln hnl hLl har hne heg hok'
        rcases hsa with rfl | rfl | rfl | rfl | rfl
        all_goals (
          go_wp2_with (first | (go_at_call 46; refine HEG.out.mono ?_; rintro e9 w1 ⟨rfl, hh⟩; obtain ⟨h1, k1⟩ := hh.out; have HR := Lib.hid (HR1.out _ h1 k1); clear hh h1 k1) | (go_at_call 28; refine HR.out.mono ?_; rintro e9 w2 ⟨a2, rfl, n2, hn2, hi2⟩; have HI2 := Lib.hid hi2; have HN2 := Lib.hid hn2; clear hi2 hn2))
          go_roundg n2
          case measure => exact HN2.out
          case rel => exact ⟨a2, rfl, rfl, HI2⟩)
    by_cases h61 : x = 61
    · have ha61 : a = 61 := by rw [hax, h61]; rfl
      subst h61 ha61
      have hfe := hFe.trans noF_eq
      obtain ⟨N, hN⟩ : ∃ N, N = L.length := ⟨_, rfl⟩
      rw [← hN] at f2087 hfe
      have hNb : N ≤ 1000000000 := by rw [hN]; simp at hlen; omega
      by_cases hneg : e < 0
      · rw [if_pos hneg] at hfe
        have HR := Lib.hid (no_go (hkr.trans (Kr.of ((Kept.refl [pb] _).setCell (p := ⟨pb, 18, none⟩) (by simp) (.int .i64 (N : Int))) (by simp))) (hx.s_eql hB (.int .i64 (N : Int))) hB hne hfe hok' hnl hLx (by omega) (by simp at hlen; omega) hln)
        clear hkr hx hFe HI hok hLe hLu hfe hs hs2 hs3 hs4 hax h13 hal f10 f11 f17 f20 f27 f28 f30 fcc fcell flen r10 r11 r27 rr hp3 hLx hln hnl hLl har hne hok' hN
        go_wp2_with (first | (go_at_call 28; refine HR.out.mono ?_; rintro e9 w2 ⟨a2, rfl, n2, hn2, hi2⟩; have HI2 := Lib.hid hi2; have HN2 := Lib.hid hn2; clear hi2 hn2))
        go_roundg n2
        case measure => exact HN2.out
        case rel => exact ⟨a2, rfl, rfl, HI2⟩
      · rw [if_neg hneg] at hfe
        have HR := Lib.hid (no_go hkr hx hB hne hfe hok' hnl hLx he1 he2 hln)
        clear hkr hx hFe HI hok hLe hLu hfe hs hs2 hs3 hs4 hax h13 hal f10 f11 f17 f20 f27 f28 f30 fcc fcell flen r10 r11 r27 rr hp3 hLx hln hnl hLl har hne hok' hN
        go_wp2_with (first | (go_at_call 28; refine HR.out.mono ?_; rintro e9 w2 ⟨a2, rfl, n2, hn2, hi2⟩; have HI2 := Lib.hid hi2; have HN2 := Lib.hid hn2; clear hi2 hn2))
        go_roundg n2
        case measure => exact HN2.out
        case rel => exact ⟨a2, rfl, rfl, HI2⟩
    have hfe := hFe.trans (noF_other h13 hs hs2 hs3 hs4 h61)
    have HR := Lib.hid (no_go hkr hx hB hne hfe hok' hnl hLx he1 he2 hln)
    by_cases h125 : x = 125
    · have ha : a = 125 := by rw [hax, h125]; rfl
      subst ha
      clear hkr hx hFe HI hok hLe hLu hfe hs hs2 hs3 hs4 hax h13 hal f10 f11 f18 f20 f27 f28 f30 f2087 fcc fcell flen r10 r11 r27 rr hp3 hLx hln hnl hLl har hne hok' h61 h125
      go_wp2_with (first | (go_at_call 28; refine HR.out.mono ?_; rintro e9 w2 ⟨a2, rfl, n2, hn2, hi2⟩; have HI2 := Lib.hid hi2; have HN2 := Lib.hid hn2; clear hi2 hn2))
      go_roundg n2
      case measure => exact HN2.out
      case rel => exact ⟨a2, rfl, rfl, HI2⟩
    by_cases h91 : x = 91
    · have ha : a = 91 := by rw [hax, h91]; rfl
      subst ha
      obtain ⟨y0, hy0⟩ : ∃ y0, (L ++ [x])[0]? = some y0 := ⟨_, List.getElem?_eq_getElem (by simp)⟩
      have d0 := fcell 0 y0 hy0
      rw [Nat.add_zero] at d0
      unfold By at d0
      obtain ⟨v0, hv0⟩ : ∃ v0 : Int, v0 = y0.toNat := ⟨_, rfl⟩
      rw [← hv0] at d0
      obtain ⟨N, hN⟩ : ∃ N, N = L.length := ⟨_, rfl⟩
      rw [← hN] at f2087
      clear hkr hx hFe HI hok hLe hLu hfe hs hs2 hs3 hs4 hax h13 hal f10 f11 f17 f18 f27 f28 f30 fcc fcell flen r10 r11 r27 rr hp3 hLx hln hnl hLl har hne hok' h61 h125 h91 hv0 hy0 hN
      by_cases hv : v0 = 123
      · subst hv
        go_wp2_with (first | (go_at_call 44; refine (in_any _ _).mono ?_; rintro e9 w9 ⟨rfl, rfl⟩) | (go_at_call 28; refine HR.out.mono ?_; rintro e9 w2 ⟨a2, rfl, n2, hn2, hi2⟩; have HI2 := Lib.hid hi2; have HN2 := Lib.hid hn2; clear hi2 hn2))
        go_roundg n2
        case measure => exact HN2.out
        case rel => exact ⟨a2, rfl, rfl, HI2⟩
      · have hv2 : (v0 == 123) = false := by simpa using hv
        clear hv
        go_wp2_with (first | (go_at_call 44; refine (in_any _ _).mono ?_; rintro e9 w9 ⟨rfl, rfl⟩) | (go_at_call 28; refine HR.out.mono ?_; rintro e9 w2 ⟨a2, rfl, n2, hn2, hi2⟩; have HI2 := Lib.hid hi2; have HN2 := Lib.hid hn2; clear hi2 hn2))
        go_roundg n2
        case measure => exact HN2.out
        case rel => exact ⟨a2, rfl, rfl, HI2⟩
    have gn : ∀ c : UInt8, x ≠ c → (a == (c.toNat : Int)) = false := by
      intro c hc
      have : ¬ x.toNat = c.toNat := fun e => hc (UInt8.toNat_inj.1 e)
      simp; omega
    unfold stopN at hs
    unfold litN at hs3
    unfold globN at hs4
    simp only [not_or] at hs hs2 hs3 hs4
    obtain ⟨s1, s2, s3, s4, s5, s6, s7, s8⟩ := hs
    obtain ⟨s9, s10⟩ := hs2
    obtain ⟨s11, s12, s13, s14⟩ := hs3
    obtain ⟨s15, s16, s17, s18, s19⟩ := hs4
    have gs1 : (a == 32) = false := gn 32 s1
    have gs2 : (a == 9) = false := gn 9 s2
    have gs3 : (a == 10) = false := gn 10 s3
    have gs4 : (a == 38) = false := gn 38 s4
    have gs5 : (a == 124) = false := gn 124 s5
    have gs6 : (a == 59) = false := gn 59 s6
    have gs7 : (a == 41) = false := gn 41 s7
    have gs8 : (a == 40) = false := gn 40 s8
    have gs9 : (a == 62) = false := gn 62 s9
    have gs10 : (a == 60) = false := gn 60 s10
    have gs11 : (a == 96) = false := gn 96 s11
    have gs12 : (a == 34) = false := gn 34 s12
    have gs13 : (a == 39) = false := gn 39 s13
    have gs14 : (a == 36) = false := gn 36 s14
    have gs15 : (a == 63) = false := gn 63 s15
    have gs16 : (a == 42) = false := gn 42 s16
    have gs17 : (a == 43) = false := gn 43 s17
    have gs18 : (a == 64) = false := gn 64 s18
    have gs19 : (a == 33) = false := gn 33 s19
    have gh13 : (a == 13) = false := gn 13 h13
    have gh61 : (a == 61) = false := gn 61 h61
    have gh125 : (a == 125) = false := gn 125 h125
    have gh91 : (a == 91) = false := gn 91 h91
    have gh92 : (a == 92) = false := gn 92 (fun e => hal.2.2 (by rw [e]; rfl))
    have ghe : (a != 1114112) = true := by simp; omega
    clear hkr hx hFe HI hok hLe hLu hfe s1 s2 s3 s4 s5 s6 s7 s8 s9 s10 s11 s12 s13 s14 s15 s16 s17 s18 s19 hax h13 hal f10 f11 f17 f18 f20 f27 f28 f30 f2087 fcc fcell flen r10 r11 r27 rr hp3 hLx hln hnl hLl har hne hok' h61 h125 h91 gn
    go_wp2_with (first | (go_at_call 28; refine HR.out.mono ?_; rintro e9 w2 ⟨a2, rfl, n2, hn2, hi2⟩; have HI2 := Lib.hid hi2; have HN2 := Lib.hid hn2; clear hi2 hn2))
    go_roundg n2
    case measure => exact HN2.out
    case rel => exact ⟨a2, rfl, rfl, HI2⟩
end Go.Proofs.YtejlgdiepjiodaaFmt
