/-
  advanceLitHdoc at the end of the input; a fresh parser in a heredoc's empty body.
-/
import Derived.Test.YtejlgdiepjiodaaFmtQj
namespace Go.Proofs.YtejlgdiepjiodaaFmt
open Go.RowKit

set_option maxRecDepth 1000000 in
set_option maxHeartbeats 1600000 in
theorem hd_eof {w : World} {B pb rb hb sb c : Nat} {ea : Addr} {q : Pc} {stop : List UInt8} {a : Int} (h : HdS w B pb rb ea q none [] a) (hB : 0 < B) (hs : HsAt w B pb rb hb sb c stop) (hq1 : q.hdocStops = .slice (some ⟨hb, 0, none⟩) 1 1) (hq2 : q.quote = .int .u32 256) (hq3 : q.parsingDoc = .bool false) (hq4 : q.tok = .int .u32 2) (hq5 : q.val = .string ⟨#[]⟩) :
    Calls Tryf.prog 33 #[.pointer (some ⟨pb, 0, none⟩), .int .i32 a] w fun e w' => e = .returned (.tuple #[]) ∧ HdPost w w' B pb rb hb sb c q stop (3, [], 1114112, false) := by
  have hx : a = 1114112 ∧ LexS w B pb rb ea q 1114112 [] none 1 := by
    rcases h with ⟨h1, _, h2⟩ | ⟨y, t', h1, _⟩
    · exact ⟨h1, h2⟩
    · cases h1
  obtain ⟨rfl, hl0⟩ := hx
  obtain ⟨p, o, b, wd, ln, cl, hp, hb0, _, _, ⟨e1, e2, e3, e4, e5, e6, e7, e8, e9, e10, e11, e12, e13, e14, e15⟩, _⟩ := hl0.mark hB
  have c10 := hp.c_tok; have c15 := hp.c_pos1; have c16 := hp.c_pos2
  have g10 : p.tok = q.tok := by have := congrArg Pc.tok hb0; exact this
  rw [g10, hq4] at c10
  have fz := hp.frozen
  have HNP := Lib.hid (nextpos_any hp o b wd ln cl e1 e2 e3 e4 e5 e6 e7 e8 e9 e10 e11 e12 (by omega) e14 (by omega))
  have hlt := hp.lt
  have HP := Lib.hid hp
  have H := Lib.hid h; have HS := Lib.hid hs; have HQ1 := Lib.hid hq1; have HQ2 := Lib.hid hq2; have HQ3 := Lib.hid hq3; have HQ4 := Lib.hid hq4; have HQ5 := Lib.hid hq5
  clear h hs hq1 hq2 hq3 hq4 hq5 hl0 hp hb0 e1 e2 e3 e4 e5 e6 e7 e8 e9 e10 e11 e12 e13 e14 e15 g10
  go_enter Tryf.func33, Tryf.ntmps33
  go_wp2_with fail
  refine wp_loop_once ?_
  go_wp2_with (first
    | (go_at_call 41; refine HNP.out.mono ?_; rintro e w1 ⟨⟨v1, v2, rfl⟩, hk1⟩; have d10 := (hk1.cell (p := ⟨pb, 10, none⟩) hlt (by simp)).trans c10; have d15 := (hk1.cell (p := ⟨pb, 15, none⟩) hlt (by simp)).trans c15; have d16 := (hk1.cell (p := ⟨pb, 16, none⟩) hlt (by simp)).trans c16; have fz1 : ∀ i, w1.frozen? ⟨pb, i, none⟩ = false := (HP.out.kept hk1 (by simp)).frozen; have HK1 := Lib.hid hk1; clear hk1 c10 c15 c16 fz)
    | (go_at_call 42; have hm := hd_mark (x := .int .u32 v1) (y := .int .u32 v2) H.out hB HK1.out rfl; have HKM := Lib.hid hm.2; refine (hd_newlit hm.1 hB (by simp)).mono ?_; rintro e w2 ⟨rfl, h2, hk2⟩; have H2 := Lib.hid h2; have HK2 := Lib.hid hk2; clear hm h2 hk2))
  have hx2 : LexS w2 B pb rb ea { q with tok := .int .u32 3, pos1 := .int .u32 v1, pos2 := .int .u32 v2 } 1114112 [] (some []) 1 := by
    rcases H2.out with ⟨_, _, h2⟩ | ⟨y, t', h1, _⟩
    · exact h2
    · cases h1
  have hkr2 : Kr B pb rb w w2 := (Kr.of HKM.out (by simp)).trans (Kr.of HK2.out (by simp))
  have hs2 := HS.out.kept hkr2
  obtain ⟨p2, g2, o2, cc2, _, _, _, f17, _, f27, f28, _, f2087, fcc, _⟩ := hx2.facts hB
  have fh := hs2.cell
  rw [show ({ q with tok := .int .u32 3, pos1 := .int .u32 v1, pos2 := .int .u32 v2 } : Pc).quote = .int .u32 256 from HQ2.out] at f17
  rw [show ({ q with tok := .int .u32 3, pos1 := .int .u32 v1, pos2 := .int .u32 v2 } : Pc).hdocStops = .slice (some ⟨hb, 0, none⟩) 1 1 from HQ1.out] at f27
  rw [show ({ q with tok := .int .u32 3, pos1 := .int .u32 v1, pos2 := .int .u32 v2 } : Pc).parsingDoc = .bool false from HQ3.out] at f28
  have HLO := Lib.hid (hd_lost (q := q) (F := (3, [], 1114112, false)) hkr2 hs2 hx2 hB rfl rfl HQ5.out rfl)
  have z0 : ([] : List UInt8).length = 0 := rfl
  rw [z0] at f2087 fcc
  clear hx2 hkr2 hs2 z0
  refine wp_loop_once ?_
  go_wp2_with fail
  go_quiet (fail)
  go_wp2_with fail
  refine wp_loop_once ?_
  go_wp2_with fail
  go_returns
  exact ⟨rfl, HLO.out.drewN _⟩
end Go.Proofs.YtejlgdiepjiodaaFmt
