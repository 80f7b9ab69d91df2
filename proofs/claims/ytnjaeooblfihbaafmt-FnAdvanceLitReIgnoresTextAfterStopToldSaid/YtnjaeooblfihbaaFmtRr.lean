/-
  rune, in pieces: the switch at a backslash: an escaped newline.
-/
import Derived.Test.YtnjaeooblfihbaaFmtRq
namespace Go.Proofs.YtnjaeooblfihbaaFmt
open Go.RowKit

set_option maxRecDepth 1000000 in
set_option maxHeartbeats 6400000 in
theorem rn_sw_bs_nl (K : Act → World → Prop) (J : Nat → Act → World → Prop) (R : Ending → World → Prop) {w : World} {B pb rb : Nat} {ea : Addr} {p : Pc} {win rest u : List UInt8} {bsp : Nat} {offs : Int} (h : Md w B pb rb ea p win rest bsp offs u) (hB : 0 < B) (r : Int) (hr : p.r = .int .i32 r) (hr' : r ≠ 1114112) (lit : Option (List UInt8)) (hlit : Lt w B pb p lit) (hrs : r ≠ 92) (hu : u[0]? = some 10) (bq : Int)
    (hR : ∀ (w2 : World) (p2 : Pc) (win2 rest2 : List UInt8) (bsp2 : Nat) (offs2 : Int), Md w2 B pb rb ea p2 win2 rest2 bsp2 offs2 (u.drop 1) → p2.side = ({ p with r := .int .i32 1114113, w := .int .i64 1 } : Pc).side → Lt w2 B pb p2 lit → Kr B pb rb w w2 → R (.returned (.int .i32 1114113)) w2)
    (u1 u2 u5 u6 u7 u8 u9 u10 u11 u12 u13 u14 u15 u16 u17 u18 u19 u20 u21 u22 u23 u24 u25 u26 u27 u28 u29 u30 u31 u32 u33 u34 u35 u36 u37 u38 u39 u40 u41 u42 u43 u44 u45 u46 u47 u48 u49 u50 u51 u52 u53 u54 u55 u56 u57 u58 u59 u60 u61 u62 u63 u64 u65 u66 u67 u68 u69 u70 u71 u72 u73 u74 u75 u76 u77 u78 u79 u80 u81 u82 u83 u84 u85 u86 u87 u88 u89 u90 u91 u92 u93 u94 u95 u96 u97 u98 u99 u100 u101 u102 u103 u104 u105 u106 u107 u108 u109 u110 u111 u112 u113 u114 u115 u116 u117 u118 u119 u120 u121 u122 u123 u124 u125 u126 u127 u128 u129 u130 u131 u132 u133 u134 u135 u136 u137 u138 u139 u140 u141 u142 u143 u144 u145 u146 u147 u148 u149 u150 u151 u152 u153 u154 u155 u156 u157 u158 u159 u160 u161 u162 u163 u164 u165 u166 u167 u168 u169 u170 u171 u172 u173 u174 u175 u176 u177 u178 u179 u180 u181 u182 u183 u184 u185 u186 u187 u188 u189 u190 u191 u192 u193 u194 u195 u196 u197 u198 u199 u200 u201 u202 u203 u204 u205 u206 u207 u208 u209 u210 u211 u212 u213 u214 u215 u216 u217 u218 u219 u220 u221 u222 u223 u224 u225 u226 u227 u228 u229 u230 u231 u232 u233 u234 u235 u236 u237 u238 u239 u240 u241 u242 u243 u244 u245 u246 u247 u248 u249 u250 u251 u252 u253 u254 u255 u256 u257 u258 u259 u260 u261 u262 u263 u264 u265 u266 u267 u268 u269 u270 u271 u272 u273 u274 u275 u276 u277 u278 u279 u280 u281 u282 u283 u284 u285 u286 u287 u288 u289 u290 u291 u292 u293 u294 u295 u296 u297 u298 u299 u300 u301 u302 u303 u304 u305 u306 u307 u308 u309 u310 u311 u312 u313 u314 u315 u316 u317 u318 u319 u320 u321 u322 u323 u324 u325 u326 u327 u328 u329 u330 u331 u332 u333 u334 u335 u336 u337 u338 u339 u340 u341 u342 u343 u344 u345 u346 u347 u348 u349 u350 u351 u352 u353 u354 u355 u356 u357 u358 u359 u360 u361 u362 u363 u364 u365 u366 u367 u368 u369 u370 u371 : Value) : Code.wp Tryf.prog (hd (tl (thn (tl (tl (hd (tl (tl (tl (tl (tl (unscope (tl (Tryf.f22.body.getD .skip)))))))))))))) (Exit.then K (jumps J (bodyPost Tryf.prog Tryf.f22 R))) { tmps := #[.pointer (some ⟨pb, 0, none⟩), u1, u2, .int .i64 bq, .int .u8 92, u5, u6, u7, u8, u9, u10, u11, u12, u13, u14, u15, u16, u17, u18, u19, u20, u21, u22, u23, u24, u25, u26, u27, u28, u29, u30, u31, u32, u33, u34, u35, u36, u37, u38, u39, u40, u41, u42, u43, u44, u45, u46, u47, u48, u49, u50, u51, u52, u53, u54, u55, u56, u57, u58, u59, u60, u61, u62, u63, u64, u65, u66, u67, u68, u69, u70, u71, u72, u73, u74, u75, u76, u77, u78, u79, u80, u81, u82, u83, u84, u85, u86, u87, u88, u89, u90, u91, u92, u93, u94, u95, u96, u97, u98, u99, u100, u101, u102, u103, u104, u105, u106, u107, u108, u109, u110, u111, u112, u113, u114, u115, u116, u117, u118, u119, u120, u121, u122, u123, u124, u125, u126, u127, u128, u129, u130, u131, u132, u133, u134, u135, u136, u137, u138, u139, u140, u141, u142, u143, u144, u145, u146, u147, u148, u149, u150, u151, u152, u153, u154, u155, u156, u157, u158, u159, u160, u161, u162, u163, u164, u165, u166, u167, u168, u169, u170, u171, u172, u173, u174, u175, u176, u177, u178, u179, u180, u181, u182, u183, u184, u185, u186, u187, u188, u189, u190, u191, u192, u193, u194, u195, u196, u197, u198, u199, u200, u201, u202, u203, u204, u205, u206, u207, u208, u209, u210, u211, u212, u213, u214, u215, u216, u217, u218, u219, u220, u221, u222, u223, u224, u225, u226, u227, u228, u229, u230, u231, u232, u233, u234, u235, u236, u237, u238, u239, u240, u241, u242, u243, u244, u245, u246, u247, u248, u249, u250, u251, u252, u253, u254, u255, u256, u257, u258, u259, u260, u261, u262, u263, u264, u265, u266, u267, u268, u269, u270, u271, u272, u273, u274, u275, u276, u277, u278, u279, u280, u281, u282, u283, u284, u285, u286, u287, u288, u289, u290, u291, u292, u293, u294, u295, u296, u297, u298, u299, u300, u301, u302, u303, u304, u305, u306, u307, u308, u309, u310, u311, u312, u313, u314, u315, u316, u317, u318, u319, u320, u321, u322, u323, u324, u325, u326, u327, u328, u329, u330, u331, u332, u333, u334, u335, u336, u337, u338, u339, u340, u341, u342, u343, u344, u345, u346, u347, u348, u349, u350, u351, u352, u353, u354, u355, u356, u357, u358, u359, u360, u361, u362, u363, u364, u365, u366, u367, u368, u369, u370, u371], defers := [] } w := by
  have hlt := h.lx.hlt
  have hrl := h.lx.hrd.lt.1
  have c3 : w.cell? ⟨pb, 3, none⟩ = some (.int .i32 r) := by rw [h.lx.hpb.c_r, hr]
  have g3 : (r == 92) = false := by simpa using hrs
  obtain ⟨y, hy⟩ : ∃ y : UInt8, y = (hd2 u).1 := ⟨_, rfl⟩
  have hpk := peek_md h r hr hr'
  rw [← hy] at hpk
  have gy : ((y.toNat : Int) == 10) = true := by rw [hy, hd2_fst hu]; rfl
  have HUL := Lib.hid (show 1 ≤ u.length from (List.getElem?_eq_some_iff.1 hu).1)
  unfold By at hpk
  have HP := Lib.hid hpk
  have HL := Lib.hid hlit; have H := Lib.hid h; have HRR := Lib.hid hr
  have HR := Lib.hid hR
  have hfit := h.lx.hfit
  clear hlit h hrs hpk hu hy hR
  conv => arg 2; whnf
  go_wp2_with (go_at_call 27; refine HP.out.mono ?_; rintro e W1 ⟨rfl, hpk⟩; dsimp only; obtain ⟨p1, win1, rest1, bsp1, offs1, h2, hs2, hk2, hg2⟩ := hpk.out; clear hpk c3 g3; have fz : ∀ i, W1.frozen? ⟨pb, i, none⟩ = false := h2.lx.hpb.frozen; have c4 := h2.lx.hpb.c_w; have c3 := h2.lx.hpb.c_r; have c2 := h2.c2; have hb1 := h2.hb; have hf1 := h2.lx.hfit; have hw2 : IntKind.u64.wrap ((bsp1 : Int) + 1) = bsp1 + 1 := IntWalk.u64_in _ (by omega); have H1 := Lib.hid h2; have HS1 := Lib.hid hs2; have HK1 := Lib.hid hk2; have HG1 := Lib.hid hg2; clear h2 hs2 hk2 hg2)
  have hl1 : Lt W1 B pb p1 lit := HL.out.kept HK1.out (by simp; exact ⟨hrl, hlt⟩) (by have := congrArg Pc.litBs HS1.out; exact this) (by have := congrArg Pc.litBuf HS1.out; exact this)
  have hk3 : Kept [pb] W1 (((W1.setCell ⟨pb, 2, none⟩ (.int .u64 ((bsp1 : Int) + 1))).setCell ⟨pb, 4, none⟩ (.int .i64 1)).setCell ⟨pb, 3, none⟩ (.int .i32 1114113)) := (((Kept.refl _ _).setCell (p := ⟨pb, 2, none⟩) (by simp) _).setCell (p := ⟨pb, 4, none⟩) (by simp) _).setCell (p := ⟨pb, 3, none⟩) (by simp) _
  have hg : bsp1 + 1 ≤ win1.length := by have := HG1.out; have := HUL.out; omega
  have h3 := H1.out.step (Kb.of hk3 (by simp)) hB (((H1.out.lx.hpb.s_bsp (.int .u64 ((bsp1 + 1 : Nat) : Int))).s_w (.int .i64 1)).s_r (.int .i32 1114113)) 1 hg rfl rfl rfl rfl rfl rfl rfl
  exact HR.out _ _ _ _ _ _ h3 (congrArg (fun q : Pc => ({ q with r := .int .i32 1114113, w := .int .i64 1 } : Pc)) HS1.out) (hl1.kept hk3 (by simp; exact hlt) rfl rfl) ((Kr.of HK1.out (by simp)).trans (Kr.of hk3 (by simp)))


end Go.Proofs.YtnjaeooblfihbaaFmt
