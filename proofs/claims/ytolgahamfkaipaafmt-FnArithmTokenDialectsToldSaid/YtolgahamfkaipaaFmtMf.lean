/-
  rune, in pieces: whether the bytes of the rune are all there.
-/
import Derived.Test.YtolgahamfkaipaaFmtMe
import Derived.BigQuiet
namespace Go.Proofs.YtolgahamfkaipaaFmt
open Go.RowKit

set_option maxRecDepth 1000000 in
set_option maxHeartbeats 6400000 in
theorem rn_c45_a (J : Nat → Act → World → Prop) (R : Ending → World → Prop) {w : World} {B pb rb : Nat} {ea : Addr} {p : Pc} {win rest u : List UInt8} {bsp : Nat} {offs : Int} (h : Md w B pb rb ea p win rest bsp offs u) (hlit : Lt w B pb p none) (hbw : bsp < win.length) {v : Int} (hra : p.r = .int .i32 v) (ha : v ≠ 65533) (n : Nat) (hn : n ≤ 4) (bq : Int)
    (hR : ∀ W W4, Kept [] w W → W4 = (W.setCell ⟨pb, 2, none⟩ (.int .u64 ((bsp : Int) + n))).setCell ⟨pb, 4, none⟩ (.int .i64 n) → R (.returned (.int .i32 v)) W4)
    (u1 u2 u4 u5 u6 u8 u9 u10 u11 u12 u13 u14 u15 u16 u17 u18 u19 u20 u21 u22 u23 u24 u25 u26 u27 u28 u29 u30 u31 u32 u33 u34 u35 u36 u37 u38 u39 u40 u41 u42 u43 u44 u45 u46 u47 u48 u49 u50 u51 u52 u53 u54 u55 u56 u57 u58 u59 u60 u61 u62 u63 u64 u65 u66 u67 u68 u69 u70 u71 u72 u73 u74 u75 u76 u77 u78 u79 u80 u81 u82 u83 u84 u85 u86 u87 u88 u89 u90 u91 u92 u93 u94 u95 u96 u97 u98 u99 u100 u101 u102 u103 u104 u105 u106 u107 u108 u109 u110 u111 u112 u113 u114 u115 u116 u117 u118 u119 u120 u121 u122 u123 u124 u125 u126 u127 u128 u129 u130 u131 u132 u133 u134 u135 u136 u137 u138 u139 u140 u141 u142 u143 u144 u145 u146 u147 u148 u149 u150 u151 u152 u153 u154 u155 u156 u157 u158 u159 u160 u161 u162 u163 u164 u165 u166 u167 u168 u169 u170 u171 u172 u173 u174 u175 u176 u177 u178 u179 u180 u181 u182 u183 u184 u185 u186 u187 u188 u189 u190 u191 u192 u193 u194 u195 u196 u197 u198 u199 u200 u201 u202 u203 u204 u205 u206 u207 u208 u209 u210 u211 u212 u213 u214 u215 u216 u217 u218 u219 u220 u221 u222 u223 u224 u225 u226 u227 u228 u229 u230 u231 u232 u233 u234 u235 u236 u237 u238 u239 u240 u241 u242 u243 u244 u245 u246 u247 u248 u249 u250 u251 u252 u253 u254 u255 u256 u257 u258 u259 u260 u261 u262 u263 u264 u265 u266 u267 u268 u269 u270 u271 u272 u273 u274 u275 u276 u277 u278 u279 u280 u281 u282 u283 u284 u285 u286 u287 u288 u289 u290 u291 u292 u293 u294 u295 u296 u297 u298 u299 u300 u301 u302 u303 u304 u305 u306 u307 u308 u309 u310 u311 u312 u313 u314 u315 u316 u317 u318 u319 u320 u321 u322 u323 u324 u325 u326 u327 u328 u329 u330 u331 u332 u333 u334 u335 u336 u337 u338 u339 u340 u341 u342 u343 u344 u345 u346 u347 u348 u349 u350 u351 u352 u353 u354 u355 u356 u357 u358 u359 u360 u361 u362 u363 u364 u365 u366 u367 u368 u369 u370 u371 : Value) : Code.wp Tryf.prog (tl (tl (tl (tl (tl (tl (tl (tl (tl (unscope (tl (Tryf.f29.body.getD .skip)))))))))))) (jumps J (bodyPost Tryf.prog Tryf.f29 R)) { tmps := #[.pointer (some ⟨pb, 0, none⟩), u1, u2, .int .i64 bq, u4, u5, u6, .int .i64 n, u8, u9, u10, u11, u12, u13, u14, u15, u16, u17, u18, u19, u20, u21, u22, u23, u24, u25, u26, u27, u28, u29, u30, u31, u32, u33, u34, u35, u36, u37, u38, u39, u40, u41, u42, u43, u44, u45, u46, u47, u48, u49, u50, u51, u52, u53, u54, u55, u56, u57, u58, u59, u60, u61, u62, u63, u64, u65, u66, u67, u68, u69, u70, u71, u72, u73, u74, u75, u76, u77, u78, u79, u80, u81, u82, u83, u84, u85, u86, u87, u88, u89, u90, u91, u92, u93, u94, u95, u96, u97, u98, u99, u100, u101, u102, u103, u104, u105, u106, u107, u108, u109, u110, u111, u112, u113, u114, u115, u116, u117, u118, u119, u120, u121, u122, u123, u124, u125, u126, u127, u128, u129, u130, u131, u132, u133, u134, u135, u136, u137, u138, u139, u140, u141, u142, u143, u144, u145, u146, u147, u148, u149, u150, u151, u152, u153, u154, u155, u156, u157, u158, u159, u160, u161, u162, u163, u164, u165, u166, u167, u168, u169, u170, u171, u172, u173, u174, u175, u176, u177, u178, u179, u180, u181, u182, u183, u184, u185, u186, u187, u188, u189, u190, u191, u192, u193, u194, u195, u196, u197, u198, u199, u200, u201, u202, u203, u204, u205, u206, u207, u208, u209, u210, u211, u212, u213, u214, u215, u216, u217, u218, u219, u220, u221, u222, u223, u224, u225, u226, u227, u228, u229, u230, u231, u232, u233, u234, u235, u236, u237, u238, u239, u240, u241, u242, u243, u244, u245, u246, u247, u248, u249, u250, u251, u252, u253, u254, u255, u256, u257, u258, u259, u260, u261, u262, u263, u264, u265, u266, u267, u268, u269, u270, u271, u272, u273, u274, u275, u276, u277, u278, u279, u280, u281, u282, u283, u284, u285, u286, u287, u288, u289, u290, u291, u292, u293, u294, u295, u296, u297, u298, u299, u300, u301, u302, u303, u304, u305, u306, u307, u308, u309, u310, u311, u312, u313, u314, u315, u316, u317, u318, u319, u320, u321, u322, u323, u324, u325, u326, u327, u328, u329, u330, u331, u332, u333, u334, u335, u336, u337, u338, u339, u340, u341, u342, u343, u344, u345, u346, u347, u348, u349, u350, u351, u352, u353, u354, u355, u356, u357, u358, u359, u360, u361, u362, u363, u364, u365, u366, u367, u368, u369, u370, u371], defers := [] } w := by
  have hfit := h.lx.hfit
  obtain ⟨A, c, c1, hAc⟩ := h.bs
  obtain ⟨rfl, rfl⟩ := hAc (by omega)
  have c2 := h.c2
  have c3 : w.cell? ⟨pb, 3, none⟩ = some (.int .i32 v) := by rw [h.lx.hpb.c_r, hra]
  have hbb : (bsp : Int) ≤ win.length := by omega
  have hbc : ¬ 1024 = bsp := by omega
  have hbc2 : ¬ bsp = 1024 := by omega
  have ga : (v == 65533) = false := by simpa using ha
  have fz := h.lx.hpb.frozen
  have c4 := h.lx.hpb.c_w
  have cl : w.cell? ⟨pb, 2087, none⟩ = some (.slice none 0 0) := by rw [h.lx.hpb.c_litBs, show p.litBs = .slice none 0 0 from hlit]
  have q1 := neq_nil
  have hwr : IntKind.u64.wrap (n : Int) = n := IntWalk.u64_in _ (by omega)
  have hwr2 : IntKind.u64.wrap ((bsp : Int) + n) = (bsp : Int) + n := IntWalk.u64_in _ (by omega)
  have HR := Lib.hid hR
  clear h hR hAc hra ha hlit
  conv => arg 2; whnf
  go_wp2_with fail
  go_quiet (fail)
  go_wp2_with fail
  exact HR.out _ _ ((Kept.refl _ _).drewN _) rfl


end Go.Proofs.YtolgahamfkaipaaFmt
