/-
  rune, in pieces: a rune of more than one byte goes to the literal: the replacement character itself.
-/
import Derived.Test.YtnjaeooblfihbaaFmtVe
namespace Go.Proofs.YtnjaeooblfihbaaFmt
open Go.RowKit

set_option maxRecDepth 1000000 in
set_option maxHeartbeats 6400000 in
theorem rn_c45_bl (J : Nat → Act → World → Prop) (R : Ending → World → Prop) {w : World} {B pb rb : Nat} {ea : Addr} {p : Pc} {win rest u : List UInt8} {bsp : Nat} {offs : Int} (h : Md w B pb rb ea p win rest bsp offs u) (lit : Option (List UInt8)) (hlit : Lt w B pb p lit) (hll : ∀ l ∈ lit, l.length ≤ 10000000000) (hbw : bsp < win.length) (hra : p.r = .int .i32 65533) {bs d' : List UInt8} (hd : win.drop bsp = bs ++ d') (n : Nat) (hbn : bs.length = n) (hn : n ≤ 4) (hn2 : 2 ≤ n) (bq : Int)
    (hF : ∀ w', Kept [] w w' → Calls Tryf.prog 31 #[.slice (some ⟨pb, 39 + bsp, none⟩) (win.length - bsp) (1024 - bsp)] w' fun e w'' => e = .returned (.bool true) ∧ Kept [] w' w'')
    (hR : ∀ W W4 ls lb, PB W pb { p with litBs := ls, litBuf := lb } → Lt W B pb { p with litBs := ls, litBuf := lb } (lit.map (· ++ bs)) → Kb B pb w W → W4 = (W.setCell ⟨pb, 2, none⟩ (.int .u64 ((bsp : Int) + n))).setCell ⟨pb, 4, none⟩ (.int .i64 n) → R (.returned (.int .i32 65533)) W4)
    (u1 u2 u4 u5 u6 u8 u9 u10 u11 u12 u13 u14 u15 u16 u17 u18 u19 u20 u21 u22 u23 u24 u25 u26 u27 u28 u29 u30 u31 u32 u33 u34 u35 u36 u37 u38 u39 u40 u41 u42 u43 u44 u45 u46 u47 u48 u49 u50 u51 u52 u53 u54 u55 u56 u57 u58 u59 u60 u61 u62 u63 u64 u65 u66 u67 u68 u69 u70 u71 u72 u73 u74 u75 u76 u77 u78 u79 u80 u81 u82 u83 u84 u85 u86 u87 u88 u89 u90 u91 u92 u93 u94 u95 u96 u97 u98 u99 u100 u101 u102 u103 u104 u105 u106 u107 u108 u109 u110 u111 u112 u113 u114 u115 u116 u117 u118 u119 u120 u121 u122 u123 u124 u125 u126 u127 u128 u129 u130 u131 u132 u133 u134 u135 u136 u137 u138 u139 u140 u141 u142 u143 u144 u145 u146 u147 u148 u149 u150 u151 u152 u153 u154 u155 u156 u157 u158 u159 u160 u161 u162 u163 u164 u165 u166 u167 u168 u169 u170 u171 u172 u173 u174 u175 u176 u177 u178 u179 u180 u181 u182 u183 u184 u185 u186 u187 u188 u189 u190 u191 u192 u193 u194 u195 u196 u197 u198 u199 u200 u201 u202 u203 u204 u205 u206 u207 u208 u209 u210 u211 u212 u213 u214 u215 u216 u217 u218 u219 u220 u221 u222 u223 u224 u225 u226 u227 u228 u229 u230 u231 u232 u233 u234 u235 u236 u237 u238 u239 u240 u241 u242 u243 u244 u245 u246 u247 u248 u249 u250 u251 u252 u253 u254 u255 u256 u257 u258 u259 u260 u261 u262 u263 u264 u265 u266 u267 u268 u269 u270 u271 u272 u273 u274 u275 u276 u277 u278 u279 u280 u281 u282 u283 u284 u285 u286 u287 u288 u289 u290 u291 u292 u293 u294 u295 u296 u297 u298 u299 u300 u301 u302 u303 u304 u305 u306 u307 u308 u309 u310 u311 u312 u313 u314 u315 u316 u317 u318 u319 u320 u321 u322 u323 u324 u325 u326 u327 u328 u329 u330 u331 u332 u333 u334 u335 u336 u337 u338 u339 u340 u341 u342 u343 u344 u345 u346 u347 u348 u349 u350 u351 u352 u353 u354 u355 u356 u357 u358 u359 u360 u361 u362 u363 u364 u365 u366 u367 u368 u369 u370 u371 : Value) : Code.wp Tryf.prog (tl (tl (tl (tl (tl (tl (tl (tl (tl (unscope (tl (Tryf.f22.body.getD .skip)))))))))))) (jumps J (bodyPost Tryf.prog Tryf.f22 R)) { tmps := #[.pointer (some ⟨pb, 0, none⟩), u1, u2, .int .i64 bq, u4, u5, u6, .int .i64 n, u8, u9, u10, u11, u12, u13, u14, u15, u16, u17, u18, u19, u20, u21, u22, u23, u24, u25, u26, u27, u28, u29, u30, u31, u32, u33, u34, u35, u36, u37, u38, u39, u40, u41, u42, u43, u44, u45, u46, u47, u48, u49, u50, u51, u52, u53, u54, u55, u56, u57, u58, u59, u60, u61, u62, u63, u64, u65, u66, u67, u68, u69, u70, u71, u72, u73, u74, u75, u76, u77, u78, u79, u80, u81, u82, u83, u84, u85, u86, u87, u88, u89, u90, u91, u92, u93, u94, u95, u96, u97, u98, u99, u100, u101, u102, u103, u104, u105, u106, u107, u108, u109, u110, u111, u112, u113, u114, u115, u116, u117, u118, u119, u120, u121, u122, u123, u124, u125, u126, u127, u128, u129, u130, u131, u132, u133, u134, u135, u136, u137, u138, u139, u140, u141, u142, u143, u144, u145, u146, u147, u148, u149, u150, u151, u152, u153, u154, u155, u156, u157, u158, u159, u160, u161, u162, u163, u164, u165, u166, u167, u168, u169, u170, u171, u172, u173, u174, u175, u176, u177, u178, u179, u180, u181, u182, u183, u184, u185, u186, u187, u188, u189, u190, u191, u192, u193, u194, u195, u196, u197, u198, u199, u200, u201, u202, u203, u204, u205, u206, u207, u208, u209, u210, u211, u212, u213, u214, u215, u216, u217, u218, u219, u220, u221, u222, u223, u224, u225, u226, u227, u228, u229, u230, u231, u232, u233, u234, u235, u236, u237, u238, u239, u240, u241, u242, u243, u244, u245, u246, u247, u248, u249, u250, u251, u252, u253, u254, u255, u256, u257, u258, u259, u260, u261, u262, u263, u264, u265, u266, u267, u268, u269, u270, u271, u272, u273, u274, u275, u276, u277, u278, u279, u280, u281, u282, u283, u284, u285, u286, u287, u288, u289, u290, u291, u292, u293, u294, u295, u296, u297, u298, u299, u300, u301, u302, u303, u304, u305, u306, u307, u308, u309, u310, u311, u312, u313, u314, u315, u316, u317, u318, u319, u320, u321, u322, u323, u324, u325, u326, u327, u328, u329, u330, u331, u332, u333, u334, u335, u336, u337, u338, u339, u340, u341, u342, u343, u344, u345, u346, u347, u348, u349, u350, u351, u352, u353, u354, u355, u356, u357, u358, u359, u360, u361, u362, u363, u364, u365, u366, u367, u368, u369, u370, u371], defers := [] } w := by
  have hfit := h.lx.hfit
  obtain ⟨A, c, c1, hAc⟩ := h.bs
  obtain ⟨rfl, rfl⟩ := hAc (by omega)
  have c2 := h.c2
  have c3 : w.cell? ⟨pb, 3, none⟩ = some (.int .i32 65533) := by rw [h.lx.hpb.c_r, hra]
  have hbb : (bsp : Int) ≤ win.length := by omega
  have hbc : ¬ 1024 = bsp := by omega
  have hbc2 : ¬ bsp = 1024 := by omega
  have hdn : bsp + n ≤ win.length := by have := congrArg List.length hd; simp at this; omega
  have hdn2 : (bsp : Int) + n ≤ 1024 := by omega
  have hnb : ¬ ((bsp : Int) + n < bsp) := by omega
  have fz := h.lx.hpb.frozen
  have c4 := h.lx.hpb.c_w
  have q1 := neq_nil
  have htn : ((bsp : Int) + n).toNat = bsp + n := by omega
  have hwr : IntKind.u64.wrap (n : Int) = n := IntWalk.u64_in _ (by omega)
  have hwr2 : IntKind.u64.wrap ((bsp : Int) + n) = (bsp : Int) + n := IntWalk.u64_in _ (by omega)
  have hcells : ∀ W, Kept [] w W → ∀ j z, bs[j]? = some z → W.cell? ((⟨pb, 39 + bsp, none⟩ : Addr).add j) = some (By z) := fun W k j z hj => by
    have hj2 := (List.getElem?_eq_some_iff.1 hj).1
    have c0 := win_cells h j z (by rw [hd, List.getElem?_append_left hj2]; exact hj)
    rw [addr_add]
    exact (k.cell (p := ⟨pb, 39 + bsp + j, none⟩) (block_lt_of_cell c0) (by simp)).trans c0
  have HCE := Lib.hid hcells; have HPB := Lib.hid h.lx.hpb; have HLIT := Lib.hid hlit; have HLL := Lib.hid hll; have HLT := Lib.hid h.lx.hlt; have HBW := Lib.hid h.lx.hrd.lt.2
  have HR := Lib.hid hR
  have hn1 : ((n : Int) == 1) = false := by simp; omega
  have cb2 : p.bsp = .int .u64 bsp := h.lx.hbsp
  have cbv : p.bs = .slice (some ⟨pb, 39, none⟩) win.length 1024 := by have := h.lx.hpb.c_bs; rw [c1] at this; exact (Option.some.inj this).symm
  have HBSV := Lib.hid cbv; have HBSP := Lib.hid cb2; have HRA := Lib.hid hra; have HBN := Lib.hid hbn; have HFF := Lib.hid hF
  cases lit with
  | none =>
    have hll0 : p.litBs = .slice none 0 0 := hlit
    have cl : w.cell? ⟨pb, 2087, none⟩ = some (.slice none 0 0) := by rw [h.lx.hpb.c_litBs, hll0]
    have HLV := Lib.hid hll0
    clear h hR hAc hra hlit hll hcells hd hll0 cb2 hbn cbv hF
    conv => arg 2; whnf
    go_wp2_with fail
    refine wp_region_tail 15 (by kernel_rfl) (by kernel_rfl) ?_
    simp only [List.take_succ_cons, List.take_zero, List.drop_succ_cons, List.drop_zero]
    repeat still_step
    refine wpStill_nil ?_
    go_wp2_with (go_at_call 31; refine (HFF.out _ ((Kept.refl [] w).drewN 1)).mono ?_; rintro e W1 ⟨rfl, hk1⟩; dsimp only; have kq : Kept [] w W1 := ((Kept.refl [] w).drewN 1).trans hk1; have hp1 := HPB.out.kept kq (by simp); have c1 := hp1.c_bs.trans (congrArg some HBSV.out); have c2 := hp1.c_bsp.trans (congrArg some HBSP.out); have c3 := hp1.c_r.trans (congrArg some HRA.out); have c4 := hp1.c_w; have cl := hp1.c_litBs.trans (congrArg some HLV.out); have fz := hp1.frozen; have KQ := Lib.hid kq; clear hk1 hp1 kq)
    exact HR.out _ _ p.litBs p.litBuf (HPB.out.kept KQ.out (by simp)) HLV.out (Kb.of KQ.out (by simp)) rfl
  | some l =>
    obtain ⟨lA, ln', lc, hlv⟩ := hlit.none_or
    have cl : w.cell? ⟨pb, 2087, none⟩ = some (.slice (some lA) ln' lc) := by rw [h.lx.hpb.c_litBs, hlv]
    have hl2 : l.length + n ≤ 100000000000 := by have := hll l rfl; omega
    have hpl : ∀ W, Kept [] w W → PB W pb p ∧ Lt W B pb p (some l) := fun W k => ⟨h.lx.hpb.kept k (by simp), hlit.kept k (by simp) rfl rfl⟩
    have HPL := Lib.hid hpl; have HL2 := Lib.hid hl2; have HLV := Lib.hid hlv
    clear h hR hAc hra hlit hll hcells hd cb2 hbn cbv hpl hl2 hlv hF
    conv => arg 2; whnf
    go_wp2_with fail
    refine wp_region_tail 15 (by kernel_rfl) (by kernel_rfl) ?_
    simp only [List.take_succ_cons, List.take_zero, List.drop_succ_cons, List.drop_zero]
    repeat still_step
    refine wpStill_nil ?_
    go_wp2_with (go_at_call 31; refine (HFF.out _ ((Kept.refl [] w).drewN 1)).mono ?_; rintro e W1 ⟨rfl, hk1⟩; dsimp only; have kq : Kept [] w W1 := ((Kept.refl [] w).drewN 1).trans hk1; have hp1 := HPB.out.kept kq (by simp); have c1 := hp1.c_bs.trans (congrArg some HBSV.out); have c2 := hp1.c_bsp.trans (congrArg some HBSP.out); have c3 := hp1.c_r.trans (congrArg some HRA.out); have c4 := hp1.c_w; have cl := hp1.c_litBs.trans (congrArg some HLV.out); have fz := hp1.frozen; have KQ := Lib.hid kq; clear hk1 hp1 kq)
    rw [← litLoad_eq]
    go_region_held_law (fun w' => w'.cell? ⟨pb, 1, none⟩ = some (.slice (some ⟨pb, 39, none⟩) win.length 1024) ∧ w'.cell? ⟨pb, 2, none⟩ = some (.int .u64 bsp)) (first | assumption | (exact ⟨S41.out _, S42.out _⟩) | go_keep) (first | (refine step_lit rfl _ _ rfl (y := bs) (HPL.out _ (by first | exact KQ.out.drew | exact (Kept.refl _ _).drew)) HLT.out (Nat.le_trans HBW.out (Kept.size (by first | exact KQ.out.drew | exact (Kept.refl _ _).drew))) (by exact HLV.out.symm) rfl HBN.out (by omega) (HCE.out _ (by first | exact KQ.out.drew | exact (Kept.refl _ _).drew)) HL2.out ?_; intro vA vn vc w3 p4 hp4 hlb hl4 hk4; have cl4 : w3.cell? ⟨pb, 2087, none⟩ = some p4.litBs := hp4.c_litBs; have fz4 : ∀ i, w3.frozen? ⟨pb, i, none⟩ = false := hp4.frozen; have c44 : w3.cell? ⟨pb, 4, none⟩ = some p4.w := hp4.c_w; have c43 : w3.cell? ⟨pb, 3, none⟩ = some p4.r := hp4.c_r; have c42 : w3.cell? ⟨pb, 2, none⟩ = some p4.bsp := hp4.c_bsp; have S41 := Lib.hid (show ∀ v, (w3.setCell ⟨pb, 2087, none⟩ v).cell? ⟨pb, 1, none⟩ = some (.slice (some ⟨pb, 39, none⟩) win.length 1024) from fun v => (hp4.s_litBs v).c_bs.trans (by obtain ⟨lb, rfl⟩ := hlb; exact congrArg some HBSV.out)); have S42 := Lib.hid (show ∀ v, (w3.setCell ⟨pb, 2087, none⟩ v).cell? ⟨pb, 2, none⟩ = some (.int .u64 bsp) from fun v => (hp4.s_litBs v).c_bsp.trans (by obtain ⟨lb, rfl⟩ := hlb; exact congrArg some HBSP.out)); have c41 : w3.cell? ⟨pb, 1, none⟩ = some p4.bs := hp4.c_bs; rw [show p4.bs = .slice (some ⟨pb, 39, none⟩) win.length 1024 from (by obtain ⟨lb, rfl⟩ := hlb; exact HBSV.out)] at c41; rw [show p4.bsp = .int .u64 bsp from (by obtain ⟨lb, rfl⟩ := hlb; exact HBSP.out)] at c42; rw [show p4.r = .int .i32 65533 from (by obtain ⟨lb, rfl⟩ := hlb; exact HRA.out)] at c43; have HP4 := Lib.hid hp4; have HLB := Lib.hid hlb; have HL4 := Lib.hid hl4; have HK4 := Lib.hid hk4; clear hp4 hlb hl4 hk4))
    go_wp2_with fail
    obtain ⟨lb, hlb⟩ := HLB.out
    have e4 : ({ p4 with litBs := .slice (some vA) vn vc } : Pc) = { p with litBs := .slice (some vA) vn vc, litBuf := lb } := by rw [hlb]
    have k5 : Kept [pb] w3 (w3.setCell ⟨pb, 2087, none⟩ (.slice (some vA) vn vc)) := (Kept.refl _ _).setCell (p := ⟨pb, 2087, none⟩) (by simp) _
    refine HR.out (w3.setCell ⟨pb, 2087, none⟩ (.slice (some vA) vn vc)) _ (.slice (some vA) vn vc) lb ?_ ?_ ?_ rfl
    · rw [← e4]; exact HP4.out.s_litBs _
    · rw [← e4]; exact HL4.out.kept k5 (by simp; exact HLT.out) rfl rfl
    · exact (Kb.of KQ.out.drew (by simp)).trans (HK4.out.trans (Kb.of k5 (by simp)))

end Go.Proofs.YtnjaeooblfihbaaFmt
