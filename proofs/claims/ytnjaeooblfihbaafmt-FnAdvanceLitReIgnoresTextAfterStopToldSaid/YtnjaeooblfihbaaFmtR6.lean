/-
  rune() on a backquote, where no backquote is open: it leaves no count of backslashes.
-/
import Derived.Test.YtnjaeooblfihbaaFmtSt
namespace Go.Proofs.YtnjaeooblfihbaaFmt
open Go.RowKit

/-- The end of the tail: what the stores have made. -/
theorem rn_tail_end6 {w w3 w4 : World} {B pb rb : Nat} {ea : Addr} {p p3 : Pc} {win rest u : List UInt8} {bsp : Nat} {offs : Int} {lit' : Option (List UInt8)} {x : UInt8} {R : Ending → World → Prop} (h : Md w B pb rb ea p win rest bsp offs u) (hB : 0 < B)
    (hp3 : PB w3 pb p3) (hk3 : Kb B pb w w3) (lq ls : Value) (lb : List Value) (e3 : p3 = { p with lastBquoteEsc := lq, litBs := ls, litBuf := lb }) (hl3 : Lt w3 B pb p3 lit')
    (hR : ∀ w' ls lb, Md w' B pb rb ea { p with r := .int .i32 x.toNat, w := .int .i64 1, lastBquoteEsc := lq, litBs := ls, litBuf := lb } win rest bsp offs u → Lt w' B pb { p with r := .int .i32 x.toNat, w := .int .i64 1, lastBquoteEsc := lq, litBs := ls, litBuf := lb } lit' → Kb B pb w w' → R (.returned (.int .i32 x.toNat)) w')
    (hw4 : w4 = (w3.setCell ⟨pb, 4, none⟩ (.int .i64 1)).setCell ⟨pb, 3, none⟩ (.int .i32 x.toNat)) : R (.returned (.int .i32 x.toNat)) w4 := by
  have hlt := h.lx.hlt
  have hk4 : Kept [pb] w3 w4 := by rw [hw4]; exact ((Kept.refl _ _).setCell (p := ⟨pb, 4, none⟩) (by simp) _).setCell (p := ⟨pb, 3, none⟩) (by simp) _
  have hp4 : PB w4 pb { p3 with w := .int .i64 1, r := .int .i32 x.toNat } := by rw [hw4]; exact (hp3.s_w _).s_r _
  have hkb : Kb B pb w w4 := hk3.trans (Kb.of hk4 (by simp))
  subst e3
  refine hR w4 ls lb ?_ ?_ hkb
  · have := h.step hkb hB hp4 0 (by have := h.hb; omega) rfl rfl rfl (by simpa using h.lx.hbsp) rfl rfl rfl
    simpa using this
  · cases lit' with
    | none => exact hl3
    | some l =>
      rcases hl3 with ⟨a1, a2, a3⟩ | ⟨g, cap, a1, a2, a3⟩
      · exact .inl ⟨a1, a2, a3⟩
      · exact .inr ⟨g, cap, a1, a2.kept hk4 (fun y hy hm => by cases hy; simp at hm; omega), a3⟩

set_option maxRecDepth 1000000 in
set_option maxHeartbeats 6400000 in
theorem rn_tail6 (K : Act → World → Prop) (J : Nat → Act → World → Prop) (R : Ending → World → Prop) {w : World} {B pb rb : Nat} {ea : Addr} {p : Pc} {win rest u : List UInt8} {bsp : Nat} {offs : Int} (h : Md w B pb rb ea p win rest bsp offs u) (hB : 0 < B) (lit : Option (List UInt8)) (hlit : Lt w B pb p lit) (hll : ∀ l ∈ lit, l.length ≤ 10000000000) (bq : Int)
    (hR : ∀ w' ls lb, Md w' B pb rb ea { p with r := .int .i32 96, w := .int .i64 1, lastBquoteEsc := .int .i64 bq, litBs := ls, litBuf := lb } win rest bsp offs u → Lt w' B pb { p with r := .int .i32 96, w := .int .i64 1, lastBquoteEsc := .int .i64 bq, litBs := ls, litBuf := lb } (lit.map (· ++ [96])) → Kb B pb w w' → R (.returned (.int .i32 96)) w')
    (u1 u2 u5 u6 u7 u8 u9 u10 u11 u12 u13 u14 u15 u16 u17 u18 u19 u20 u21 u22 u23 u24 u25 u26 u27 u28 u29 u30 u31 u32 u33 u34 u35 u36 u37 u38 u39 u40 u41 u42 u43 u44 u45 u46 u47 u48 u49 u50 u51 u52 u53 u54 u55 u56 u57 u58 u59 u60 u61 u62 u63 u64 u65 u66 u67 u68 u69 u70 u71 u72 u73 u74 u75 u76 u77 u78 u79 u80 u81 u82 u83 u84 u85 u86 u87 u88 u89 u90 u91 u92 u93 u94 u95 u96 u97 u98 u99 u100 u101 u102 u103 u104 u105 u106 u107 u108 u109 u110 u111 u112 u113 u114 u115 u116 u117 u118 u119 u120 u121 u122 u123 u124 u125 u126 u127 u128 u129 u130 u131 u132 u133 u134 u135 u136 u137 u138 u139 u140 u141 u142 u143 u144 u145 u146 u147 u148 u149 u150 u151 u152 u153 u154 u155 u156 u157 u158 u159 u160 u161 u162 u163 u164 u165 u166 u167 u168 u169 u170 u171 u172 u173 u174 u175 u176 u177 u178 u179 u180 u181 u182 u183 u184 u185 u186 u187 u188 u189 u190 u191 u192 u193 u194 u195 u196 u197 u198 u199 u200 u201 u202 u203 u204 u205 u206 u207 u208 u209 u210 u211 u212 u213 u214 u215 u216 u217 u218 u219 u220 u221 u222 u223 u224 u225 u226 u227 u228 u229 u230 u231 u232 u233 u234 u235 u236 u237 u238 u239 u240 u241 u242 u243 u244 u245 u246 u247 u248 u249 u250 u251 u252 u253 u254 u255 u256 u257 u258 u259 u260 u261 u262 u263 u264 u265 u266 u267 u268 u269 u270 u271 u272 u273 u274 u275 u276 u277 u278 u279 u280 u281 u282 u283 u284 u285 u286 u287 u288 u289 u290 u291 u292 u293 u294 u295 u296 u297 u298 u299 u300 u301 u302 u303 u304 u305 u306 u307 u308 u309 u310 u311 u312 u313 u314 u315 u316 u317 u318 u319 u320 u321 u322 u323 u324 u325 u326 u327 u328 u329 u330 u331 u332 u333 u334 u335 u336 u337 u338 u339 u340 u341 u342 u343 u344 u345 u346 u347 u348 u349 u350 u351 u352 u353 u354 u355 u356 u357 u358 u359 u360 u361 u362 u363 u364 u365 u366 u367 u368 u369 u370 u371 : Value) :
    Code.wp Tryf.prog (tl (tl (thn (tl (tl (hd (tl (tl (tl (tl (tl (unscope (tl (Tryf.f22.body.getD .skip)))))))))))))) (Exit.then K (jumps J (bodyPost Tryf.prog Tryf.f22 R))) { tmps := #[.pointer (some ⟨pb, 0, none⟩), u1, u2, .int .i64 bq, .int .u8 96, u5, u6, u7, u8, u9, u10, u11, u12, u13, u14, u15, u16, u17, u18, u19, u20, u21, u22, u23, u24, u25, u26, u27, u28, u29, u30, u31, u32, u33, u34, u35, u36, u37, u38, u39, u40, u41, u42, u43, u44, u45, u46, u47, u48, u49, u50, u51, u52, u53, u54, u55, u56, u57, u58, u59, u60, u61, u62, u63, u64, u65, u66, u67, u68, u69, u70, u71, u72, u73, u74, u75, u76, u77, u78, u79, u80, u81, u82, u83, u84, u85, u86, u87, u88, u89, u90, u91, u92, u93, u94, u95, u96, u97, u98, u99, u100, u101, u102, u103, u104, u105, u106, u107, u108, u109, u110, u111, u112, u113, u114, u115, u116, u117, u118, u119, u120, u121, u122, u123, u124, u125, u126, u127, u128, u129, u130, u131, u132, u133, u134, u135, u136, u137, u138, u139, u140, u141, u142, u143, u144, u145, u146, u147, u148, u149, u150, u151, u152, u153, u154, u155, u156, u157, u158, u159, u160, u161, u162, u163, u164, u165, u166, u167, u168, u169, u170, u171, u172, u173, u174, u175, u176, u177, u178, u179, u180, u181, u182, u183, u184, u185, u186, u187, u188, u189, u190, u191, u192, u193, u194, u195, u196, u197, u198, u199, u200, u201, u202, u203, u204, u205, u206, u207, u208, u209, u210, u211, u212, u213, u214, u215, u216, u217, u218, u219, u220, u221, u222, u223, u224, u225, u226, u227, u228, u229, u230, u231, u232, u233, u234, u235, u236, u237, u238, u239, u240, u241, u242, u243, u244, u245, u246, u247, u248, u249, u250, u251, u252, u253, u254, u255, u256, u257, u258, u259, u260, u261, u262, u263, u264, u265, u266, u267, u268, u269, u270, u271, u272, u273, u274, u275, u276, u277, u278, u279, u280, u281, u282, u283, u284, u285, u286, u287, u288, u289, u290, u291, u292, u293, u294, u295, u296, u297, u298, u299, u300, u301, u302, u303, u304, u305, u306, u307, u308, u309, u310, u311, u312, u313, u314, u315, u316, u317, u318, u319, u320, u321, u322, u323, u324, u325, u326, u327, u328, u329, u330, u331, u332, u333, u334, u335, u336, u337, u338, u339, u340, u341, u342, u343, u344, u345, u346, u347, u348, u349, u350, u351, u352, u353, u354, u355, u356, u357, u358, u359, u360, u361, u362, u363, u364, u365, u366, u367, u368, u369, u370, u371], defers := [] } w := by
  have hlt := h.lx.hlt
  have hp := h.lx.hpb
  have fz : ∀ i, w.frozen? ⟨pb, i, none⟩ = false := hp.frozen
  obtain ⟨lqv, clq⟩ : ∃ v, w.cell? ⟨pb, 32, none⟩ = some v := ⟨_, hp.c_lastBquoteEsc⟩
  obtain ⟨wv, cw4⟩ : ∃ v, w.cell? ⟨pb, 4, none⟩ = some v := ⟨_, hp.c_w⟩
  obtain ⟨rv, cr3⟩ : ∃ v, w.cell? ⟨pb, 3, none⟩ = some v := ⟨_, hp.c_r⟩
  have cl := hp.c_litBs
  have q1 := neq_nil
  have H := Lib.hid h; have HLIT := Lib.hid hlit; have HLL := Lib.hid hll; have HR := Lib.hid hR
  clear h hlit hll hR hp
  conv => arg 2; whnf
  cases lit with
  | none =>
    have hl0 : p.litBs = .slice none 0 0 := HLIT.out
    rw [hl0] at cl
    have HL0 := Lib.hid hl0
    clear hl0
    go_wp2_with fail
    exact rn_tail_end6 (x := 96) H.out hB (lit' := none) (p3 := { p with lastBquoteEsc := .int .i64 bq }) (H.out.lx.hpb.s_lastBquoteEsc (.int .i64 bq)) (Kb.of ((Kept.refl [pb] w).setCell (p := ⟨pb, 32, none⟩) (by simp) (.int .i64 bq)) (by simp)) _ _ _ rfl HL0.out HR.out rfl
  | some l =>
    have hl3 : Lt (w.setCell ⟨pb, 32, none⟩ (.int .i64 bq)) B pb { p with lastBquoteEsc := .int .i64 bq } (some l) := HLIT.out.kept ((Kept.refl [pb] w).setCell (p := ⟨pb, 32, none⟩) (by simp) (.int .i64 bq)) (by simp; exact hlt) rfl rfl
    have hsz : (w.setCell ⟨pb, 32, none⟩ (.int .i64 bq)).heap.size = w.heap.size := by simp [World.setCell]
    have hBW : B ≤ (w.setCell ⟨pb, 32, none⟩ (.int .i64 bq)).heap.size := by rw [hsz]; exact H.out.lx.hrd.lt.2
    have hlll : l.length + 1 ≤ 100000000000 := by have := HLL.out l rfl; omega
    obtain ⟨lA, ln', lc, hlv⟩ : ∃ A n c, p.litBs = .slice (some A) n c := by
      rcases HLIT.out with ⟨a1, _, _⟩ | ⟨g, cap, a1, _, _⟩
      · exact ⟨_, _, _, a1⟩
      · exact ⟨_, _, _, a1⟩
    rw [hlv] at cl
    have HL3 := Lib.hid hl3; have HSZ := Lib.hid hsz; have HBW := Lib.hid hBW; have HLV := Lib.hid hlv
    clear hl3 hsz hBW hlv
    go_wp2_with (at_builtin; refine wpList_lit (w := (w.setCell ⟨pb, 32, none⟩ (.int .i64 bq))) rfl _ _ rfl HL3.out (H.out.lx.hpb.s_lastBquoteEsc (.int .i64 bq)) hlt HBW.out (by exact HLV.out.symm) _ 96 _ HSZ.out rfl rfl hlll ?_; intro vA vn vc w3 p4 hp4 hlb hl4 hk4; have cl4 : w3.cell? ⟨pb, 2087, none⟩ = some p4.litBs := hp4.c_litBs; have fz4 : ∀ i, w3.frozen? ⟨pb, i, none⟩ = false := hp4.frozen; have c44 : w3.cell? ⟨pb, 4, none⟩ = some p4.w := hp4.c_w; have c43 : w3.cell? ⟨pb, 3, none⟩ = some p4.r := hp4.c_r; have HP4 := Lib.hid hp4; have HLB := Lib.hid hlb; have HL4 := Lib.hid hl4; have HK4 := Lib.hid hk4; clear hp4 hlb hl4 hk4)
    obtain ⟨lb, hlb⟩ := HLB.out
    refine rn_tail_end6 (x := 96) (w3 := w3.setCell ⟨pb, 2087, none⟩ (.slice (some vA) vn vc)) H.out hB (HP4.out.s_litBs (.slice (some vA) vn vc)) ((Kb.of ((Kept.refl [pb] w).setCell (p := ⟨pb, 32, none⟩) (by simp) (.int .i64 bq)) (by simp)).trans (HK4.out.trans (Kb.of ((Kept.refl [pb] _).setCell (p := ⟨pb, 2087, none⟩) (by simp) (.slice (some vA) vn vc)) (by simp)))) _ _ _ (by rw [hlb]) ?_ HR.out rfl
    exact HL4.out.kept ((Kept.refl [pb] _).setCell (p := ⟨pb, 2087, none⟩) (by simp) (.slice (some vA) vn vc)) (by simp; exact hlt) rfl rfl
/-- A backquote. -/
theorem rune_bq {w : World} {B pb rb : Nat} {ea : Addr} {p : Pc} {win rest u : List UInt8} {bsp : Nat} {offs : Int} (h : Md w B pb rb ea p win rest bsp offs u) (hB : 0 < B) (r wd ln col : Int) (hr : p.r = .int .i32 r) (hr' : r ≠ 1114112) (hwd : p.w = .int .i64 wd) (hw1 : 0 ≤ wd) (hw2 : wd ≤ 8) (hcol : p.col = .int .i64 col) (hc1 : 0 ≤ col) (hc2 : col ≤ 1000000000000) (hln : p.line = .int .i64 ln) (hl1 : 0 ≤ ln) (hl2 : ln ≤ 1000000000000) (lit : Option (List UInt8)) (hlit : Lt w B pb p lit) (hll : ∀ l ∈ lit, l.length ≤ 10000000000) 
    (hx : u[0]? = some 96) :
    Calls Tryf.prog 22 #[.pointer (some ⟨pb, 0, none⟩)] w fun e w' => e = .returned (.int .i32 96) ∧ ∃ p' win' rest' bsp' offs', Md w' B pb rb ea p' win' rest' bsp' offs' (u.drop 1) ∧ p'.lastBquoteEsc = .int .i64 0 ∧ p'.core = (p.ran 96 1 (lnOf r ln) (colOf r col wd)).core ∧ Lt w' B pb p' (lit.map (· ++ [96])) ∧ Kr B pb rb w w' := by
  refine rune_run h hB r wd ln col hr hwd hw1 hw2 hcol hc1 hc2 hln hl1 hl2 lit hlit _ ?_
  intro J v1 v2 v4 v5 v6 v7 v8 v9 v10 v11 v12 v13 v14 v15 v16 v17 v18 v19 v20 v21 v22 v23 v24 v25 v26 v27 v28 v29 v30 v31 v32 v33 v34 v35 v36 v37 v38 v39 v40 v41 v42 v43 v44 v45 v46 v47 v48 v49 v50 v51 v52 v53 v54 v55 v56 v57 v58 v59 v60 v61 v62 v63 v64 v65 v66 v67 v68 v69 v70 v71 v72 v73 v74 v75 v76 v77 v78 v79 v80 v81 v82 v83 v84 v85 v86 v87 v88 v89 v90 v91 v92 v93 v94 v95 v96 v97 v98 v99 v100 v101 v102 v103 v104 v105 v106 v107 v108 v109 v110 v111 v112 v113 v114 v115 v116 v117 v118 v119 v120 v121 v122 v123 v124 v125 v126 v127 v128 v129 v130 v131 v132 v133 v134 v135 v136 v137 v138 v139 v140 v141 v142 v143 v144 v145 v146 v147 v148 v149 v150 v151 v152 v153 v154 v155 v156 v157 v158 v159 v160 v161 v162 v163 v164 v165 v166 v167 v168 v169 v170 v171 v172 v173 v174 v175 v176 v177 v178 v179 v180 v181 v182 v183 v184 v185 v186 v187 v188 v189 v190 v191 v192 v193 v194 v195 v196 v197 v198 v199 v200 v201 v202 v203 v204 v205 v206 v207 v208 v209 v210 v211 v212 v213 v214 v215 v216 v217 v218 v219 v220 v221 v222 v223 v224 v225 v226 v227 v228 v229 v230 v231 v232 v233 v234 v235 v236 v237 v238 v239 v240 v241 v242 v243 v244 v245 v246 v247 v248 v249 v250 v251 v252 v253 v254 v255 v256 v257 v258 v259 v260 v261 v262 v263 v264 v265 v266 v267 v268 v269 v270 v271 v272 v273 v274 v275 v276 v277 v278 v279 v280 v281 v282 v283 v284 v285 v286 v287 v288 v289 v290 v291 v292 v293 v294 v295 v296 v297 v298 v299 v300 v301 v302 v303 v304 v305 v306 v307 v308 v309 v310 v311 v312 v313 v314 v315 v316 v317 v318 v319 v320 v321 v322 v323 v324 v325 v326 v327 v328 v329 v330 v331 v332 v333 v334 v335 v336 v337 v338 v339 v340 v341 v342 v343 v344 v345 v346 v347 v348 v349 v350 v351 v352 v353 v354 v355 v356 v357 v358 v359 v360 v361 v362 v363 v364 v365 v366 v367 v368 v369 v370 v371 w2 h2 hl2' hk2 _
  refine rn_take J _ h2 hB r hr hr' lit hl2' 96 hx (by decide) 0 ?_ _ _ _ _ _ _ _ _ _ _ _ _ _ _ _ _ _ _ _ _ _ _ _ _ _ _ _ _ _ _ _ _ _ _ _ _ _ _ _ _ _ _ _ _ _ _ _ _ _ _ _ _ _ _ _ _ _ _ _ _ _ _ _ _ _ _ _ _ _ _ _ _ _ _ _ _ _ _ _ _ _ _ _ _ _ _ _ _ _ _ _ _ _ _ _ _ _ _ _ _ _ _ _ _ _ _ _ _ _ _ _ _ _ _ _ _ _ _ _ _ _ _ _ _ _ _ _ _ _ _ _ _ _ _ _ _ _ _ _ _ _ _ _ _ _ _ _ _ _ _ _ _ _ _ _ _ _ _ _ _ _ _ _ _ _ _ _ _ _ _ _ _ _ _ _ _ _ _ _ _ _ _ _ _ _ _ _ _ _ _ _ _ _ _ _ _ _ _ _ _ _ _ _ _ _ _ _ _ _ _ _ _ _ _ _ _ _ _ _ _ _ _ _ _ _ _ _ _ _ _ _ _ _ _ _ _ _ _ _ _ _ _ _ _ _ _ _ _ _ _ _ _ _ _ _ _ _ _ _ _ _ _ _ _ _ _ _ _ _ _ _ _ _ _ _ _ _ _ _ _ _ _ _ _ _ _ _ _ _ _ _ _ _ _ _ _ _ _ _ _ _ _ _ _ _ _ _ _ _ _ _ _ _ _ _ _ _ _ _ _ _ _ _ _ _ _ _ _ _ _ _ _ _ _ _ _ _ _ _ _ _ _ _ _ _ _ _ _ _ _ _ _ _ _ _ _ _ _ _ _ _ _ _ _ _ _ _ _ _ _
  intro K v1 v2 v5 v6 v7 v8 v9 v10 v11 v12 v13 v14 v15 v16 v17 v18 v19 v20 v21 v22 v23 v24 v25 v26 v27 v28 v29 v30 v31 v32 v33 v34 v35 v36 v37 v38 v39 v40 v41 v42 v43 v44 v45 v46 v47 v48 v49 v50 v51 v52 v53 v54 v55 v56 v57 v58 v59 v60 v61 v62 v63 v64 v65 v66 v67 v68 v69 v70 v71 v72 v73 v74 v75 v76 v77 v78 v79 v80 v81 v82 v83 v84 v85 v86 v87 v88 v89 v90 v91 v92 v93 v94 v95 v96 v97 v98 v99 v100 v101 v102 v103 v104 v105 v106 v107 v108 v109 v110 v111 v112 v113 v114 v115 v116 v117 v118 v119 v120 v121 v122 v123 v124 v125 v126 v127 v128 v129 v130 v131 v132 v133 v134 v135 v136 v137 v138 v139 v140 v141 v142 v143 v144 v145 v146 v147 v148 v149 v150 v151 v152 v153 v154 v155 v156 v157 v158 v159 v160 v161 v162 v163 v164 v165 v166 v167 v168 v169 v170 v171 v172 v173 v174 v175 v176 v177 v178 v179 v180 v181 v182 v183 v184 v185 v186 v187 v188 v189 v190 v191 v192 v193 v194 v195 v196 v197 v198 v199 v200 v201 v202 v203 v204 v205 v206 v207 v208 v209 v210 v211 v212 v213 v214 v215 v216 v217 v218 v219 v220 v221 v222 v223 v224 v225 v226 v227 v228 v229 v230 v231 v232 v233 v234 v235 v236 v237 v238 v239 v240 v241 v242 v243 v244 v245 v246 v247 v248 v249 v250 v251 v252 v253 v254 v255 v256 v257 v258 v259 v260 v261 v262 v263 v264 v265 v266 v267 v268 v269 v270 v271 v272 v273 v274 v275 v276 v277 v278 v279 v280 v281 v282 v283 v284 v285 v286 v287 v288 v289 v290 v291 v292 v293 v294 v295 v296 v297 v298 v299 v300 v301 v302 v303 v304 v305 v306 v307 v308 v309 v310 v311 v312 v313 v314 v315 v316 v317 v318 v319 v320 v321 v322 v323 v324 v325 v326 v327 v328 v329 v330 v331 v332 v333 v334 v335 v336 v337 v338 v339 v340 v341 v342 v343 v344 v345 v346 v347 v348 v349 v350 v351 v352 v353 v354 v355 v356 v357 v358 v359 v360 v361 v362 v363 v364 v365 v366 v367 v368 v369 v370 v371 w3 p3 win3 rest3 bsp3 offs3 h3 hs3 hl3 hk3 _
  refine wp_seq (then_then ?_)
  refine rn_sw_plain _ _ _ 96 (by decide) (by decide) (by decide) 0 ?_ _ _ _ _ _ _ _ _ _ _ _ _ _ _ _ _ _ _ _ _ _ _ _ _ _ _ _ _ _ _ _ _ _ _ _ _ _ _ _ _ _ _ _ _ _ _ _ _ _ _ _ _ _ _ _ _ _ _ _ _ _ _ _ _ _ _ _ _ _ _ _ _ _ _ _ _ _ _ _ _ _ _ _ _ _ _ _ _ _ _ _ _ _ _ _ _ _ _ _ _ _ _ _ _ _ _ _ _ _ _ _ _ _ _ _ _ _ _ _ _ _ _ _ _ _ _ _ _ _ _ _ _ _ _ _ _ _ _ _ _ _ _ _ _ _ _ _ _ _ _ _ _ _ _ _ _ _ _ _ _ _ _ _ _ _ _ _ _ _ _ _ _ _ _ _ _ _ _ _ _ _ _ _ _ _ _ _ _ _ _ _ _ _ _ _ _ _ _ _ _ _ _ _ _ _ _ _ _ _ _ _ _ _ _ _ _ _ _ _ _ _ _ _ _ _ _ _ _ _ _ _ _ _ _ _ _ _ _ _ _ _ _ _ _ _ _ _ _ _ _ _ _ _ _ _ _ _ _ _ _ _ _ _ _ _ _ _ _ _ _ _ _ _ _ _ _ _ _ _ _ _ _ _ _ _ _ _ _ _ _ _ _ _ _ _ _ _ _ _ _ _ _ _ _ _ _ _ _ _ _ _ _ _ _ _ _ _ _ _ _ _ _ _ _ _ _ _ _ _ _ _ _ _ _ _ _ _ _ _ _ _ _ _ _ _ _ _ _ _ _ _ _ _ _ _ _ _ _ _ _ _ _ _ _ _ _ _ _ _
  intro v1 v2 v5 v6 v7 v8 v9 v10 v11 v12 v13 v14 v15 v16 v17 v18 v19 v20 v21 v22 v23 v24 v25 v26 v27 v28 v29 v30 v31 v32 v33 v34 v35 v36 v37 v38 v39 v40 v41 v42 v43 v44 v45 v46 v47 v48 v49 v50 v51 v52 v53 v54 v55 v56 v57 v58 v59 v60 v61 v62 v63 v64 v65 v66 v67 v68 v69 v70 v71 v72 v73 v74 v75 v76 v77 v78 v79 v80 v81 v82 v83 v84 v85 v86 v87 v88 v89 v90 v91 v92 v93 v94 v95 v96 v97 v98 v99 v100 v101 v102 v103 v104 v105 v106 v107 v108 v109 v110 v111 v112 v113 v114 v115 v116 v117 v118 v119 v120 v121 v122 v123 v124 v125 v126 v127 v128 v129 v130 v131 v132 v133 v134 v135 v136 v137 v138 v139 v140 v141 v142 v143 v144 v145 v146 v147 v148 v149 v150 v151 v152 v153 v154 v155 v156 v157 v158 v159 v160 v161 v162 v163 v164 v165 v166 v167 v168 v169 v170 v171 v172 v173 v174 v175 v176 v177 v178 v179 v180 v181 v182 v183 v184 v185 v186 v187 v188 v189 v190 v191 v192 v193 v194 v195 v196 v197 v198 v199 v200 v201 v202 v203 v204 v205 v206 v207 v208 v209 v210 v211 v212 v213 v214 v215 v216 v217 v218 v219 v220 v221 v222 v223 v224 v225 v226 v227 v228 v229 v230 v231 v232 v233 v234 v235 v236 v237 v238 v239 v240 v241 v242 v243 v244 v245 v246 v247 v248 v249 v250 v251 v252 v253 v254 v255 v256 v257 v258 v259 v260 v261 v262 v263 v264 v265 v266 v267 v268 v269 v270 v271 v272 v273 v274 v275 v276 v277 v278 v279 v280 v281 v282 v283 v284 v285 v286 v287 v288 v289 v290 v291 v292 v293 v294 v295 v296 v297 v298 v299 v300 v301 v302 v303 v304 v305 v306 v307 v308 v309 v310 v311 v312 v313 v314 v315 v316 v317 v318 v319 v320 v321 v322 v323 v324 v325 v326 v327 v328 v329 v330 v331 v332 v333 v334 v335 v336 v337 v338 v339 v340 v341 v342 v343 v344 v345 v346 v347 v348 v349 v350 v351 v352 v353 v354 v355 v356 v357 v358 v359 v360 v361 v362 v363 v364 v365 v366 v367 v368 v369 v370 v371
  refine rn_tail6 K _ _ h3 hB lit hl3 hll 0 ?_ _ _ _ _ _ _ _ _ _ _ _ _ _ _ _ _ _ _ _ _ _ _ _ _ _ _ _ _ _ _ _ _ _ _ _ _ _ _ _ _ _ _ _ _ _ _ _ _ _ _ _ _ _ _ _ _ _ _ _ _ _ _ _ _ _ _ _ _ _ _ _ _ _ _ _ _ _ _ _ _ _ _ _ _ _ _ _ _ _ _ _ _ _ _ _ _ _ _ _ _ _ _ _ _ _ _ _ _ _ _ _ _ _ _ _ _ _ _ _ _ _ _ _ _ _ _ _ _ _ _ _ _ _ _ _ _ _ _ _ _ _ _ _ _ _ _ _ _ _ _ _ _ _ _ _ _ _ _ _ _ _ _ _ _ _ _ _ _ _ _ _ _ _ _ _ _ _ _ _ _ _ _ _ _ _ _ _ _ _ _ _ _ _ _ _ _ _ _ _ _ _ _ _ _ _ _ _ _ _ _ _ _ _ _ _ _ _ _ _ _ _ _ _ _ _ _ _ _ _ _ _ _ _ _ _ _ _ _ _ _ _ _ _ _ _ _ _ _ _ _ _ _ _ _ _ _ _ _ _ _ _ _ _ _ _ _ _ _ _ _ _ _ _ _ _ _ _ _ _ _ _ _ _ _ _ _ _ _ _ _ _ _ _ _ _ _ _ _ _ _ _ _ _ _ _ _ _ _ _ _ _ _ _ _ _ _ _ _ _ _ _ _ _ _ _ _ _ _ _ _ _ _ _ _ _ _ _ _ _ _ _ _ _ _ _ _ _ _ _ _ _ _ _ _ _ _ _ _ _ _ _ _ _ _ _ _ _ _ _
  intro w' ls lb h4 hl4 hk4
  exact ⟨rfl, _, _, _, _, _, h4, rfl, core_mk (p := { p with line := .int .i64 (lnOf r ln), col := .int .i64 (colOf r col wd) }) hs3 rfl rfl (.int .i64 0) ls lb, hl4, (hk2.trans hk3).trans hk4.kr⟩



theorem rune_s96 {w : World} {B pb rb : Nat} {ea : Addr} {q : Pc} {r : Int} {u : List UInt8} {lit : Option (List UInt8)} {k : Nat} (h : LexS w B pb rb ea q r (96 :: u) lit k) (hk : k ≤ 1000000) (hB : 0 < B) (hr : r ≠ 1114112) :
    Calls Tryf.prog 22 #[.pointer (some ⟨pb, 0, none⟩)] w fun e w' => e = .returned (.int .i32 96) ∧ LexS w' B pb rb ea q 96 u (lit.map (· ++ [96])) k ∧ Kr B pb rb w w' ∧ w'.cell? ⟨pb, 32, none⟩ = some (.int .i64 0) := by
  obtain ⟨p, wd, ln, col, hb, h1, h2, h3, h4, h5, w1, w2, w3, l1, l2, c1, c2, b1, b2, b3, hl, hll, ⟨_, win, rest, bsp, offs, hm⟩ | ⟨he, _⟩⟩ := h
  · simp only [List.length_cons] at l2 c2 hll
    refine (rune_bq hm hB r wd ln col h1 hr h2 w1 (by omega) h4 c1 (by omega) h3 l1 (by omega) lit hl (fun l hl => by have := hll l hl; omega) rfl).mono ?_
    rintro e w' ⟨rfl, p', win', rest', bsp', offs', hm', hq', hc', hl', hk'⟩
    have hln : lnOf r ln ≤ ln + 1 ∧ 0 ≤ lnOf r ln := by unfold lnOf; split <;> omega
    have hcl : colOf r col wd ≤ col + wd ∧ 0 ≤ colOf r col wd := by unfold colOf; split <;> omega
    have hm2 : Md w' B pb rb ea p' win' rest' bsp' offs' u := hm'
    refine ⟨rfl, ⟨p', 1, lnOf r ln, colOf r col wd, (base_of_core hc').trans hb, congrArg Pc.r hc', congrArg Pc.w hc', congrArg Pc.line hc', congrArg Pc.col hc', (congrArg Pc.openBquotes hc').trans h5, by omega, by omega, fun _ _ => rfl, hln.2, by omega, by omega, by omega, b1, b2, hm2.lx.hrd.lt.2, hl', ?_, .inl ⟨by decide, win', rest', bsp', offs', hm2⟩⟩, hk', by rw [hm2.lx.hpb.c_lastBquoteEsc, hq']⟩
    intro l hl
    cases lit with
    | none => cases hl
    | some l0 =>
      have := hll l0 rfl
      simp only [Option.map_some, Option.mem_def, Option.some.injEq] at hl
      rw [← hl, List.length_append]
      simp; omega
  · exact absurd he hr
end Go.Proofs.YtnjaeooblfihbaaFmt
