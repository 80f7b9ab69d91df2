/-
  rune, in pieces: bytes that are no rune: what is wanted.
-/
import Derived.Test.YtolgahamfkaipaaFmtTa
import Derived.Test.YtolgahamfkaipaaFmtMe
import Derived.BigQuiet
import Derived.IntWalk
namespace Go.Proofs.YtolgahamfkaipaaFmt
section
open Go.RowKit Go.Extern.Stop Go.Stop Go.Extern

/-- The parser can tell an error: none was told, its file node is there, fmt answers by F. -/
structure Er (w : World) (pb rb fb : Nat) (F : Interp) (p : Pc) : Prop where
  herr : p.err = .nilIface
  htok : p.tok = .int .u32 0
  hf : p.f = .pointer (some ⟨fb, 0, none⟩)
  n1 : fb ≠ pb
  n2 : fb ≠ rb
  cf : ∃ nm, w.cell? ⟨fb, 0, none⟩ = some (.string nm)
  hF : F.answers w.tape
  hw : ∃ wd : Int, p.w = .int .i64 wd ∧ 0 ≤ wd ∧ wd ≤ 8
  hln : ∃ ln : Int, p.line = .int .i64 ln ∧ 0 ≤ ln ∧ ln ≤ 1000000000100
  hcl : ∃ cl : Int, p.col = .int .i64 cl ∧ 0 ≤ cl ∧ cl ≤ 1000000000100
theorem Er.kept {w w' : World} {pb rb fb : Nat} {F : Interp} {p q : Pc} {S : List Nat} (h : Er w pb rb fb F p) (k : Kept S w w') (hS : fb ∉ S) (hs : q.side = p.side) : Er w' pb rb fb F q where
  herr := (congrArg Pc.err hs).trans h.herr
  htok := (congrArg Pc.tok hs).trans h.htok
  hf := (congrArg Pc.f hs).trans h.hf
  n1 := h.n1
  n2 := h.n2
  cf := by obtain ⟨nm, c⟩ := h.cf; exact ⟨nm, (k.cell (p := ⟨fb, 0, none⟩) (block_lt_of_cell c) hS).trans c⟩
  hF := by have := h.hF; rw [← k.tape] at this; exact this
  hw := by obtain ⟨v, e, r⟩ := h.hw; exact ⟨v, (congrArg Pc.w hs).trans e, r⟩
  hln := by obtain ⟨v, e, r⟩ := h.hln; exact ⟨v, (congrArg Pc.line hs).trans e, r⟩
  hcl := by obtain ⟨v, e, r⟩ := h.hcl; exact ⟨v, (congrArg Pc.col hs).trans e, r⟩
theorem Er.bsp {w : World} {pb rb fb : Nat} {F : Interp} {p : Pc} (h : Er w pb rb fb F p) (v : Value) : Er w pb rb fb F { p with bsp := v } := ⟨h.herr, h.htok, h.hf, h.n1, h.n2, h.cf, h.hF, h.hw, h.hln, h.hcl⟩
theorem Er.r {w : World} {pb rb fb : Nat} {F : Interp} {p : Pc} (h : Er w pb rb fb F p) (v : Value) : Er w pb rb fb F { p with r := v } := ⟨h.herr, h.htok, h.hf, h.n1, h.n2, h.cf, h.hF, h.hw, h.hln, h.hcl⟩

theorem np_er {w : World} {pb rb fb : Nat} {F : Interp} {p : Pc} (hp : PB w pb p) (he : Er w pb rb fb F p) {o b : Int} (h12 : p.offs = .int .i64 o) (h2 : p.bsp = .int .u64 b) (o1 : 0 ≤ o) (o2 : o ≤ 1000000000) (b1 : 0 ≤ b) (b2 : b ≤ 100000) :
    Calls Tryf.prog 44 #[.pointer (some ⟨pb, 0, none⟩)] w fun e w' => (∃ x y, e = .returned (.agg #[.int .u32 x, .int .u32 y])) ∧ Kept [] w w' := by
  obtain ⟨wd, h4, d1, d2⟩ := he.hw
  obtain ⟨ln, h13, l1, l2⟩ := he.hln
  obtain ⟨cl, h14, k1, k2⟩ := he.hcl
  exact nextpos_any hp o b wd ln cl h12 h2 h4 h13 h14 o1 o2 b1 b2 d1 d2 l1 l2 k1 k2
/-- The error's mark. -/
def Pc.bad (p : Pc) (v b : Value) : Pc := { p with err := v, bsp := b, r := .int .i32 1114112, w := .int .i64 1, tok := .int .u32 1 }
theorem pe_er {w : World} {pb rb fb : Nat} {F : Interp} {p : Pc} (hp : PB w pb p) (he : Er w pb rb fb F p) {A : Option Addr} {n c : Nat} (hbs : p.bs = .slice A n c) (hn : n ≤ 100000) (x y : Int) :
    Calls Tryf.prog 43 #[.pointer (some ⟨pb, 0, none⟩), .agg #[.int .u32 x, .int .u32 y], (.string ⟨#[105, 110, 118, 97, 108, 105, 100, 32, 85, 84, 70, 45, 56, 32, 101, 110, 99, 111, 100, 105, 110, 103]⟩), .slice none 0 0] w fun e w' => e = .returned (.tuple #[]) ∧ (∃ v b, PB w' pb (p.bad v b)) ∧ Kept [pb] w w' := by
  obtain ⟨nm, cf⟩ := he.cf
  refine (poserr hp he.herr hbs hn he.htok he.hf cf F he.hF he.n1 x y).mono ?_
  rintro e w' ⟨rfl, ⟨v, h⟩, k⟩
  exact ⟨rfl, ⟨v, _, h⟩, k⟩
theorem md_bs {w : World} {B pb rb : Nat} {ea : Addr} {p : Pc} {win rest u : List UInt8} {bsp : Nat} {offs : Int} (h : Md w B pb rb ea p win rest bsp offs u) : ∃ A c, p.bs = .slice A win.length c := by
  rcases h.lx.hbs with h1 | ⟨h1, h2⟩
  · exact ⟨_, _, h1⟩
  · exact ⟨none, 0, by rw [h1, h2]; rfl⟩
theorem np_md {w : World} {B pb rb : Nat} {ea : Addr} {p : Pc} {win rest u : List UInt8} {bsp : Nat} {offs : Int} (h : Md w B pb rb ea p win rest bsp offs u) {fb : Nat} {F : Interp} (he : Er w pb rb fb F p) (W1 W2 : World) (k1 : Kept [] w W1) (k2 : Kept [] (W1.setCell ⟨pb, 2, none⟩ (.int .u64 ((bsp : Int) + 1))) W2) :
    Calls Tryf.prog 44 #[.pointer (some ⟨pb, 0, none⟩)] W2 fun e w' => (∃ x y, e = .returned (.agg #[.int .u32 x, .int .u32 y])) ∧ Kept [] (W1.setCell ⟨pb, 2, none⟩ (.int .u64 ((bsp : Int) + 1))) w' := by
  have hfit := h.lx.hfit
  have hb := h.hb
  have ho1 := h.ho1
  have ho2 := h.ho2
  have hp2 : PB W2 pb { p with bsp := .int .u64 ((bsp : Int) + 1) } := ((h.lx.hpb.kept k1 (by simp)).s_bsp _).kept k2 (by simp)
  have k3 : Kept [pb] w W2 := (k1.weaken (S' := [pb]) (by simp)).trans (((Kept.refl [pb] W1).setCell (p := ⟨pb, 2, none⟩) (by simp) _).trans (k2.weaken (by simp)))
  have he2 := (he.kept k3 (by simp; exact he.n1) rfl).bsp (.int .u64 ((bsp : Int) + 1))
  refine (np_er hp2 he2 h.hoffs rfl ho1 (by omega) (by omega) (by omega)).mono ?_
  rintro e w' ⟨hx, k⟩
  exact ⟨hx, k2.trans k⟩
theorem pe_md {w : World} {B pb rb : Nat} {ea : Addr} {p : Pc} {win rest u : List UInt8} {bsp : Nat} {offs : Int} (h : Md w B pb rb ea p win rest bsp offs u) {fb : Nat} {F : Interp} (he : Er w pb rb fb F p) (W1 W2 : World) (k1 : Kept [] w W1) (k2 : Kept [] (W1.setCell ⟨pb, 2, none⟩ (.int .u64 ((bsp : Int) + 1))) W2) (x y : Int) :
    Calls Tryf.prog 43 #[.pointer (some ⟨pb, 0, none⟩), .agg #[.int .u32 x, .int .u32 y], (.string ⟨#[105, 110, 118, 97, 108, 105, 100, 32, 85, 84, 70, 45, 56, 32, 101, 110, 99, 111, 100, 105, 110, 103]⟩), .slice none 0 0] W2 fun e w' => e = .returned (.tuple #[]) ∧ (∃ v b, PB w' pb (p.bad v b)) ∧ Kept [pb] w w' := by
  have hfit := h.lx.hfit
  obtain ⟨A, c, hbs⟩ := md_bs h
  have hp2 : PB W2 pb { p with bsp := .int .u64 ((bsp : Int) + 1) } := ((h.lx.hpb.kept k1 (by simp)).s_bsp _).kept k2 (by simp)
  have k3 : Kept [pb] w W2 := (k1.weaken (S' := [pb]) (by simp)).trans (((Kept.refl [pb] W1).setCell (p := ⟨pb, 2, none⟩) (by simp) _).trans (k2.weaken (by simp)))
  have he2 := (he.kept k3 (by simp; exact he.n1) rfl).bsp (.int .u64 ((bsp : Int) + 1))
  refine (pe_er hp2 he2 hbs (by omega) x y).mono ?_
  rintro e w' ⟨rfl, ⟨v, b, hh⟩, k⟩
  exact ⟨rfl, ⟨v, b, hh⟩, k3.trans k⟩


end
section
open Go.RowKit Go.Extern.Stop Go.Stop Go.Extern

set_option maxRecDepth 1000000 in
set_option maxHeartbeats 6400000 in
theorem rn_c45_d1 (J : Nat → Act → World → Prop) (R : Ending → World → Prop) {w : World} {B pb rb : Nat} {ea : Addr} {p : Pc} {win rest u : List UInt8} {bsp : Nat} {offs : Int} (h : Md w B pb rb ea p win rest bsp offs u) (hB : 0 < B) (hlit : Lt w B pb p none) (hbw : bsp < win.length) (hra : p.r = .int .i32 65533) {fb : Nat} {F : Interp} (he : Er w pb rb fb F p) (bq : Int)
    (hF : ∀ w', Kept [] w w' → Calls Tryf.prog 42 #[.slice (some ⟨pb, 39 + bsp, none⟩) (win.length - bsp) (1024 - bsp)] w' fun e w'' => e = .returned (.bool true) ∧ Kept [] w' w'')
    (hR : ∀ W p', PB W pb p' → p'.r = .int .i32 1114112 → p'.col = p.col → p'.lang = p.lang → p'.quote = p.quote → Kept [pb] w W → R (.returned (.int .i32 1114112)) W)
    (u1 u2 u4 u5 u6 u8 u9 u10 u11 u12 u13 u14 u15 u16 u17 u18 u19 u20 u21 u22 u23 u24 u25 u26 u27 u28 u29 u30 u31 u32 u33 u34 u35 u36 u37 u38 u39 u40 u41 u42 u43 u44 u45 u46 u47 u48 u49 u50 u51 u52 u53 u54 u55 u56 u57 u58 u59 u60 u61 u62 u63 u64 u65 u66 u67 u68 u69 u70 u71 u72 u73 u74 u75 u76 u77 u78 u79 u80 u81 u82 u83 u84 u85 u86 u87 u88 u89 u90 u91 u92 u93 u94 u95 u96 u97 u98 u99 u100 u101 u102 u103 u104 u105 u106 u107 u108 u109 u110 u111 u112 u113 u114 u115 u116 u117 u118 u119 u120 u121 u122 u123 u124 u125 u126 u127 u128 u129 u130 u131 u132 u133 u134 u135 u136 u137 u138 u139 u140 u141 u142 u143 u144 u145 u146 u147 u148 u149 u150 u151 u152 u153 u154 u155 u156 u157 u158 u159 u160 u161 u162 u163 u164 u165 u166 u167 u168 u169 u170 u171 u172 u173 u174 u175 u176 u177 u178 u179 u180 u181 u182 u183 u184 u185 u186 u187 u188 u189 u190 u191 u192 u193 u194 u195 u196 u197 u198 u199 u200 u201 u202 u203 u204 u205 u206 u207 u208 u209 u210 u211 u212 u213 u214 u215 u216 u217 u218 u219 u220 u221 u222 u223 u224 u225 u226 u227 u228 u229 u230 u231 u232 u233 u234 u235 u236 u237 u238 u239 u240 u241 u242 u243 u244 u245 u246 u247 u248 u249 u250 u251 u252 u253 u254 u255 u256 u257 u258 u259 u260 u261 u262 u263 u264 u265 u266 u267 u268 u269 u270 u271 u272 u273 u274 u275 u276 u277 u278 u279 u280 u281 u282 u283 u284 u285 u286 u287 u288 u289 u290 u291 u292 u293 u294 u295 u296 u297 u298 u299 u300 u301 u302 u303 u304 u305 u306 u307 u308 u309 u310 u311 u312 u313 u314 u315 u316 u317 u318 u319 u320 u321 u322 u323 u324 u325 u326 u327 u328 u329 u330 u331 u332 u333 u334 u335 u336 u337 u338 u339 u340 u341 u342 u343 u344 u345 u346 u347 u348 u349 u350 u351 u352 u353 u354 u355 u356 u357 u358 u359 u360 u361 u362 u363 u364 u365 u366 u367 u368 u369 u370 u371 : Value) : Code.wp Tryf.prog (tl (tl (tl (tl (tl (tl (tl (tl (tl (unscope (tl (Tryf.f29.body.getD .skip)))))))))))) (jumps J (bodyPost Tryf.prog Tryf.f29 R)) { tmps := #[.pointer (some ⟨pb, 0, none⟩), u1, u2, .int .i64 bq, u4, u5, u6, .int .i64 1, u8, u9, u10, u11, u12, u13, u14, u15, u16, u17, u18, u19, u20, u21, u22, u23, u24, u25, u26, u27, u28, u29, u30, u31, u32, u33, u34, u35, u36, u37, u38, u39, u40, u41, u42, u43, u44, u45, u46, u47, u48, u49, u50, u51, u52, u53, u54, u55, u56, u57, u58, u59, u60, u61, u62, u63, u64, u65, u66, u67, u68, u69, u70, u71, u72, u73, u74, u75, u76, u77, u78, u79, u80, u81, u82, u83, u84, u85, u86, u87, u88, u89, u90, u91, u92, u93, u94, u95, u96, u97, u98, u99, u100, u101, u102, u103, u104, u105, u106, u107, u108, u109, u110, u111, u112, u113, u114, u115, u116, u117, u118, u119, u120, u121, u122, u123, u124, u125, u126, u127, u128, u129, u130, u131, u132, u133, u134, u135, u136, u137, u138, u139, u140, u141, u142, u143, u144, u145, u146, u147, u148, u149, u150, u151, u152, u153, u154, u155, u156, u157, u158, u159, u160, u161, u162, u163, u164, u165, u166, u167, u168, u169, u170, u171, u172, u173, u174, u175, u176, u177, u178, u179, u180, u181, u182, u183, u184, u185, u186, u187, u188, u189, u190, u191, u192, u193, u194, u195, u196, u197, u198, u199, u200, u201, u202, u203, u204, u205, u206, u207, u208, u209, u210, u211, u212, u213, u214, u215, u216, u217, u218, u219, u220, u221, u222, u223, u224, u225, u226, u227, u228, u229, u230, u231, u232, u233, u234, u235, u236, u237, u238, u239, u240, u241, u242, u243, u244, u245, u246, u247, u248, u249, u250, u251, u252, u253, u254, u255, u256, u257, u258, u259, u260, u261, u262, u263, u264, u265, u266, u267, u268, u269, u270, u271, u272, u273, u274, u275, u276, u277, u278, u279, u280, u281, u282, u283, u284, u285, u286, u287, u288, u289, u290, u291, u292, u293, u294, u295, u296, u297, u298, u299, u300, u301, u302, u303, u304, u305, u306, u307, u308, u309, u310, u311, u312, u313, u314, u315, u316, u317, u318, u319, u320, u321, u322, u323, u324, u325, u326, u327, u328, u329, u330, u331, u332, u333, u334, u335, u336, u337, u338, u339, u340, u341, u342, u343, u344, u345, u346, u347, u348, u349, u350, u351, u352, u353, u354, u355, u356, u357, u358, u359, u360, u361, u362, u363, u364, u365, u366, u367, u368, u369, u370, u371], defers := [] } w := by
  have hfit := h.lx.hfit
  obtain ⟨A, c, c1, hAc⟩ := h.bs
  obtain ⟨rfl, rfl⟩ := hAc (by omega)
  have c2 := h.c2
  have c3 : w.cell? ⟨pb, 3, none⟩ = some (.int .i32 65533) := by rw [h.lx.hpb.c_r, hra]
  have hbb : (bsp : Int) ≤ win.length := by omega
  have hbc : ¬ 1024 = bsp := by omega
  have hbc2 : ¬ bsp = 1024 := by omega
  have fz := h.lx.hpb.frozen
  have c4 := h.lx.hpb.c_w
  have cl : w.cell? ⟨pb, 2087, none⟩ = some (.slice none 0 0) := by rw [h.lx.hpb.c_litBs, show p.litBs = .slice none 0 0 from hlit]
  have q1 := neq_nil
  have hwr : IntKind.u64.wrap (1 : Int) = 1 := IntWalk.u64_in _ (by omega)
  have hwr2 : IntKind.u64.wrap ((bsp : Int) + 1) = (bsp : Int) + 1 := IntWalk.u64_in _ (by omega)
  have HR := Lib.hid hR; have HFF := Lib.hid hF; have H := Lib.hid h; have HE := Lib.hid he; have PL := Lib.hid (show p.litBs = .slice none 0 0 from hlit); have PR := Lib.hid hra
  clear h hR hAc hra hlit hF he
  conv => arg 2; whnf
  go_wp2_with fail
  refine wp_region_tail 15 (by kernel_rfl) (by kernel_rfl) ?_
  simp only [List.take_succ_cons, List.take_zero, List.drop_succ_cons, List.drop_zero]
  repeat still_step
  refine wpStill_nil ?_
  go_wp2_with (first | (go_at_call 42; refine (HFF.out _ ((Kept.refl [] w).drewN 1)).mono ?_; rintro e W1 ⟨rfl, hk1⟩; dsimp only; have h1 := md_k0 H.out hB (((Kept.refl [] w).drewN 1).trans hk1); have c2 := h1.c2; have c3 : W1.cell? ⟨pb, 3, none⟩ = some (.int .i32 65533) := h1.lx.hpb.c_r.trans (by rw [PR.out]); have c4 := h1.lx.hpb.c_w; have cl : W1.cell? ⟨pb, 2087, none⟩ = some (.slice none 0 0) := h1.lx.hpb.c_litBs.trans (by rw [PL.out]); have fz := h1.lx.hpb.frozen; have K1 := Lib.hid (((Kept.refl [] w).drewN 1).trans hk1); clear h1 hk1) | (go_at_call 44; refine (np_md H.out HE.out W1 _ K1.out (by first | exact Kept.refl _ _ | exact (Kept.refl _ _).drew | exact (Kept.refl _ _).drewN _ | exact ((Kept.refl _ _).drew).drew)).mono ?_; rintro e W5 ⟨⟨x, y, rfl⟩, hk5⟩; dsimp only; have K5 := Lib.hid hk5; clear hk5) | (go_at_call 43; refine (pe_md H.out HE.out W1 _ K1.out (by first | exact K5.out | exact K5.out.drew | exact K5.out.drewN _) _ _).mono ?_; rintro e W6 ⟨rfl, ⟨v6, b6, hp6⟩, hk6⟩; dsimp only; have c3 := hp6.c_r; have c4 := hp6.c_w; have fz := hp6.frozen; have HP6 := Lib.hid hp6; have K6 := Lib.hid hk6; clear hp6 hk6))
  have c5 := HP6.out.s_w (.int .i64 1)
  exact HR.out _ _ c5 rfl rfl rfl rfl (K6.out.setCell (p := ⟨pb, 4, none⟩) (by simp) _)


end
section
open Go.RowKit Go.Extern.Stop Go.Stop Go.Extern

set_option maxRecDepth 1000000 in
set_option maxHeartbeats 6400000 in
theorem rn_c45_d2 (J : Nat → Act → World → Prop) (R : Ending → World → Prop) {w : World} {B pb rb : Nat} {ea : Addr} {p : Pc} {win rest u : List UInt8} {bsp : Nat} {offs : Int} (h : Md w B pb rb ea p win rest bsp offs u) (hB : 0 < B) (hlit : Lt w B pb p none) (hbw : bsp < win.length) (hra : p.r = .int .i32 65533) (hl5 : win.length - bsp < 4) (hrest : rest = []) {fb : Nat} {F : Interp} (he : Er w pb rb fb F p) (bq : Int)
    (hF : ∀ w', Kept [] w w' → Calls Tryf.prog 42 #[.slice (some ⟨pb, 39 + bsp, none⟩) (win.length - bsp) (1024 - bsp)] w' fun e w'' => e = .returned (.bool false) ∧ Kept [] w' w'')
    (hR : ∀ W p', PB W pb p' → p'.r = .int .i32 1114112 → p'.col = p.col → p'.lang = p.lang → p'.quote = p.quote → Kept [rb, pb] w W → R (.returned (.int .i32 1114112)) W)
    (u1 u2 u4 u5 u6 u8 u9 u10 u11 u12 u13 u14 u15 u16 u17 u18 u19 u20 u21 u22 u23 u24 u25 u26 u27 u28 u29 u30 u31 u32 u33 u34 u35 u36 u37 u38 u39 u40 u41 u42 u43 u44 u45 u46 u47 u48 u49 u50 u51 u52 u53 u54 u55 u56 u57 u58 u59 u60 u61 u62 u63 u64 u65 u66 u67 u68 u69 u70 u71 u72 u73 u74 u75 u76 u77 u78 u79 u80 u81 u82 u83 u84 u85 u86 u87 u88 u89 u90 u91 u92 u93 u94 u95 u96 u97 u98 u99 u100 u101 u102 u103 u104 u105 u106 u107 u108 u109 u110 u111 u112 u113 u114 u115 u116 u117 u118 u119 u120 u121 u122 u123 u124 u125 u126 u127 u128 u129 u130 u131 u132 u133 u134 u135 u136 u137 u138 u139 u140 u141 u142 u143 u144 u145 u146 u147 u148 u149 u150 u151 u152 u153 u154 u155 u156 u157 u158 u159 u160 u161 u162 u163 u164 u165 u166 u167 u168 u169 u170 u171 u172 u173 u174 u175 u176 u177 u178 u179 u180 u181 u182 u183 u184 u185 u186 u187 u188 u189 u190 u191 u192 u193 u194 u195 u196 u197 u198 u199 u200 u201 u202 u203 u204 u205 u206 u207 u208 u209 u210 u211 u212 u213 u214 u215 u216 u217 u218 u219 u220 u221 u222 u223 u224 u225 u226 u227 u228 u229 u230 u231 u232 u233 u234 u235 u236 u237 u238 u239 u240 u241 u242 u243 u244 u245 u246 u247 u248 u249 u250 u251 u252 u253 u254 u255 u256 u257 u258 u259 u260 u261 u262 u263 u264 u265 u266 u267 u268 u269 u270 u271 u272 u273 u274 u275 u276 u277 u278 u279 u280 u281 u282 u283 u284 u285 u286 u287 u288 u289 u290 u291 u292 u293 u294 u295 u296 u297 u298 u299 u300 u301 u302 u303 u304 u305 u306 u307 u308 u309 u310 u311 u312 u313 u314 u315 u316 u317 u318 u319 u320 u321 u322 u323 u324 u325 u326 u327 u328 u329 u330 u331 u332 u333 u334 u335 u336 u337 u338 u339 u340 u341 u342 u343 u344 u345 u346 u347 u348 u349 u350 u351 u352 u353 u354 u355 u356 u357 u358 u359 u360 u361 u362 u363 u364 u365 u366 u367 u368 u369 u370 u371 : Value) : Code.wp Tryf.prog (tl (tl (tl (tl (tl (tl (tl (tl (tl (unscope (tl (Tryf.f29.body.getD .skip)))))))))))) (jumps J (bodyPost Tryf.prog Tryf.f29 R)) { tmps := #[.pointer (some ⟨pb, 0, none⟩), u1, u2, .int .i64 bq, u4, u5, u6, .int .i64 1, u8, u9, u10, u11, u12, u13, u14, u15, u16, u17, u18, u19, u20, u21, u22, u23, u24, u25, u26, u27, u28, u29, u30, u31, u32, u33, u34, u35, u36, u37, u38, u39, u40, u41, u42, u43, u44, u45, u46, u47, u48, u49, u50, u51, u52, u53, u54, u55, u56, u57, u58, u59, u60, u61, u62, u63, u64, u65, u66, u67, u68, u69, u70, u71, u72, u73, u74, u75, u76, u77, u78, u79, u80, u81, u82, u83, u84, u85, u86, u87, u88, u89, u90, u91, u92, u93, u94, u95, u96, u97, u98, u99, u100, u101, u102, u103, u104, u105, u106, u107, u108, u109, u110, u111, u112, u113, u114, u115, u116, u117, u118, u119, u120, u121, u122, u123, u124, u125, u126, u127, u128, u129, u130, u131, u132, u133, u134, u135, u136, u137, u138, u139, u140, u141, u142, u143, u144, u145, u146, u147, u148, u149, u150, u151, u152, u153, u154, u155, u156, u157, u158, u159, u160, u161, u162, u163, u164, u165, u166, u167, u168, u169, u170, u171, u172, u173, u174, u175, u176, u177, u178, u179, u180, u181, u182, u183, u184, u185, u186, u187, u188, u189, u190, u191, u192, u193, u194, u195, u196, u197, u198, u199, u200, u201, u202, u203, u204, u205, u206, u207, u208, u209, u210, u211, u212, u213, u214, u215, u216, u217, u218, u219, u220, u221, u222, u223, u224, u225, u226, u227, u228, u229, u230, u231, u232, u233, u234, u235, u236, u237, u238, u239, u240, u241, u242, u243, u244, u245, u246, u247, u248, u249, u250, u251, u252, u253, u254, u255, u256, u257, u258, u259, u260, u261, u262, u263, u264, u265, u266, u267, u268, u269, u270, u271, u272, u273, u274, u275, u276, u277, u278, u279, u280, u281, u282, u283, u284, u285, u286, u287, u288, u289, u290, u291, u292, u293, u294, u295, u296, u297, u298, u299, u300, u301, u302, u303, u304, u305, u306, u307, u308, u309, u310, u311, u312, u313, u314, u315, u316, u317, u318, u319, u320, u321, u322, u323, u324, u325, u326, u327, u328, u329, u330, u331, u332, u333, u334, u335, u336, u337, u338, u339, u340, u341, u342, u343, u344, u345, u346, u347, u348, u349, u350, u351, u352, u353, u354, u355, u356, u357, u358, u359, u360, u361, u362, u363, u364, u365, u366, u367, u368, u369, u370, u371], defers := [] } w := by
  have HFILL : Hid (∀ (w' : World), Kept [] w w' → Calls Tryf.prog 37 #[.pointer (some ⟨pb, 0, none⟩)] w' fun e w2 => e = .returned (.int .i64 0) ∧ Kept [rb, pb] w w2 ∧ ∃ p2 win2 rest2 bsp2 offs2, Md w2 B pb rb ea p2 win2 rest2 bsp2 offs2 u ∧ p2.side = p.side ∧ bsp2 < win2.length) := Lib.hid (fun (w' : World) (k : Kept [] w w') => (fill_md (md_k0 h hB k) 65533 hra (by omega) (by omega)).mono (by
    rintro e w2 ⟨⟨n, rfl, hn⟩, hk2, p2, win2, rest2, bsp2, offs2, h2, hs2, hl2⟩
    have hn0 : n = 0 := hn.2 hrest
    subst hn0
    have hlen := h.len
    exact ⟨rfl, (k.weaken (S' := [rb, pb]) (by simp)).trans hk2, p2, win2, rest2, bsp2, offs2, h2, hs2, by omega⟩))
  have hfit := h.lx.hfit
  obtain ⟨A, c, c1, hAc⟩ := h.bs
  obtain ⟨rfl, rfl⟩ := hAc (by omega)
  have c2 := h.c2
  have c3 : w.cell? ⟨pb, 3, none⟩ = some (.int .i32 65533) := by rw [h.lx.hpb.c_r, hra]
  have hbb : (bsp : Int) ≤ win.length := by omega
  have hbc : ¬ 1024 = bsp := by omega
  have hbc2 : ¬ bsp = 1024 := by omega
  have fz := h.lx.hpb.frozen
  have c4 := h.lx.hpb.c_w
  have cl : w.cell? ⟨pb, 2087, none⟩ = some (.slice none 0 0) := by rw [h.lx.hpb.c_litBs, show p.litBs = .slice none 0 0 from hlit]
  have q1 := neq_nil
  have hwr : IntKind.u64.wrap (1 : Int) = 1 := IntWalk.u64_in _ (by omega)
  have hwr2 : IntKind.u64.wrap ((bsp : Int) + 1) = (bsp : Int) + 1 := IntWalk.u64_in _ (by omega)
  have HR := Lib.hid hR; have HFF := Lib.hid hF; have HE := Lib.hid he; have PL := Lib.hid (show p.litBs = .slice none 0 0 from hlit); have PR := Lib.hid hra
  have N1 := he.n1; have N2 := he.n2
  clear h hR hAc hra hlit hF he hrest
  conv => arg 2; whnf
  go_wp2_with fail
  refine wp_region_tail 15 (by kernel_rfl) (by kernel_rfl) ?_
  simp only [List.take_succ_cons, List.take_zero, List.drop_succ_cons, List.drop_zero]
  repeat still_step
  refine wpStill_nil ?_
  go_wp2_with (go_at_call 42; refine (HFF.out _ ((Kept.refl [] w).drewN 1)).mono ?_; rintro e W1 ⟨rfl, hk1⟩; dsimp only; have K1 := Lib.hid (((Kept.refl [] w).drewN 1).trans hk1); clear hk1)
  refine (HFILL.out _ K1.out).mono ?_
  rintro e W2 ⟨rfl, hk2, p2, win2, rest2, bsp2, offs2, h2, hs2, hb2⟩
  dsimp only
  have he2 := HE.out.kept hk2 (by simp; exact ⟨N2, N1⟩) hs2
  have hbsp2 : IntKind.u64.wrap ((bsp2 : Int) + 1) = (bsp2 : Int) + 1 := IntWalk.u64_in _ (by have := h2.lx.hfit; omega)
  have c2 := h2.c2
  have c3 : W2.cell? ⟨pb, 3, none⟩ = some (.int .i32 65533) := h2.lx.hpb.c_r.trans (by rw [show p2.r = p.r from (by have q := congrArg Pc.r hs2; exact q), PR.out])
  have c4 := h2.lx.hpb.c_w
  have cl : W2.cell? ⟨pb, 2087, none⟩ = some (.slice none 0 0) := h2.lx.hpb.c_litBs.trans (by rw [show p2.litBs = p.litBs from (by have q := congrArg Pc.litBs hs2; exact q), PL.out])
  have fz := h2.lx.hpb.frozen
  have H2 := Lib.hid h2
  have HE2 := Lib.hid he2
  have HS2 := Lib.hid hs2
  have K2 := Lib.hid hk2
  clear h2 he2 hs2 hk2 hb2
  go_wp2_with (first | (go_at_call 44; refine (np_md H2.out HE2.out W2 _ (Kept.refl [] W2) (by first | exact Kept.refl _ _ | exact (Kept.refl _ _).drew | exact (Kept.refl _ _).drewN _ | exact ((Kept.refl _ _).drew).drew)).mono ?_; rintro e W5 ⟨⟨x, y, rfl⟩, hk5⟩; dsimp only; have K5 := Lib.hid hk5; clear hk5) | (go_at_call 43; refine (pe_md H2.out HE2.out W2 _ (Kept.refl [] W2) (by first | exact K5.out | exact K5.out.drew | exact K5.out.drewN _) _ _).mono ?_; rintro e W6 ⟨rfl, ⟨v6, b6, hp6⟩, hk6⟩; dsimp only; have c3 := hp6.c_r; have c4 := hp6.c_w; have fz := hp6.frozen; have HP6 := Lib.hid hp6; have K6 := Lib.hid hk6; clear hp6 hk6))
  have c5 := HP6.out.s_w (.int .i64 1)
  exact HR.out _ _ c5 rfl (by have q := congrArg Pc.col HS2.out; exact q) (by have q := congrArg Pc.lang HS2.out; exact q) (by have q := congrArg Pc.quote HS2.out; exact q) (K2.out.trans ((K6.out.setCell (p := ⟨pb, 4, none⟩) (by simp) _).weaken (by simp)))


end
end Go.Proofs.YtolgahamfkaipaaFmt
