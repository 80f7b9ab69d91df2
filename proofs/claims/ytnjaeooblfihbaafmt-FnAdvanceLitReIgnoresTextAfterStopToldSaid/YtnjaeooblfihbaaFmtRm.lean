/-
  rune, in pieces: the input is at its end.
-/
import Derived.Test.YtnjaeooblfihbaaFmtRl
namespace Go.Proofs.YtnjaeooblfihbaaFmt
open Go.RowKit

/-- Whether the end was met, and the offset. -/
def ReOk (p : Pc) (b : Bool) : Prop := p.readEOF = .bool b ∧ ∃ o : Int, p.offs = .int .i64 o ∧ 0 ≤ o ∧ o ≤ 1000000000
/-- The parser behind the end of its input: the last rune was EOF. -/
def AtEof (w : World) (pb : Nat) (p : Pc) : Prop := PB w pb p ∧ p.r = .int .i32 1114112 ∧ p.w = .int .i64 1 ∧ ∃ A n c m b, p.bs = .slice A n c ∧ p.bsp = .int .u64 (m : Nat) ∧ n ≤ m ∧ m ≤ 1024 ∧ ReOk p b
/-- fill read nothing. -/
def Dry (w w' : World) (B pb rb : Nat) (p : Pc) (lit : Option (List UInt8)) : Prop :=
  Hid (∃ p2 A n c m b, PB w' pb p2 ∧ p2.side = p.side ∧ p2.bs = .slice A n c ∧ p2.bsp = .int .u64 (m : Nat) ∧ n ≤ m ∧ m ≤ 1024 ∧ ReOk p2 b ∧ Lt w' B pb p2 lit ∧ Kr B pb rb w w')

set_option maxRecDepth 1000000 in
set_option maxHeartbeats 6400000 in
theorem rn_eof (J : Nat → Act → World → Prop) (R : Ending → World → Prop) (K : Act → World → Prop) {w : World} {B pb rb : Nat} {p : Pc} (hp : PB w pb p) (hlt : pb < B) (lit : Option (List UInt8)) {A : Option Addr} {n c m : Nat} (hbs : p.bs = .slice A n c) (hbsp : p.bsp = .int .u64 m) (hnm : n ≤ m) (hm : m ≤ 1024)
    (hf : ∀ k, Calls Tryf.prog 26 #[.pointer (some ⟨pb, 0, none⟩)] (w.drewN k) fun e w' => e = .returned (.int .i64 0) ∧ Dry w w' B pb rb p lit) (bq : Int)
    (hR : ∀ w' p', AtEof w' pb p' → p'.side = ({ p with r := .int .i32 1114112, w := .int .i64 1 } : Pc).side → Lt w' B pb p' lit → Kr B pb rb w w' → R (.returned (.int .i32 1114112)) w')
    (u1 u2 u4 u5 u6 u7 u8 u9 u10 u11 u12 u13 u14 u15 u16 u17 u18 u19 u20 u21 u22 u23 u24 u25 u26 u27 u28 u29 u30 u31 u32 u33 u34 u35 u36 u37 u38 u39 u40 u41 u42 u43 u44 u45 u46 u47 u48 u49 u50 u51 u52 u53 u54 u55 u56 u57 u58 u59 u60 u61 u62 u63 u64 u65 u66 u67 u68 u69 u70 u71 u72 u73 u74 u75 u76 u77 u78 u79 u80 u81 u82 u83 u84 u85 u86 u87 u88 u89 u90 u91 u92 u93 u94 u95 u96 u97 u98 u99 u100 u101 u102 u103 u104 u105 u106 u107 u108 u109 u110 u111 u112 u113 u114 u115 u116 u117 u118 u119 u120 u121 u122 u123 u124 u125 u126 u127 u128 u129 u130 u131 u132 u133 u134 u135 u136 u137 u138 u139 u140 u141 u142 u143 u144 u145 u146 u147 u148 u149 u150 u151 u152 u153 u154 u155 u156 u157 u158 u159 u160 u161 u162 u163 u164 u165 u166 u167 u168 u169 u170 u171 u172 u173 u174 u175 u176 u177 u178 u179 u180 u181 u182 u183 u184 u185 u186 u187 u188 u189 u190 u191 u192 u193 u194 u195 u196 u197 u198 u199 u200 u201 u202 u203 u204 u205 u206 u207 u208 u209 u210 u211 u212 u213 u214 u215 u216 u217 u218 u219 u220 u221 u222 u223 u224 u225 u226 u227 u228 u229 u230 u231 u232 u233 u234 u235 u236 u237 u238 u239 u240 u241 u242 u243 u244 u245 u246 u247 u248 u249 u250 u251 u252 u253 u254 u255 u256 u257 u258 u259 u260 u261 u262 u263 u264 u265 u266 u267 u268 u269 u270 u271 u272 u273 u274 u275 u276 u277 u278 u279 u280 u281 u282 u283 u284 u285 u286 u287 u288 u289 u290 u291 u292 u293 u294 u295 u296 u297 u298 u299 u300 u301 u302 u303 u304 u305 u306 u307 u308 u309 u310 u311 u312 u313 u314 u315 u316 u317 u318 u319 u320 u321 u322 u323 u324 u325 u326 u327 u328 u329 u330 u331 u332 u333 u334 u335 u336 u337 u338 u339 u340 u341 u342 u343 u344 u345 u346 u347 u348 u349 u350 u351 u352 u353 u354 u355 u356 u357 u358 u359 u360 u361 u362 u363 u364 u365 u366 u367 u368 u369 u370 u371 : Value) : Code.wp Tryf.prog (hd (tl (tl (tl (tl (unscope (tl (Tryf.f22.body.getD .skip)))))))) (Exit.then K (jumps J (bodyPost Tryf.prog Tryf.f22 R))) { tmps := #[.pointer (some ⟨pb, 0, none⟩), u1, u2, .int .i64 bq, u4, u5, u6, u7, u8, u9, u10, u11, u12, u13, u14, u15, u16, u17, u18, u19, u20, u21, u22, u23, u24, u25, u26, u27, u28, u29, u30, u31, u32, u33, u34, u35, u36, u37, u38, u39, u40, u41, u42, u43, u44, u45, u46, u47, u48, u49, u50, u51, u52, u53, u54, u55, u56, u57, u58, u59, u60, u61, u62, u63, u64, u65, u66, u67, u68, u69, u70, u71, u72, u73, u74, u75, u76, u77, u78, u79, u80, u81, u82, u83, u84, u85, u86, u87, u88, u89, u90, u91, u92, u93, u94, u95, u96, u97, u98, u99, u100, u101, u102, u103, u104, u105, u106, u107, u108, u109, u110, u111, u112, u113, u114, u115, u116, u117, u118, u119, u120, u121, u122, u123, u124, u125, u126, u127, u128, u129, u130, u131, u132, u133, u134, u135, u136, u137, u138, u139, u140, u141, u142, u143, u144, u145, u146, u147, u148, u149, u150, u151, u152, u153, u154, u155, u156, u157, u158, u159, u160, u161, u162, u163, u164, u165, u166, u167, u168, u169, u170, u171, u172, u173, u174, u175, u176, u177, u178, u179, u180, u181, u182, u183, u184, u185, u186, u187, u188, u189, u190, u191, u192, u193, u194, u195, u196, u197, u198, u199, u200, u201, u202, u203, u204, u205, u206, u207, u208, u209, u210, u211, u212, u213, u214, u215, u216, u217, u218, u219, u220, u221, u222, u223, u224, u225, u226, u227, u228, u229, u230, u231, u232, u233, u234, u235, u236, u237, u238, u239, u240, u241, u242, u243, u244, u245, u246, u247, u248, u249, u250, u251, u252, u253, u254, u255, u256, u257, u258, u259, u260, u261, u262, u263, u264, u265, u266, u267, u268, u269, u270, u271, u272, u273, u274, u275, u276, u277, u278, u279, u280, u281, u282, u283, u284, u285, u286, u287, u288, u289, u290, u291, u292, u293, u294, u295, u296, u297, u298, u299, u300, u301, u302, u303, u304, u305, u306, u307, u308, u309, u310, u311, u312, u313, u314, u315, u316, u317, u318, u319, u320, u321, u322, u323, u324, u325, u326, u327, u328, u329, u330, u331, u332, u333, u334, u335, u336, u337, u338, u339, u340, u341, u342, u343, u344, u345, u346, u347, u348, u349, u350, u351, u352, u353, u354, u355, u356, u357, u358, u359, u360, u361, u362, u363, u364, u365, u366, u367, u368, u369, u370, u371], defers := [] } w := by
  have c1 : w.cell? ⟨pb, 1, none⟩ = some (.slice A n c) := by rw [hp.c_bs, hbs]
  have c2 : w.cell? ⟨pb, 2, none⟩ = some (.int .u64 m) := by rw [hp.c_bsp, hbsp]
  have hnl0 : decide (n ≤ m) = true := by simp; exact hnm
  have hwb : IntKind.u64.wrap (n : Int) = n := by rw [IntKind.wrap_u64]; omega
  have HF := Lib.hid hf; have HR := Lib.hid hR
  clear hf hR hp hbs hbsp
  conv => arg 2; whnf
  go_wp2_with fail
  refine wp_region_tail 12 (by kernel_rfl) (by kernel_rfl) ?_
  simp only [List.take_succ_cons, List.take_zero, List.drop_succ_cons, List.drop_zero]
  repeat still_step
  refine wpStill_nil ?_
  go_wp2_with (go_at_call 26; refine (HF.out 1).mono ?_; rintro e W2 ⟨rfl, hfp⟩; dsimp only; clear c1 c2 hnl0 hwb hnm hm; obtain ⟨p2, A2, n2, cc2, m2, b2, hp2, hs2, hbs2, hbsp2, hnm2, hm2, hre2, hl2, hk2⟩ := hfp.out; clear hfp; have c1 : W2.cell? ⟨pb, 1, none⟩ = some (.slice A2 n2 cc2) := (by rw [hp2.c_bs, hbs2]); have c2 := hp2.c_bsp; have c3 := hp2.c_r; have c4 := hp2.c_w; have fz : ∀ i, W2.frozen? ⟨pb, i, none⟩ = false := hp2.frozen; have HP2 := Lib.hid hp2; have HS2 := Lib.hid hs2; have HB2 := Lib.hid hbs2; have HBP2 := Lib.hid hbsp2; have HL2 := Lib.hid hl2; have HK2 := Lib.hid hk2; have HE2 := Lib.hid hre2; clear hp2 hs2 hbs2 hbsp2 hl2 hk2 hre2; by_cases hz : n2 = 0)
  · have hk : Kept [pb] W2 (((W2.setCell ⟨pb, 2, none⟩ (.int .u64 1)).setCell ⟨pb, 3, none⟩ (.int .i32 1114112)).setCell ⟨pb, 4, none⟩ (.int .i64 1)) := (((Kept.refl _ _).setCell (p := ⟨pb, 2, none⟩) (by simp) _).setCell (p := ⟨pb, 3, none⟩) (by simp) _).setCell (p := ⟨pb, 4, none⟩) (by simp) _
    refine HR.out _ { p2 with bsp := .int .u64 1, r := .int .i32 1114112, w := .int .i64 1 } ⟨((HP2.out.s_bsp _).s_r _).s_w _, rfl, rfl, A2, n2, cc2, 1, b2, HB2.out, rfl, by omega, by omega, HE2.out⟩ ?_ (HL2.out.kept hk (by simp; exact hlt) rfl rfl) (HK2.out.trans (Kr.of hk (by simp)))
    exact congrArg (fun q : Pc => ({ q with r := .int .i32 1114112, w := .int .i64 1 } : Pc)) HS2.out
  · have hk : Kept [pb] W2 ((W2.setCell ⟨pb, 3, none⟩ (.int .i32 1114112)).setCell ⟨pb, 4, none⟩ (.int .i64 1)) := ((Kept.refl _ _).setCell (p := ⟨pb, 3, none⟩) (by simp) _).setCell (p := ⟨pb, 4, none⟩) (by simp) _
    refine HR.out _ { p2 with r := .int .i32 1114112, w := .int .i64 1 } ⟨(HP2.out.s_r _).s_w _, rfl, rfl, A2, n2, cc2, m2, b2, HB2.out, HBP2.out, hnm2, hm2, HE2.out⟩ ?_ (HL2.out.kept hk (by simp; exact hlt) rfl rfl) (HK2.out.trans (Kr.of hk (by simp)))
    exact congrArg (fun q : Pc => ({ q with r := .int .i32 1114112, w := .int .i64 1 } : Pc)) HS2.out

end Go.Proofs.YtnjaeooblfihbaaFmt
