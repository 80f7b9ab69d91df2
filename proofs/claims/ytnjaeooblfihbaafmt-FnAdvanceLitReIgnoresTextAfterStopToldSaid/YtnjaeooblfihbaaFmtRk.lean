/-
  rune, in pieces: the code's parts by name; its tail: the byte goes to the literal, and becomes the rune.
-/
import Derived.Test.YtnjaeooblfihbaaFmtRa
import Derived.Test.YtnjaeooblfihbaaFmtScp
import Derived.WalkMore
import Derived.Deep.RegionWith
import Derived.BigCall
import Derived.BigGuard
namespace Go.Proofs.YtnjaeooblfihbaaFmt
open Go.RowKit

def hd : Code → Code
  | .seq a _ => a
  | c => c
def tl : Code → Code
  | .seq _ b => b
  | c => c
def unscope : Code → Code
  | .scope c => c
  | c => c
def thn : Code → Code
  | .cond _ t _ => t
  | c => c
def unblock : Code → Code
  | .block _ c => c
  | c => c

/-- Only the parser, its reader and blocks from B on may have turned. -/
def Kr (B pb rb : Nat) (w w' : World) : Prop := ∃ S, Kept S w w' ∧ ∀ x ∈ S, x = pb ∨ x = rb ∨ B ≤ x
theorem Kr.of {B pb rb : Nat} {a b : World} {S : List Nat} (h : Kept S a b) (hS : ∀ x ∈ S, x = pb ∨ x = rb ∨ B ≤ x) : Kr B pb rb a b := ⟨S, h, hS⟩
theorem Kr.refl (B pb rb : Nat) (w : World) : Kr B pb rb w w := ⟨[], Kept.refl _ _, by simp⟩
theorem Kb.kr {B pb rb : Nat} {a b : World} (h : Kb B pb a b) : Kr B pb rb a b := by
  obtain ⟨S, h1, h2⟩ := h
  exact ⟨S, h1, fun x hx => (h2 x hx).imp id .inr⟩
theorem Kr.trans {B pb rb : Nat} {a b c : World} (h : Kr B pb rb a b) (k : Kr B pb rb b c) : Kr B pb rb a c := by
  obtain ⟨S, h1, h2⟩ := h
  obtain ⟨S', k1, k2⟩ := k
  refine ⟨S ++ S', (h1.weaken (by simp; intro x hx; exact .inl (.inl hx))).trans (k1.weaken (by simp; intro x hx; exact .inl (.inr hx))), fun x hx => ?_⟩
  rcases List.mem_append.1 hx with h | h
  · exact h2 x h
  · exact k2 x h

theorem neq_nil (a : Option Addr) (n c : Nat) (w : World) : (binOp .neq 22 (.slice a n c) (.slice none 0 0)).run Tryf.prog w = .ok (.bool (!a.isNone)) w := run_neq_slice_nil_any w _ _ a n c 0 0 u8_und

/-- The end of the tail: what the stores have made. -/
theorem rn_tail_end {w w3 w4 : World} {B pb rb : Nat} {ea : Addr} {p p3 : Pc} {win rest u : List UInt8} {bsp : Nat} {offs : Int} {lit' : Option (List UInt8)} {x : UInt8} {R : Ending → World → Prop} (h : Md w B pb rb ea p win rest bsp offs u) (hB : 0 < B)
    (hp3 : PB w3 pb p3) (hk3 : Kb B pb w w3) (lq ls : Value) (lb : List Value) (e3 : p3 = { p with lastBquoteEsc := lq, litBs := ls, litBuf := lb }) (hl3 : Lt w3 B pb p3 lit')
    (hR : ∀ w' lq ls lb, Md w' B pb rb ea { p with r := .int .i32 x.toNat, w := .int .i64 1, lastBquoteEsc := lq, litBs := ls, litBuf := lb } win rest bsp offs u → Lt w' B pb { p with r := .int .i32 x.toNat, w := .int .i64 1, lastBquoteEsc := lq, litBs := ls, litBuf := lb } lit' → Kb B pb w w' → R (.returned (.int .i32 x.toNat)) w')
    (hw4 : w4 = (w3.setCell ⟨pb, 4, none⟩ (.int .i64 1)).setCell ⟨pb, 3, none⟩ (.int .i32 x.toNat)) : R (.returned (.int .i32 x.toNat)) w4 := by
  have hlt := h.lx.hlt
  have hk4 : Kept [pb] w3 w4 := by rw [hw4]; exact ((Kept.refl _ _).setCell (p := ⟨pb, 4, none⟩) (by simp) _).setCell (p := ⟨pb, 3, none⟩) (by simp) _
  have hp4 : PB w4 pb { p3 with w := .int .i64 1, r := .int .i32 x.toNat } := by rw [hw4]; exact (hp3.s_w _).s_r _
  have hkb : Kb B pb w w4 := hk3.trans (Kb.of hk4 (by simp))
  subst e3
  refine hR w4 lq ls lb ?_ ?_ hkb
  · have := h.step hkb hB hp4 0 (by have := h.hb; omega) rfl rfl rfl (by simpa using h.lx.hbsp) rfl rfl rfl
    simpa using this
  · cases lit' with
    | none => exact hl3
    | some l =>
      rcases hl3 with ⟨a1, a2, a3⟩ | ⟨g, cap, a1, a2, a3⟩
      · exact .inl ⟨a1, a2, a3⟩
      · exact .inr ⟨g, cap, a1, a2.kept hk4 (fun y hy hm => by cases hy; simp at hm; omega), a3⟩

set_option maxRecDepth 1000000 in
set_option maxHeartbeats 6400000 in
theorem rn_tail (J : Nat → Act → World → Prop) (R : Ending → World → Prop) {w : World} {B pb rb : Nat} {ea : Addr} {p : Pc} {win rest u : List UInt8} {bsp : Nat} {offs : Int} (h : Md w B pb rb ea p win rest bsp offs u) (hB : 0 < B) (lit : Option (List UInt8)) (hlit : Lt w B pb p lit) (hll : ∀ l ∈ lit, l.length ≤ 10000000000) (x : UInt8) (hx1 : x.toNat < 128) (bq : Int)
    (hR : ∀ w' lq ls lb, Md w' B pb rb ea { p with r := .int .i32 x.toNat, w := .int .i64 1, lastBquoteEsc := lq, litBs := ls, litBuf := lb } win rest bsp offs u → Lt w' B pb { p with r := .int .i32 x.toNat, w := .int .i64 1, lastBquoteEsc := lq, litBs := ls, litBuf := lb } (lit.map (· ++ [x])) → Kb B pb w w' → R (.returned (.int .i32 x.toNat)) w')
    (u1 u2 u5 u6 u7 u8 u9 u10 u11 u12 u13 u14 u15 u16 u17 u18 u19 u20 u21 u22 u23 u24 u25 u26 u27 u28 u29 u30 u31 u32 u33 u34 u35 u36 u37 u38 u39 u40 u41 u42 u43 u44 u45 u46 u47 u48 u49 u50 u51 u52 u53 u54 u55 u56 u57 u58 u59 u60 u61 u62 u63 u64 u65 u66 u67 u68 u69 u70 u71 u72 u73 u74 u75 u76 u77 u78 u79 u80 u81 u82 u83 u84 u85 u86 u87 u88 u89 u90 u91 u92 u93 u94 u95 u96 u97 u98 u99 u100 u101 u102 u103 u104 u105 u106 u107 u108 u109 u110 u111 u112 u113 u114 u115 u116 u117 u118 u119 u120 u121 u122 u123 u124 u125 u126 u127 u128 u129 u130 u131 u132 u133 u134 u135 u136 u137 u138 u139 u140 u141 u142 u143 u144 u145 u146 u147 u148 u149 u150 u151 u152 u153 u154 u155 u156 u157 u158 u159 u160 u161 u162 u163 u164 u165 u166 u167 u168 u169 u170 u171 u172 u173 u174 u175 u176 u177 u178 u179 u180 u181 u182 u183 u184 u185 u186 u187 u188 u189 u190 u191 u192 u193 u194 u195 u196 u197 u198 u199 u200 u201 u202 u203 u204 u205 u206 u207 u208 u209 u210 u211 u212 u213 u214 u215 u216 u217 u218 u219 u220 u221 u222 u223 u224 u225 u226 u227 u228 u229 u230 u231 u232 u233 u234 u235 u236 u237 u238 u239 u240 u241 u242 u243 u244 u245 u246 u247 u248 u249 u250 u251 u252 u253 u254 u255 u256 u257 u258 u259 u260 u261 u262 u263 u264 u265 u266 u267 u268 u269 u270 u271 u272 u273 u274 u275 u276 u277 u278 u279 u280 u281 u282 u283 u284 u285 u286 u287 u288 u289 u290 u291 u292 u293 u294 u295 u296 u297 u298 u299 u300 u301 u302 u303 u304 u305 u306 u307 u308 u309 u310 u311 u312 u313 u314 u315 u316 u317 u318 u319 u320 u321 u322 u323 u324 u325 u326 u327 u328 u329 u330 u331 u332 u333 u334 u335 u336 u337 u338 u339 u340 u341 u342 u343 u344 u345 u346 u347 u348 u349 u350 u351 u352 u353 u354 u355 u356 u357 u358 u359 u360 u361 u362 u363 u364 u365 u366 u367 u368 u369 u370 u371 : Value) :
    Code.wp Tryf.prog (tl (tl (thn (tl (tl (hd (tl (tl (tl (tl (tl (unscope (tl (Tryf.f22.body.getD .skip)))))))))))))) (jumps J (bodyPost Tryf.prog Tryf.f22 R)) { tmps := #[.pointer (some ⟨pb, 0, none⟩), u1, u2, .int .i64 bq, .int .u8 x.toNat, u5, u6, u7, u8, u9, u10, u11, u12, u13, u14, u15, u16, u17, u18, u19, u20, u21, u22, u23, u24, u25, u26, u27, u28, u29, u30, u31, u32, u33, u34, u35, u36, u37, u38, u39, u40, u41, u42, u43, u44, u45, u46, u47, u48, u49, u50, u51, u52, u53, u54, u55, u56, u57, u58, u59, u60, u61, u62, u63, u64, u65, u66, u67, u68, u69, u70, u71, u72, u73, u74, u75, u76, u77, u78, u79, u80, u81, u82, u83, u84, u85, u86, u87, u88, u89, u90, u91, u92, u93, u94, u95, u96, u97, u98, u99, u100, u101, u102, u103, u104, u105, u106, u107, u108, u109, u110, u111, u112, u113, u114, u115, u116, u117, u118, u119, u120, u121, u122, u123, u124, u125, u126, u127, u128, u129, u130, u131, u132, u133, u134, u135, u136, u137, u138, u139, u140, u141, u142, u143, u144, u145, u146, u147, u148, u149, u150, u151, u152, u153, u154, u155, u156, u157, u158, u159, u160, u161, u162, u163, u164, u165, u166, u167, u168, u169, u170, u171, u172, u173, u174, u175, u176, u177, u178, u179, u180, u181, u182, u183, u184, u185, u186, u187, u188, u189, u190, u191, u192, u193, u194, u195, u196, u197, u198, u199, u200, u201, u202, u203, u204, u205, u206, u207, u208, u209, u210, u211, u212, u213, u214, u215, u216, u217, u218, u219, u220, u221, u222, u223, u224, u225, u226, u227, u228, u229, u230, u231, u232, u233, u234, u235, u236, u237, u238, u239, u240, u241, u242, u243, u244, u245, u246, u247, u248, u249, u250, u251, u252, u253, u254, u255, u256, u257, u258, u259, u260, u261, u262, u263, u264, u265, u266, u267, u268, u269, u270, u271, u272, u273, u274, u275, u276, u277, u278, u279, u280, u281, u282, u283, u284, u285, u286, u287, u288, u289, u290, u291, u292, u293, u294, u295, u296, u297, u298, u299, u300, u301, u302, u303, u304, u305, u306, u307, u308, u309, u310, u311, u312, u313, u314, u315, u316, u317, u318, u319, u320, u321, u322, u323, u324, u325, u326, u327, u328, u329, u330, u331, u332, u333, u334, u335, u336, u337, u338, u339, u340, u341, u342, u343, u344, u345, u346, u347, u348, u349, u350, u351, u352, u353, u354, u355, u356, u357, u358, u359, u360, u361, u362, u363, u364, u365, u366, u367, u368, u369, u370, u371], defers := [] } w := by
  have hlt := h.lx.hlt
  have hp := h.lx.hpb
  have fz : ∀ i, w.frozen? ⟨pb, i, none⟩ = false := hp.frozen
  obtain ⟨lqv, clq⟩ : ∃ v, w.cell? ⟨pb, 32, none⟩ = some v := ⟨_, hp.c_lastBquoteEsc⟩
  obtain ⟨wv, cw4⟩ : ∃ v, w.cell? ⟨pb, 4, none⟩ = some v := ⟨_, hp.c_w⟩
  obtain ⟨rv, cr3⟩ : ∃ v, w.cell? ⟨pb, 3, none⟩ = some v := ⟨_, hp.c_r⟩
  have cl := hp.c_litBs
  have q1 := neq_nil
  have hxl : (x.toNat : Int) < 128 := by omega
  have H := Lib.hid h; have HLIT := Lib.hid hlit; have HLL := Lib.hid hll; have HR := Lib.hid hR
  clear h hlit hll hR hp
  conv => arg 2; whnf
  by_cases hq : x.toNat = 96
  · obtain rfl : x = 96 := UInt8.toNat_inj.1 hq
    clear hxl hx1
    clear hq
    cases lit with
    | none =>
      have hl0 : p.litBs = .slice none 0 0 := HLIT.out
      rw [hl0] at cl
      have HL0 := Lib.hid hl0
      clear hl0
      go_wp2_with fail
      exact rn_tail_end (x := 96) H.out hB (lit' := none) (p3 := { p with lastBquoteEsc := .int .i64 bq }) (H.out.lx.hpb.s_lastBquoteEsc (.int .i64 bq)) (Kb.of ((Kept.refl [pb] w).setCell (p := ⟨pb, 32, none⟩) (by simp) (.int .i64 bq)) (by simp)) _ _ _ rfl HL0.out HR.out rfl
    | some l =>
      have hl3 : Lt (w.setCell ⟨pb, 32, none⟩ (.int .i64 bq)) B pb { p with lastBquoteEsc := .int .i64 bq } (some l) := HLIT.out.kept ((Kept.refl [pb] w).setCell (p := ⟨pb, 32, none⟩) (by simp) (.int .i64 bq)) (by simp; exact hlt) rfl rfl
      have hsz : (w.setCell ⟨pb, 32, none⟩ (.int .i64 bq)).heap.size = w.heap.size := by simp [World.setCell]
      have hBW : B ≤ (w.setCell ⟨pb, 32, none⟩ (.int .i64 bq)).heap.size := by rw [hsz]; exact H.out.lx.hrd.lt.2
      have hlll : l.length + 1 ≤ 100000000000 := by have := HLL.out l rfl; omega
      obtain ⟨lA, ln', lc, hlv⟩ : ∃ A n c, p.litBs = .slice (some A) n c := by
        rcases HLIT.out with ⟨a1, _, _⟩ | ⟨g, cap, a1, _, _⟩
        · exact ⟨_, _, _, a1⟩
        · exact ⟨_, _, _, a1⟩
      rw [hlv] at cl
      have HL3 := Lib.hid hl3; have HSZ := Lib.hid hsz; have HBW := Lib.hid hBW; have HLV := Lib.hid hlv
      clear hl3 hsz hBW hlv
      go_wp2_with (at_builtin; refine wpList_lit (w := (w.setCell ⟨pb, 32, none⟩ (.int .i64 bq))) rfl _ _ rfl HL3.out (H.out.lx.hpb.s_lastBquoteEsc (.int .i64 bq)) hlt HBW.out (by exact HLV.out.symm) _ 96 _ HSZ.out rfl rfl hlll ?_; intro vA vn vc w3 p4 hp4 hlb hl4 hk4; have cl4 : w3.cell? ⟨pb, 2087, none⟩ = some p4.litBs := hp4.c_litBs; have fz4 : ∀ i, w3.frozen? ⟨pb, i, none⟩ = false := hp4.frozen; have c44 : w3.cell? ⟨pb, 4, none⟩ = some p4.w := hp4.c_w; have c43 : w3.cell? ⟨pb, 3, none⟩ = some p4.r := hp4.c_r; have HP4 := Lib.hid hp4; have HLB := Lib.hid hlb; have HL4 := Lib.hid hl4; have HK4 := Lib.hid hk4; clear hp4 hlb hl4 hk4)
      obtain ⟨lb, hlb⟩ := HLB.out
      refine rn_tail_end (x := 96) (w3 := w3.setCell ⟨pb, 2087, none⟩ (.slice (some vA) vn vc)) H.out hB (HP4.out.s_litBs (.slice (some vA) vn vc)) ((Kb.of ((Kept.refl [pb] w).setCell (p := ⟨pb, 32, none⟩) (by simp) (.int .i64 bq)) (by simp)).trans (HK4.out.trans (Kb.of ((Kept.refl [pb] _).setCell (p := ⟨pb, 2087, none⟩) (by simp) (.slice (some vA) vn vc)) (by simp)))) _ _ _ (by rw [hlb]) ?_ HR.out rfl
      exact HL4.out.kept ((Kept.refl [pb] _).setCell (p := ⟨pb, 2087, none⟩) (by simp) (.slice (some vA) vn vc)) (by simp; exact hlt) rfl rfl
  · have n4 : ((x.toNat : Int) == 96) = false := by simp; omega
    clear hq
    cases lit with
    | none =>
      have hl0 : p.litBs = .slice none 0 0 := HLIT.out
      rw [hl0] at cl
      have HL0 := Lib.hid hl0
      clear hl0
      go_wp2_with fail
      exact rn_tail_end (x := x) H.out hB (lit' := none) (p3 := p) H.out.lx.hpb (Kb.of (Kept.refl [pb] w) (by simp)) _ _ _ rfl HL0.out HR.out rfl
    | some l =>
      have hl3 : Lt w B pb p (some l) := HLIT.out.kept (Kept.refl [pb] w) (by simp; exact hlt) rfl rfl
      have hsz : w.heap.size = w.heap.size := rfl
      have hBW : B ≤ w.heap.size := by rw [hsz]; exact H.out.lx.hrd.lt.2
      have hlll : l.length + 1 ≤ 100000000000 := by have := HLL.out l rfl; omega
      obtain ⟨lA, ln', lc, hlv⟩ : ∃ A n c, p.litBs = .slice (some A) n c := by
        rcases HLIT.out with ⟨a1, _, _⟩ | ⟨g, cap, a1, _, _⟩
        · exact ⟨_, _, _, a1⟩
        · exact ⟨_, _, _, a1⟩
      rw [hlv] at cl
      have HL3 := Lib.hid hl3; have HSZ := Lib.hid hsz; have HBW := Lib.hid hBW; have HLV := Lib.hid hlv
      clear hl3 hsz hBW hlv
      go_wp2_with (at_builtin; refine wpList_lit (w := w) rfl _ _ rfl HL3.out H.out.lx.hpb hlt HBW.out (by exact HLV.out.symm) _ x _ HSZ.out rfl rfl hlll ?_; intro vA vn vc w3 p4 hp4 hlb hl4 hk4; have cl4 : w3.cell? ⟨pb, 2087, none⟩ = some p4.litBs := hp4.c_litBs; have fz4 : ∀ i, w3.frozen? ⟨pb, i, none⟩ = false := hp4.frozen; have c44 : w3.cell? ⟨pb, 4, none⟩ = some p4.w := hp4.c_w; have c43 : w3.cell? ⟨pb, 3, none⟩ = some p4.r := hp4.c_r; have HP4 := Lib.hid hp4; have HLB := Lib.hid hlb; have HL4 := Lib.hid hl4; have HK4 := Lib.hid hk4; clear hp4 hlb hl4 hk4)
      obtain ⟨lb, hlb⟩ := HLB.out
      refine rn_tail_end (x := x) (w3 := w3.setCell ⟨pb, 2087, none⟩ (.slice (some vA) vn vc)) H.out hB (HP4.out.s_litBs (.slice (some vA) vn vc)) ((Kb.of (Kept.refl [pb] w) (by simp)).trans (HK4.out.trans (Kb.of ((Kept.refl [pb] _).setCell (p := ⟨pb, 2087, none⟩) (by simp) (.slice (some vA) vn vc)) (by simp)))) _ _ _ (by rw [hlb]) ?_ HR.out rfl
      exact HL4.out.kept ((Kept.refl [pb] _).setCell (p := ⟨pb, 2087, none⟩) (by simp) (.slice (some vA) vn vc)) (by simp; exact hlt) rfl rfl

end Go.Proofs.YtnjaeooblfihbaaFmt
