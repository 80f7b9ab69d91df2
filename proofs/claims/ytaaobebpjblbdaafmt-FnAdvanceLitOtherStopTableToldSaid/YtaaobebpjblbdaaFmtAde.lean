/-
  advanceLitOther where the literal begins with a backslash: the byte behind it is kept, whatever it is.
-/
import Derived.Test.YtaaobebpjblbdaaFmtAdf
namespace Go.Proofs.YtaaobebpjblbdaaFmt
open Go.RowKit

set_option maxRecDepth 1000000 in
set_option maxHeartbeats 1600000 in
theorem adv_pass92 (K : Act → World → Prop) (Q : Exit → Act → World → Prop) {w : World} {pb : Nat} (tk : Int) (hk : ∀ (u2 u3 u5 u6 u7 u8 u9 u10 u11 u12 u13 u14 u15 u16 u17 u18 u19 u20 u21 u22 u23 u24 u25 u26 u27 u28 u29 u30 u31 u32 u33 u34 u35 u36 u37 u38 u39 u40 u41 u42 u43 u44 u45 u46 u47 u48 u49 u50 u51 u52 u53 u54 u55 u56 u57 u58 u59 u60 u61 u62 u63 u64 u65 u66 u67 u68 u69 u70 u71 u72 u73 u74 u75 u76 u77 u78 u79 u80 u81 u82 u83 u84 u85 u86 u87 u88 u89 u90 u91 u92 u93 u94 u95 u96 u97 u98 u99 u100 u101 u102 u103 u104 u105 u106 u107 u108 u109 u110 u111 u112 u113 : Value), K { tmps := #[.pointer (some ⟨pb, 0, none⟩), .int .i32 92, u2, u3, .int .u32 tk, u5, u6, u7, u8, u9, u10, u11, u12, u13, u14, u15, u16, u17, u18, u19, u20, u21, u22, u23, u24, u25, u26, u27, u28, u29, u30, u31, u32, u33, u34, u35, u36, u37, u38, u39, u40, u41, u42, u43, u44, u45, u46, u47, u48, u49, u50, u51, u52, u53, u54, u55, u56, u57, u58, u59, u60, u61, u62, u63, u64, u65, u66, u67, u68, u69, u70, u71, u72, u73, u74, u75, u76, u77, u78, u79, u80, u81, u82, u83, u84, u85, u86, u87, u88, u89, u90, u91, u92, u93, u94, u95, u96, u97, u98, u99, u100, u101, u102, u103, u104, u105, u106, u107, u108, u109, u110, u111, u112, u113], defers := [] } w)
    (u2 u3 u5 u6 u7 u8 u9 u10 u11 u12 u13 u14 u15 u16 u17 u18 u19 u20 u21 u22 u23 u24 u25 u26 u27 u28 u29 u30 u31 u32 u33 u34 u35 u36 u37 u38 u39 u40 u41 u42 u43 u44 u45 u46 u47 u48 u49 u50 u51 u52 u53 u54 u55 u56 u57 u58 u59 u60 u61 u62 u63 u64 u65 u66 u67 u68 u69 u70 u71 u72 u73 u74 u75 u76 u77 u78 u79 u80 u81 u82 u83 u84 u85 u86 u87 u88 u89 u90 u91 u92 u93 u94 u95 u96 u97 u98 u99 u100 u101 u102 u103 u104 u105 u106 u107 u108 u109 u110 u111 u112 u113 : Value) : Code.wp Tryf.prog (hd (unloop (unblock (tl (hd (tl (tl (unscope (Tryf.f24.body.getD .skip))))))))) (Exit.then K Q) { tmps := #[.pointer (some ⟨pb, 0, none⟩), .int .i32 92, u2, u3, .int .u32 tk, u5, u6, u7, u8, u9, u10, u11, u12, u13, u14, u15, u16, u17, u18, u19, u20, u21, u22, u23, u24, u25, u26, u27, u28, u29, u30, u31, u32, u33, u34, u35, u36, u37, u38, u39, u40, u41, u42, u43, u44, u45, u46, u47, u48, u49, u50, u51, u52, u53, u54, u55, u56, u57, u58, u59, u60, u61, u62, u63, u64, u65, u66, u67, u68, u69, u70, u71, u72, u73, u74, u75, u76, u77, u78, u79, u80, u81, u82, u83, u84, u85, u86, u87, u88, u89, u90, u91, u92, u93, u94, u95, u96, u97, u98, u99, u100, u101, u102, u103, u104, u105, u106, u107, u108, u109, u110, u111, u112, u113], defers := [] } w := by
  have HK := Lib.hid hk
  clear hk
  conv => arg 2; whnf
  go_wp2_with fail
  exact HK.out _ _ _ _ _ _ _ _ _ _ _ _ _ _ _ _ _ _ _ _ _ _ _ _ _ _ _ _ _ _ _ _ _ _ _ _ _ _ _ _ _ _ _ _ _ _ _ _ _ _ _ _ _ _ _ _ _ _ _ _ _ _ _ _ _ _ _ _ _ _ _ _ _ _ _ _ _ _ _ _ _ _ _ _ _ _ _ _ _ _ _ _ _ _ _ _ _ _ _ _ _ _ _ _ _ _ _ _ _ _ _

set_option maxRecDepth 1000000 in
set_option maxHeartbeats 1600000 in
theorem sw_92 (K : Act → World → Prop) (Q : Exit → Act → World → Prop) {w : World} {pb : Nat} {v : Int} {S : World → Prop} (tk : Int) (hr : Calls Tryf.prog 23 #[.pointer (some ⟨pb, 0, none⟩)] w fun e w' => e = .returned (.int .i32 v) ∧ S w')
    (hk : ∀ w2, S w2 → ∀ (u2 u3 u5 u6 u7 u8 u9 u10 u11 u12 u13 u14 u15 u16 u17 u18 u19 u20 u21 u22 u23 u24 u25 u26 u27 u28 u29 u30 u31 u32 u33 u34 u35 u36 u37 u38 u39 u40 u41 u42 u43 u44 u45 u46 u47 u48 u49 u50 u51 u52 u53 u54 u55 u56 u57 u58 u59 u60 u61 u62 u63 u64 u65 u66 u67 u68 u69 u70 u71 u72 u73 u74 u75 u76 u77 u78 u79 u80 u81 u82 u83 u84 u85 u86 u87 u88 u89 u90 u91 u92 u93 u94 u95 u96 u97 u98 u99 u100 u101 u102 u103 u104 u105 u106 u107 u108 u109 u110 u111 u112 u113 : Value), K { tmps := #[.pointer (some ⟨pb, 0, none⟩), .int .i32 92, u2, u3, .int .u32 tk, u5, u6, u7, u8, u9, u10, u11, u12, u13, u14, u15, u16, u17, u18, u19, u20, u21, u22, u23, u24, u25, u26, u27, u28, u29, u30, u31, u32, u33, u34, u35, u36, u37, u38, u39, u40, u41, u42, u43, u44, u45, u46, u47, u48, u49, u50, u51, u52, u53, u54, u55, u56, u57, u58, u59, u60, u61, u62, u63, u64, u65, u66, u67, u68, u69, u70, u71, u72, u73, u74, u75, u76, u77, u78, u79, u80, u81, u82, u83, u84, u85, u86, u87, u88, u89, u90, u91, u92, u93, u94, u95, u96, u97, u98, u99, u100, u101, u102, u103, u104, u105, u106, u107, u108, u109, u110, u111, u112, u113], defers := [] } w2)
    (u2 u3 u5 u6 u7 u8 u9 u10 u11 u12 u13 u14 u15 u16 u17 u18 u19 u20 u21 u22 u23 u24 u25 u26 u27 u28 u29 u30 u31 u32 u33 u34 u35 u36 u37 u38 u39 u40 u41 u42 u43 u44 u45 u46 u47 u48 u49 u50 u51 u52 u53 u54 u55 u56 u57 u58 u59 u60 u61 u62 u63 u64 u65 u66 u67 u68 u69 u70 u71 u72 u73 u74 u75 u76 u77 u78 u79 u80 u81 u82 u83 u84 u85 u86 u87 u88 u89 u90 u91 u92 u93 u94 u95 u96 u97 u98 u99 u100 u101 u102 u103 u104 u105 u106 u107 u108 u109 u110 u111 u112 u113 : Value) : Code.wp Tryf.prog (hd (tl (unloop (unblock (tl (hd (tl (tl (unscope (Tryf.f24.body.getD .skip)))))))))) (Exit.then K Q) { tmps := #[.pointer (some ⟨pb, 0, none⟩), .int .i32 92, u2, u3, .int .u32 tk, u5, u6, u7, u8, u9, u10, u11, u12, u13, u14, u15, u16, u17, u18, u19, u20, u21, u22, u23, u24, u25, u26, u27, u28, u29, u30, u31, u32, u33, u34, u35, u36, u37, u38, u39, u40, u41, u42, u43, u44, u45, u46, u47, u48, u49, u50, u51, u52, u53, u54, u55, u56, u57, u58, u59, u60, u61, u62, u63, u64, u65, u66, u67, u68, u69, u70, u71, u72, u73, u74, u75, u76, u77, u78, u79, u80, u81, u82, u83, u84, u85, u86, u87, u88, u89, u90, u91, u92, u93, u94, u95, u96, u97, u98, u99, u100, u101, u102, u103, u104, u105, u106, u107, u108, u109, u110, u111, u112, u113], defers := [] } w := by
  have HR := Lib.hid hr; have HK := Lib.hid hk
  clear hr hk
  conv => arg 2; whnf
  go_wp2_with (go_at_call 23; refine HR.out.mono ?_; rintro e w2 ⟨rfl, hs⟩; dsimp only; have HS := Lib.hid hs; clear hs)
  exact HK.out _ HS.out _ _ _ _ _ _ _ _ _ _ _ _ _ _ _ _ _ _ _ _ _ _ _ _ _ _ _ _ _ _ _ _ _ _ _ _ _ _ _ _ _ _ _ _ _ _ _ _ _ _ _ _ _ _ _ _ _ _ _ _ _ _ _ _ _ _ _ _ _ _ _ _ _ _ _ _ _ _ _ _ _ _ _ _ _ _ _ _ _ _ _ _ _ _ _ _ _ _ _ _ _ _ _ _ _ _ _ _ _ _ _

/-- The first round's head. -/
def AdvF (w0 : World) (B pb rb : Nat) (ea : Addr) (q : Pc) (c : UInt8) (u : List UInt8) (k : Nat) (n : Nat) (a : Act) (w : World) : Prop :=
  Kr B pb rb w0 w ∧ ∃ v : Nat → Value, a = { tmps := #[.pointer (some ⟨pb, 0, none⟩), .int .i32 92, v 2, v 3, .int .u32 4, v 5, v 6, v 7, v 8, v 9, v 10, v 11, v 12, v 13, v 14, v 15, v 16, v 17, v 18, v 19, v 20, v 21, v 22, v 23, v 24, v 25, v 26, v 27, v 28, v 29, v 30, v 31, v 32, v 33, v 34, v 35, v 36, v 37, v 38, v 39, v 40, v 41, v 42, v 43, v 44, v 45, v 46, v 47, v 48, v 49, v 50, v 51, v 52, v 53, v 54, v 55, v 56, v 57, v 58, v 59, v 60, v 61, v 62, v 63, v 64, v 65, v 66, v 67, v 68, v 69, v 70, v 71, v 72, v 73, v 74, v 75, v 76, v 77, v 78, v 79, v 80, v 81, v 82, v 83, v 84, v 85, v 86, v 87, v 88, v 89, v 90, v 91, v 92, v 93, v 94, v 95, v 96, v 97, v 98, v 99, v 100, v 101, v 102, v 103, v 104, v 105, v 106, v 107, v 108, v 109, v 110, v 111, v 112, v 113], defers := [] } ∧ n = u.length + 2 ∧ LexS w B pb rb ea q 92 (c :: u) (some [92]) k

set_option maxRecDepth 1000000 in
set_option maxHeartbeats 1600000 in
theorem adv_loop_esc {Q : Exit → Act → World → Prop} {w0 : World} {B pb rb : Nat} {ea : Addr} {q : Pc} {qv lv : Int} {b1 b2 b3 b4 nz kz : Bool} (ha : Asks qv lv b1 b2 b3 b4 nz kz) (hB : 0 < B) (hqv : q.quote = .int .u32 qv) (hlv : q.lang = .int .i64 lv) (full rest : List UInt8) {c : UInt8} {u : List UInt8} {k : Nat}
    (hc : c.toNat < 128 ∧ c.toNat ≠ 0 ∧ c.toNat ≠ 13) (hu : ∀ y ∈ u, plainB y) (hk : k < 1000000) (hf : [92, c] ++ u.takeWhile (goesO b1 b2 b3 b4 nz kz) = full) (hrr : u.dropWhile (goesO b1 b2 b3 b4 nz kz) = rest)
    (hend : ∀ (u2 u3 u5 u6 u7 u8 u9 u10 u11 u12 u13 u14 u15 u16 u17 u18 u19 u20 u21 u22 u23 u24 u25 u26 u27 u28 u29 u30 u31 u32 u33 u34 u35 u36 u37 u38 u39 u40 u41 u42 u43 u44 u45 u46 u47 u48 u49 u50 u51 u52 u53 u54 u55 u56 u57 u58 u59 u60 u61 u62 u63 u64 u65 u66 u67 u68 u69 u70 u71 u72 u73 u74 u75 u76 u77 u78 u79 u80 u81 u82 u83 u84 u85 u86 u87 u88 u89 u90 u91 u92 u93 u94 u95 u96 u97 u98 u99 u100 u101 u102 u103 u104 u105 u106 u107 u108 u109 u110 u111 u112 u113 : Value) (w : World) (r tk : Int), AdvEnd w0 w B pb rb ea q full rest r tk → Q (.exit 0) { tmps := #[.pointer (some ⟨pb, 0, none⟩), .int .i32 r, u2, u3, .int .u32 tk, u5, u6, u7, u8, u9, u10, u11, u12, u13, u14, u15, u16, u17, u18, u19, u20, u21, u22, u23, u24, u25, u26, u27, u28, u29, u30, u31, u32, u33, u34, u35, u36, u37, u38, u39, u40, u41, u42, u43, u44, u45, u46, u47, u48, u49, u50, u51, u52, u53, u54, u55, u56, u57, u58, u59, u60, u61, u62, u63, u64, u65, u66, u67, u68, u69, u70, u71, u72, u73, u74, u75, u76, u77, u78, u79, u80, u81, u82, u83, u84, u85, u86, u87, u88, u89, u90, u91, u92, u93, u94, u95, u96, u97, u98, u99, u100, u101, u102, u103, u104, u105, u106, u107, u108, u109, u110, u111, u112, u113], defers := [] } w)
    (n0 : Nat) (a : Act) (w : World) (hI : AdvF w0 B pb rb ea q c u k n0 a w) : Code.wp Tryf.prog (.loop (unloop (unblock (tl (hd (tl (tl (unscope (Tryf.f24.body.getD .skip))))))))) Q a w := by
  refine wp_loop_ghost (fun n a w => AdvF w0 B pb rb ea q c u k n a w ∨ AdvI w0 B pb rb ea q (goesO b1 b2 b3 b4 nz kz) full rest n a w) n0 (.inl hI) ?_
  rintro n a w (⟨hkr, v, rfl, hn, hl⟩ | hI)
  · rw [adv_L]
    refine wp_seq ?_
    refine adv_pass92 _ _ 4 ?_ _ _ _ _ _ _ _ _ _ _ _ _ _ _ _ _ _ _ _ _ _ _ _ _ _ _ _ _ _ _ _ _ _ _ _ _ _ _ _ _ _ _ _ _ _ _ _ _ _ _ _ _ _ _ _ _ _ _ _ _ _ _ _ _ _ _ _ _ _ _ _ _ _ _ _ _ _ _ _ _ _ _ _ _ _ _ _ _ _ _ _ _ _ _ _ _ _ _ _ _ _ _ _ _ _ _ _ _ _ _ _
    intro u2 u3 u5 u6 u7 u8 u9 u10 u11 u12 u13 u14 u15 u16 u17 u18 u19 u20 u21 u22 u23 u24 u25 u26 u27 u28 u29 u30 u31 u32 u33 u34 u35 u36 u37 u38 u39 u40 u41 u42 u43 u44 u45 u46 u47 u48 u49 u50 u51 u52 u53 u54 u55 u56 u57 u58 u59 u60 u61 u62 u63 u64 u65 u66 u67 u68 u69 u70 u71 u72 u73 u74 u75 u76 u77 u78 u79 u80 u81 u82 u83 u84 u85 u86 u87 u88 u89 u90 u91 u92 u93 u94 u95 u96 u97 u98 u99 u100 u101 u102 u103 u104 u105 u106 u107 u108 u109 u110 u111 u112 u113
    refine wp_seq ?_
    have hnx : Nx 92 (c :: u) c.toNat 1 [c] u 0 := by
      by_cases h92 : c = 92
      · subst h92
        exact .same u rfl
      · exact .plain c u hc.1 hc.2.1 hc.2.2 (fun h => h92 (UInt8.toNat_inj.1 h))
    refine sw_92 _ _ 4 (rune_s hl (by omega) hB (by decide) hnx) ?_ _ _ _ _ _ _ _ _ _ _ _ _ _ _ _ _ _ _ _ _ _ _ _ _ _ _ _ _ _ _ _ _ _ _ _ _ _ _ _ _ _ _ _ _ _ _ _ _ _ _ _ _ _ _ _ _ _ _ _ _ _ _ _ _ _ _ _ _ _ _ _ _ _ _ _ _ _ _ _ _ _ _ _ _ _ _ _ _ _ _ _ _ _ _ _ _ _ _ _ _ _ _ _ _ _ _ _ _ _ _ _
    rintro w1 ⟨hl1, hk1⟩ t2 t3 t5 t6 t7 t8 t9 t10 t11 t12 t13 t14 t15 t16 t17 t18 t19 t20 t21 t22 t23 t24 t25 t26 t27 t28 t29 t30 t31 t32 t33 t34 t35 t36 t37 t38 t39 t40 t41 t42 t43 t44 t45 t46 t47 t48 t49 t50 t51 t52 t53 t54 t55 t56 t57 t58 t59 t60 t61 t62 t63 t64 t65 t66 t67 t68 t69 t70 t71 t72 t73 t74 t75 t76 t77 t78 t79 t80 t81 t82 t83 t84 t85 t86 t87 t88 t89 t90 t91 t92 t93 t94 t95 t96 t97 t98 t99 t100 t101 t102 t103 t104 t105 t106 t107 t108 t109 t110 t111 t112 t113
    cases u with
    | nil =>
      refine adv_eof _ hl1 (by omega) hB 4 rfl _ ?_ _ _ _ _ _ _ _ _ _ _ _ _ _ _ _ _ _ _ _ _ _ _ _ _ _ _ _ _ _ _ _ _ _ _ _ _ _ _ _ _ _ _ _ _ _ _ _ _ _ _ _ _ _ _ _ _ _ _ _ _ _ _ _ _ _ _ _ _ _ _ _ _ _ _ _ _ _ _ _ _ _ _ _ _ _ _ _ _ _ _ _ _ _ _ _ _ _ _ _ _ _ _ _ _ _ _ _ _ _ _ _ _
      intro s2 s3 s5 s6 s7 s8 s9 s10 s11 s12 s13 s14 s15 s16 s17 s18 s19 s20 s21 s22 s23 s24 s25 s26 s27 s28 s29 s30 s31 s32 s33 s34 s35 s36 s37 s38 s39 s40 s41 s42 s43 s44 s45 s46 s47 s48 s49 s50 s51 s52 s53 s54 s55 s56 s57 s58 s59 s60 s61 s62 s63 s64 s65 s66 s67 s68 s69 s70 s71 s72 s73 s74 s75 s76 s77 s78 s79 s80 s81 s82 s83 s84 s85 s86 s87 s88 s89 s90 s91 s92 s93 s94 s95 s96 s97 s98 s99 s100 s101 s102 s103 s104 s105 s106 s107 s108 s109 s110 s111 s112 s113 w2 h2 hk2
      simp only [List.takeWhile_nil, List.append_nil] at hf
      simp only [List.dropWhile_nil] at hrr
      subst hf
      exact ⟨0, by omega, .inr ⟨(hkr.trans hk1).trans hk2, .inl ⟨(fun i => ([undef, undef, s2, s3, undef, s5, s6, s7, s8, s9, s10, s11, s12, s13, s14, s15, s16, s17, s18, s19, s20, s21, s22, s23, s24, s25, s26, s27, s28, s29, s30, s31, s32, s33, s34, s35, s36, s37, s38, s39, s40, s41, s42, s43, s44, s45, s46, s47, s48, s49, s50, s51, s52, s53, s54, s55, s56, s57, s58, s59, s60, s61, s62, s63, s64, s65, s66, s67, s68, s69, s70, s71, s72, s73, s74, s75, s76, s77, s78, s79, s80, s81, s82, s83, s84, s85, s86, s87, s88, s89, s90, s91, s92, s93, s94, s95, s96, s97, s98, s99, s100, s101, s102, s103, s104, s105, s106, s107, s108, s109, s110, s111, s112, s113] : List Value).getD i undef), rfl, hrr.symm, k + 1, h2, by omega⟩⟩⟩
    | cons y u' =>
      have hy := hu y (by simp)
      refine adv_next _ hl1 (by omega) hB (by have := hc.1; omega) 4 rfl hy.1 hy.2.1 hy.2.2.1 hy.2.2.2 _ ?_ _ _ _ _ _ _ _ _ _ _ _ _ _ _ _ _ _ _ _ _ _ _ _ _ _ _ _ _ _ _ _ _ _ _ _ _ _ _ _ _ _ _ _ _ _ _ _ _ _ _ _ _ _ _ _ _ _ _ _ _ _ _ _ _ _ _ _ _ _ _ _ _ _ _ _ _ _ _ _ _ _ _ _ _ _ _ _ _ _ _ _ _ _ _ _ _ _ _ _ _ _ _ _ _ _ _ _ _ _ _ _ _
      intro s2 s3 s5 s6 s7 s8 s9 s10 s11 s12 s13 s14 s15 s16 s17 s18 s19 s20 s21 s22 s23 s24 s25 s26 s27 s28 s29 s30 s31 s32 s33 s34 s35 s36 s37 s38 s39 s40 s41 s42 s43 s44 s45 s46 s47 s48 s49 s50 s51 s52 s53 s54 s55 s56 s57 s58 s59 s60 s61 s62 s63 s64 s65 s66 s67 s68 s69 s70 s71 s72 s73 s74 s75 s76 s77 s78 s79 s80 s81 s82 s83 s84 s85 s86 s87 s88 s89 s90 s91 s92 s93 s94 s95 s96 s97 s98 s99 s100 s101 s102 s103 s104 s105 s106 s107 s108 s109 s110 s111 s112 s113 w2 h2 hk2
      exact ⟨u'.length + 1, by simp at hn; omega, .inr ⟨(hkr.trans hk1).trans hk2, .inr ⟨(fun i => ([undef, undef, s2, s3, undef, s5, s6, s7, s8, s9, s10, s11, s12, s13, s14, s15, s16, s17, s18, s19, s20, s21, s22, s23, s24, s25, s26, s27, s28, s29, s30, s31, s32, s33, s34, s35, s36, s37, s38, s39, s40, s41, s42, s43, s44, s45, s46, s47, s48, s49, s50, s51, s52, s53, s54, s55, s56, s57, s58, s59, s60, s61, s62, s63, s64, s65, s66, s67, s68, s69, s70, s71, s72, s73, s74, s75, s76, s77, s78, s79, s80, s81, s82, s83, s84, s85, s86, s87, s88, s89, s90, s91, s92, s93, s94, s95, s96, s97, s98, s99, s100, s101, s102, s103, s104, s105, s106, s107, s108, s109, s110, s111, s112, s113] : List Value).getD i undef), y, u', [92, c], k, rfl, rfl, hy, fun z hz => hu z (by simp [hz]), hf, hrr, h2, hk⟩⟩⟩
  · refine Code.wp_mono ?_ (adv_round ha hB hqv hlv full rest hend n a w hI)
    intro e a' w' h
    cases e with
    | normal =>
      obtain ⟨n', hlt, h⟩ := h
      exact ⟨n', hlt, .inr h⟩
    | exit id => exact h
    | goto l => exact h
    | ret => exact h
    | panic ch => exact h
    | outgrown => exact h

theorem advF_start {w0 w : World} {B pb rb : Nat} {ea : Addr} {q : Pc} {c : UInt8} {u : List UInt8} {k : Nat} (hkr : Kr B pb rb w0 w) (hl : LexS w B pb rb ea q 92 (c :: u) (some [92]) k)
    (u2 u3 u5 u6 u7 u8 u9 u10 u11 u12 u13 u14 u15 u16 u17 u18 u19 u20 u21 u22 u23 u24 u25 u26 u27 u28 u29 u30 u31 u32 u33 u34 u35 u36 u37 u38 u39 u40 u41 u42 u43 u44 u45 u46 u47 u48 u49 u50 u51 u52 u53 u54 u55 u56 u57 u58 u59 u60 u61 u62 u63 u64 u65 u66 u67 u68 u69 u70 u71 u72 u73 u74 u75 u76 u77 u78 u79 u80 u81 u82 u83 u84 u85 u86 u87 u88 u89 u90 u91 u92 u93 u94 u95 u96 u97 u98 u99 u100 u101 u102 u103 u104 u105 u106 u107 u108 u109 u110 u111 u112 u113 : Value) : AdvF w0 B pb rb ea q c u k (u.length + 2) { tmps := #[.pointer (some ⟨pb, 0, none⟩), .int .i32 92, u2, u3, .int .u32 4, u5, u6, u7, u8, u9, u10, u11, u12, u13, u14, u15, u16, u17, u18, u19, u20, u21, u22, u23, u24, u25, u26, u27, u28, u29, u30, u31, u32, u33, u34, u35, u36, u37, u38, u39, u40, u41, u42, u43, u44, u45, u46, u47, u48, u49, u50, u51, u52, u53, u54, u55, u56, u57, u58, u59, u60, u61, u62, u63, u64, u65, u66, u67, u68, u69, u70, u71, u72, u73, u74, u75, u76, u77, u78, u79, u80, u81, u82, u83, u84, u85, u86, u87, u88, u89, u90, u91, u92, u93, u94, u95, u96, u97, u98, u99, u100, u101, u102, u103, u104, u105, u106, u107, u108, u109, u110, u111, u112, u113], defers := [] } w :=
  ⟨hkr, (fun i => ([undef, undef, u2, u3, undef, u5, u6, u7, u8, u9, u10, u11, u12, u13, u14, u15, u16, u17, u18, u19, u20, u21, u22, u23, u24, u25, u26, u27, u28, u29, u30, u31, u32, u33, u34, u35, u36, u37, u38, u39, u40, u41, u42, u43, u44, u45, u46, u47, u48, u49, u50, u51, u52, u53, u54, u55, u56, u57, u58, u59, u60, u61, u62, u63, u64, u65, u66, u67, u68, u69, u70, u71, u72, u73, u74, u75, u76, u77, u78, u79, u80, u81, u82, u83, u84, u85, u86, u87, u88, u89, u90, u91, u92, u93, u94, u95, u96, u97, u98, u99, u100, u101, u102, u103, u104, u105, u106, u107, u108, u109, u110, u111, u112, u113] : List Value).getD i undef), rfl, rfl, hl⟩

set_option maxRecDepth 1000000 in
set_option maxHeartbeats 1600000 in
theorem adv_other_esc {w : World} {B pb rb : Nat} {ea : Addr} {q : Pc} {c : UInt8} {u : List UInt8} {lit : Option (List UInt8)} {k : Nat} {qv lv : Int} {b1 b2 b3 b4 nz kz : Bool} (h : LexS w B pb rb ea q 92 (c :: u) lit k) (hk : k < 1000000) (hB : 0 < B) (ha : Asks qv lv b1 b2 b3 b4 nz kz) (hqv : q.quote = .int .u32 qv) (hlv : q.lang = .int .i64 lv) (hx : c.toNat < 128 ∧ c.toNat ≠ 0 ∧ c.toNat ≠ 13) (hu : ∀ y ∈ u, plainB y) (hul : u.length + 1 ≤ 100000000) :
    Calls Tryf.prog 24 #[.pointer (some ⟨pb, 0, none⟩), .int .i32 92] w fun e w' => e = .returned (.tuple #[]) ∧ AdvPost w w' B pb rb ([92, c] ++ u.takeWhile (goesO b1 b2 b3 b4 nz kz)) (u.dropWhile (goesO b1 b2 b3 b4 nz kz)) := by
  have hn : Calls Tryf.prog 33 #[.pointer (some ⟨pb, 0, none⟩), .int .i32 92] w fun e w' => e = .returned (.tuple #[]) ∧ LexS w' B pb rb ea q 92 (c :: u) (some [92]) k ∧ Kept [pb] w w' := newlit_s (x := 92) h hB (by decide) (by simp; omega)
  have HN := Lib.hid hn
  have HX := Lib.hid hx; have HU := Lib.hid hu; have HQV := Lib.hid hqv; have HLV := Lib.hid hlv; have HA := Lib.hid ha
  obtain ⟨full, hfull⟩ : ∃ full, full = [92, c] ++ u.takeWhile (goesO b1 b2 b3 b4 nz kz) := ⟨_, rfl⟩
  obtain ⟨rest, hrest⟩ : ∃ rest, rest = u.dropWhile (goesO b1 b2 b3 b4 nz kz) := ⟨_, rfl⟩
  rw [← hfull, ← hrest]
  have HF := Lib.hid hfull; have HRE := Lib.hid hrest
  clear h hn hx hu hqv hlv ha hfull hrest
  go_enter Tryf.func24, Tryf.ntmps24
  go_wp2_with fail
  go_step3
  go_wp2_with fail
  go_step3
  go_wp2_with (go_at_call 33; refine HN.out.mono ?_; rintro e w1 ⟨rfl, hpost⟩; have HP := Lib.hid hpost; clear hpost)
  refine adv_loop_esc (w0 := w) (ea := ea) (rb := rb) (pb := pb) HA.out hB HQV.out HLV.out full rest HX.out HU.out hk HF.out.symm HRE.out.symm ?_ (u.length + 2) _ _ ?_
  · intro u2 u3 u5 u6 u7 u8 u9 u10 u11 u12 u13 u14 u15 u16 u17 u18 u19 u20 u21 u22 u23 u24 u25 u26 u27 u28 u29 u30 u31 u32 u33 u34 u35 u36 u37 u38 u39 u40 u41 u42 u43 u44 u45 u46 u47 u48 u49 u50 u51 u52 u53 u54 u55 u56 u57 u58 u59 u60 u61 u62 u63 u64 u65 u66 u67 u68 u69 u70 u71 u72 u73 u74 u75 u76 u77 u78 u79 u80 u81 u82 u83 u84 u85 u86 u87 u88 u89 u90 u91 u92 u93 u94 u95 u96 u97 u98 u99 u100 u101 u102 u103 u104 u105 u106 u107 u108 u109 u110 u111 u112 u113 w2 r tk hae
    obtain ⟨rfl, rfl⟩ := hae.is
    have HE := Lib.hid (adv_endlit hae hB)
    clear hae
    go_wp2_with (go_at_call 35; refine HE.out.mono ?_; rintro e w3 ⟨rfl, hpost⟩; obtain ⟨hk3, p3, hp3, hr3⟩ := hpost.out; have c10 := hp3.c_tok; have c11 := hp3.c_val; have fz : ∀ i, w3.frozen? ⟨pb, i, none⟩ = false := hp3.frozen; have HP3 := Lib.hid hp3; have HR3 := Lib.hid hr3; have HK3 := Lib.hid hk3; clear hpost hk3 hp3 hr3)
    try rw [Exit.noGoto_normal]
    go_end0
    refine ⟨rfl, Lib.hid ⟨HK3.out.trans (Kr.of (((Kept.refl [pb] _).setCell (p := ⟨pb, 10, none⟩) (by simp) _).setCell (p := ⟨pb, 11, none⟩) (by simp) _) (by simp)), _, (HP3.out.s_tok _).s_val _, rfl, rfl, HR3.out⟩⟩
  · exact advF_start (Kr.of HP.out.2 (by simp)) HP.out.1 _ _ _ _ _ _ _ _ _ _ _ _ _ _ _ _ _ _ _ _ _ _ _ _ _ _ _ _ _ _ _ _ _ _ _ _ _ _ _ _ _ _ _ _ _ _ _ _ _ _ _ _ _ _ _ _ _ _ _ _ _ _ _ _ _ _ _ _ _ _ _ _ _ _ _ _ _ _ _ _ _ _ _ _ _ _ _ _ _ _ _ _ _ _ _ _ _ _ _ _ _ _ _ _ _ _ _ _ _ _ _
end Go.Proofs.YtaaobebpjblbdaaFmt
