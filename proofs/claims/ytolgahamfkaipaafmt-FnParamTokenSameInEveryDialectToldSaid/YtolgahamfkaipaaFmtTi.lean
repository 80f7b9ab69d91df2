/-
  n010_119: what the token functions share.
-/
import Derived.Test.YtolgahamfkaipaaFmtTf
namespace Go.Proofs.YtolgahamfkaipaaFmt
section
open Go.RowKit Go.Stop Go.Extern

/-- What a token function leaves: the token, the column, the rune at hand. -/
def TokP (T : Tree) (r : Int) (u : List UInt8) (w : World) (B pb rb : Nat) (c lv : Int) (e : Ending) (w' : World) : Prop :=
  e = .returned (.int .u32 (T.run r u 0).1) ∧ Fin w' pb (T.run r u 0).2.2 (c + (T.run r u 0).2.1) lv ∧ Kr B pb rb w w'
theorem tokP_of {T : Tree} {r : Int} {u : List UInt8} {w w' : World} {B pb rb : Nat} {c lv c' t N : Int} (j : Int) (hrun : T.run r u 0 = (t, j, N)) (hf : Fin w' pb N c' lv) (hc : c' = c + j) (hk : Kr B pb rb w w') : TokP T r u w B pb rb c lv (.returned (.int .u32 t)) w' := by
  subst hc
  unfold TokP
  rw [hrun]
  exact ⟨rfl, hf, hk⟩
theorem in_run (a b : Int) (w : World) : Calls Tryf.prog 45 #[.int .i64 a, .int .i64 b] w fun e w' => e = .returned (.bool (inL a b)) ∧ w = w' := by
  go_enter Tryf.func45, Tryf.ntmps45
  go_wp2
  go_ret
  exact ⟨rfl, rfl⟩
theorem Fin.c20 {w : World} {pb : Nat} {r c lv : Int} (h : Fin w pb r c lv) : w.cell? ⟨pb, 20, none⟩ = some (.int .i64 lv) := by
  obtain ⟨p, hp, _, _, h3, _⟩ := h
  rw [hp.c_lang, h3]
theorem Fin.c17 {w : World} {pb : Nat} {r c lv : Int} (h : Fin w pb r c lv) : w.cell? ⟨pb, 17, none⟩ = some (.int .u32 1) := by
  obtain ⟨p, hp, _, _, _, h3⟩ := h
  rw [hp.c_quote, h3]
theorem Fin.kept {w w' : World} {pb : Nat} {r c lv : Int} (h : Fin w pb r c lv) (k : Kept [] w w') : Fin w' pb r c lv := by
  obtain ⟨p, hp, h2⟩ := h
  exact ⟨p, hp.kept k (by simp), h2⟩
theorem fin_c3 {w : World} {pb : Nat} {r c lv : Int} (h : Fin w pb r c lv) : w.cell? ⟨pb, 3, none⟩ = some (.int .i32 r) := by
  obtain ⟨p, hp, h3, _⟩ := h
  rw [hp.c_r, h3]
theorem fin_c14 {w : World} {pb : Nat} {r c lv : Int} (h : Fin w pb r c lv) : w.cell? ⟨pb, 14, none⟩ = some (.int .i64 c) := by
  obtain ⟨p, hp, _, h3, _⟩ := h
  rw [hp.c_col, h3]

end
section
open Go.RowKit Go.Stop Go.Extern

set_option maxRecDepth 100000 in
set_option maxHeartbeats 3200000 in
theorem param_125 {w : World} {B pb rb fb : Nat} {ea : Addr} {F : Interp} {lv : Int} {u : List UInt8} {c : Int} (h : LexC w B pb rb fb ea F lv 125 u 1 c 5) (hB : 0 < B) : Calls Tryf.prog 32 #[.pointer (some ⟨pb, 0, none⟩), .int .i32 125] w (TokP (parT 125) 125 u w B pb rb c lv) := by
  have HB := Lib.hid hB
  have HK0 := Lib.hid (Kr.refl B pb rb w)
  have HF0 := Lib.hid h.fin
  have c20 := h.fin.c20
  have c17 := h.fin.c17
  have HL0 := Lib.hid h
  have hT : Hid (parT 125 = (Tree.read fun _ => Tree.ret 29)) := Lib.hid (by rfl)
  clear h hB
  go_enter Tryf.func32, Tryf.ntmps32
  go_wp2_with (first | (go_at_call 29; refine (rune_c HL0.out HB.out (by decide) (by decide)).mono ?_; rintro e w1 ⟨rfl, hf, hl, hk⟩; dsimp only; have c20 := hf.c20; have c17 := hf.c17; have HF1 := Lib.hid hf; have HL1 := Lib.hid hl; have HK1 := Lib.hid (HK0.out.trans hk); clear hf hl hk) | (go_at_call 45; refine (in_run _ _ _).mono ?_; rintro e w' ⟨rfl, rfl⟩; dsimp only))
  all_goals (first | go_ret | skip)
  all_goals (first | exact tokP_of 1 (by rw [hT.out]; first | (simp [Tree.run, *]; done) | (simp at *; simp [Tree.run, *]; done)) HF1.out (by omega) HK1.out | exact tokP_of 0 (by rw [hT.out]; first | (simp [Tree.run, *]; done) | (simp at *; simp [Tree.run, *]; done)) HF0.out (by omega) HK0.out)

set_option maxRecDepth 100000 in
set_option maxHeartbeats 3200000 in
theorem param_58 {w : World} {B pb rb fb : Nat} {ea : Addr} {F : Interp} {lv : Int} {u : List UInt8} {c : Int} (h : LexC w B pb rb fb ea F lv 58 u 1 c 5) (hB : 0 < B) : Calls Tryf.prog 32 #[.pointer (some ⟨pb, 0, none⟩), .int .i32 58] w (TokP (parT 58) 58 u w B pb rb c lv) := by
  have HB := Lib.hid hB
  have HK0 := Lib.hid (Kr.refl B pb rb w)
  have HF0 := Lib.hid h.fin
  have c20 := h.fin.c20
  have c17 := h.fin.c17
  have HL0 := Lib.hid h
  have hT : Hid (parT 58 = Tree.read fun a => if a = 43 then (Tree.read fun _ => Tree.ret 82) else if a = 45 then (Tree.read fun _ => Tree.ret 84) else if a = 63 then (Tree.read fun _ => Tree.ret 86) else if a = 61 then (Tree.read fun _ => Tree.ret 88) else if a = 35 then (Tree.read fun _ => Tree.ret 93) else if a = 124 then (Tree.read fun _ => Tree.ret 94) else if a = 42 then (Tree.read fun _ => Tree.ret 95) else Tree.ret 104) := Lib.hid (by rfl)
  clear h hB
  go_enter Tryf.func32, Tryf.ntmps32
  go_wp2_with (first | (go_at_call 29; refine (rune_c (HL1.out (by first | omega | (simp at *; omega))) HB.out (by first | omega | (simp at *; omega)) (by first | omega | (simp at *; omega))).mono ?_; rintro e w2 ⟨rfl, hf, hl, hk⟩; dsimp only; have c20 := hf.c20; have c17 := hf.c17; have HF2 := Lib.hid hf; have HL2 := Lib.hid hl; have HK2 := Lib.hid (HK1.out.trans hk); clear hf hl hk) | (go_at_call 29; refine (rune_c HL0.out HB.out (by decide) (by decide)).mono ?_; rintro e w1 ⟨rfl, hf, hl, hk⟩; dsimp only; have c20 := hf.c20; have c17 := hf.c17; have HF1 := Lib.hid hf; have HL1 := Lib.hid hl; have HK1 := Lib.hid (HK0.out.trans hk); clear hf hl hk) | (go_at_call 45; refine (in_run _ _ _).mono ?_; rintro e w' ⟨rfl, rfl⟩; dsimp only))
  all_goals (first | go_ret | skip)
  all_goals (first | exact tokP_of 2 (by rw [hT.out]; first | (simp [Tree.run, *]; done) | (simp at *; simp [Tree.run, *]; done)) HF2.out (by omega) HK2.out | exact tokP_of 1 (by rw [hT.out]; first | (simp [Tree.run, *]; done) | (simp at *; simp [Tree.run, *]; done)) HF1.out (by omega) HK1.out | exact tokP_of 0 (by rw [hT.out]; first | (simp [Tree.run, *]; done) | (simp at *; simp [Tree.run, *]; done)) HF0.out (by omega) HK0.out)

set_option maxRecDepth 100000 in
set_option maxHeartbeats 3200000 in
theorem param_43 {w : World} {B pb rb fb : Nat} {ea : Addr} {F : Interp} {lv : Int} {u : List UInt8} {c : Int} (h : LexC w B pb rb fb ea F lv 43 u 1 c 5) (hB : 0 < B) : Calls Tryf.prog 32 #[.pointer (some ⟨pb, 0, none⟩), .int .i32 43] w (TokP (parT 43) 43 u w B pb rb c lv) := by
  have HB := Lib.hid hB
  have HK0 := Lib.hid (Kr.refl B pb rb w)
  have HF0 := Lib.hid h.fin
  have c20 := h.fin.c20
  have c17 := h.fin.c17
  have HL0 := Lib.hid h
  have hT : Hid (parT 43 = (Tree.read fun _ => Tree.ret 81)) := Lib.hid (by rfl)
  clear h hB
  go_enter Tryf.func32, Tryf.ntmps32
  go_wp2_with (first | (go_at_call 29; refine (rune_c HL0.out HB.out (by decide) (by decide)).mono ?_; rintro e w1 ⟨rfl, hf, hl, hk⟩; dsimp only; have c20 := hf.c20; have c17 := hf.c17; have HF1 := Lib.hid hf; have HL1 := Lib.hid hl; have HK1 := Lib.hid (HK0.out.trans hk); clear hf hl hk) | (go_at_call 45; refine (in_run _ _ _).mono ?_; rintro e w' ⟨rfl, rfl⟩; dsimp only))
  all_goals (first | go_ret | skip)
  all_goals (first | exact tokP_of 1 (by rw [hT.out]; first | (simp [Tree.run, *]; done) | (simp at *; simp [Tree.run, *]; done)) HF1.out (by omega) HK1.out | exact tokP_of 0 (by rw [hT.out]; first | (simp [Tree.run, *]; done) | (simp at *; simp [Tree.run, *]; done)) HF0.out (by omega) HK0.out)

set_option maxRecDepth 100000 in
set_option maxHeartbeats 3200000 in
theorem param_45 {w : World} {B pb rb fb : Nat} {ea : Addr} {F : Interp} {lv : Int} {u : List UInt8} {c : Int} (h : LexC w B pb rb fb ea F lv 45 u 1 c 5) (hB : 0 < B) : Calls Tryf.prog 32 #[.pointer (some ⟨pb, 0, none⟩), .int .i32 45] w (TokP (parT 45) 45 u w B pb rb c lv) := by
  have HB := Lib.hid hB
  have HK0 := Lib.hid (Kr.refl B pb rb w)
  have HF0 := Lib.hid h.fin
  have c20 := h.fin.c20
  have c17 := h.fin.c17
  have HL0 := Lib.hid h
  have hT : Hid (parT 45 = (Tree.read fun _ => Tree.ret 83)) := Lib.hid (by rfl)
  clear h hB
  go_enter Tryf.func32, Tryf.ntmps32
  go_wp2_with (first | (go_at_call 29; refine (rune_c HL0.out HB.out (by decide) (by decide)).mono ?_; rintro e w1 ⟨rfl, hf, hl, hk⟩; dsimp only; have c20 := hf.c20; have c17 := hf.c17; have HF1 := Lib.hid hf; have HL1 := Lib.hid hl; have HK1 := Lib.hid (HK0.out.trans hk); clear hf hl hk) | (go_at_call 45; refine (in_run _ _ _).mono ?_; rintro e w' ⟨rfl, rfl⟩; dsimp only))
  all_goals (first | go_ret | skip)
  all_goals (first | exact tokP_of 1 (by rw [hT.out]; first | (simp [Tree.run, *]; done) | (simp at *; simp [Tree.run, *]; done)) HF1.out (by omega) HK1.out | exact tokP_of 0 (by rw [hT.out]; first | (simp [Tree.run, *]; done) | (simp at *; simp [Tree.run, *]; done)) HF0.out (by omega) HK0.out)

set_option maxRecDepth 100000 in
set_option maxHeartbeats 3200000 in
theorem param_63 {w : World} {B pb rb fb : Nat} {ea : Addr} {F : Interp} {lv : Int} {u : List UInt8} {c : Int} (h : LexC w B pb rb fb ea F lv 63 u 1 c 5) (hB : 0 < B) : Calls Tryf.prog 32 #[.pointer (some ⟨pb, 0, none⟩), .int .i32 63] w (TokP (parT 63) 63 u w B pb rb c lv) := by
  have HB := Lib.hid hB
  have HK0 := Lib.hid (Kr.refl B pb rb w)
  have HF0 := Lib.hid h.fin
  have c20 := h.fin.c20
  have c17 := h.fin.c17
  have HL0 := Lib.hid h
  have hT : Hid (parT 63 = (Tree.read fun _ => Tree.ret 85)) := Lib.hid (by rfl)
  clear h hB
  go_enter Tryf.func32, Tryf.ntmps32
  go_wp2_with (first | (go_at_call 29; refine (rune_c HL0.out HB.out (by decide) (by decide)).mono ?_; rintro e w1 ⟨rfl, hf, hl, hk⟩; dsimp only; have c20 := hf.c20; have c17 := hf.c17; have HF1 := Lib.hid hf; have HL1 := Lib.hid hl; have HK1 := Lib.hid (HK0.out.trans hk); clear hf hl hk) | (go_at_call 45; refine (in_run _ _ _).mono ?_; rintro e w' ⟨rfl, rfl⟩; dsimp only))
  all_goals (first | go_ret | skip)
  all_goals (first | exact tokP_of 1 (by rw [hT.out]; first | (simp [Tree.run, *]; done) | (simp at *; simp [Tree.run, *]; done)) HF1.out (by omega) HK1.out | exact tokP_of 0 (by rw [hT.out]; first | (simp [Tree.run, *]; done) | (simp at *; simp [Tree.run, *]; done)) HF0.out (by omega) HK0.out)

set_option maxRecDepth 100000 in
set_option maxHeartbeats 3200000 in
theorem param_61 {w : World} {B pb rb fb : Nat} {ea : Addr} {F : Interp} {lv : Int} {u : List UInt8} {c : Int} (h : LexC w B pb rb fb ea F lv 61 u 1 c 5) (hB : 0 < B) : Calls Tryf.prog 32 #[.pointer (some ⟨pb, 0, none⟩), .int .i32 61] w (TokP (parT 61) 61 u w B pb rb c lv) := by
  have HB := Lib.hid hB
  have HK0 := Lib.hid (Kr.refl B pb rb w)
  have HF0 := Lib.hid h.fin
  have c20 := h.fin.c20
  have c17 := h.fin.c17
  have HL0 := Lib.hid h
  have hT : Hid (parT 61 = (Tree.read fun _ => Tree.ret 87)) := Lib.hid (by rfl)
  clear h hB
  go_enter Tryf.func32, Tryf.ntmps32
  go_wp2_with (first | (go_at_call 29; refine (rune_c HL0.out HB.out (by decide) (by decide)).mono ?_; rintro e w1 ⟨rfl, hf, hl, hk⟩; dsimp only; have c20 := hf.c20; have c17 := hf.c17; have HF1 := Lib.hid hf; have HL1 := Lib.hid hl; have HK1 := Lib.hid (HK0.out.trans hk); clear hf hl hk) | (go_at_call 45; refine (in_run _ _ _).mono ?_; rintro e w' ⟨rfl, rfl⟩; dsimp only))
  all_goals (first | go_ret | skip)
  all_goals (first | exact tokP_of 1 (by rw [hT.out]; first | (simp [Tree.run, *]; done) | (simp at *; simp [Tree.run, *]; done)) HF1.out (by omega) HK1.out | exact tokP_of 0 (by rw [hT.out]; first | (simp [Tree.run, *]; done) | (simp at *; simp [Tree.run, *]; done)) HF0.out (by omega) HK0.out)

set_option maxRecDepth 100000 in
set_option maxHeartbeats 3200000 in
theorem param_37 {w : World} {B pb rb fb : Nat} {ea : Addr} {F : Interp} {lv : Int} {u : List UInt8} {c : Int} (h : LexC w B pb rb fb ea F lv 37 u 1 c 5) (hB : 0 < B) : Calls Tryf.prog 32 #[.pointer (some ⟨pb, 0, none⟩), .int .i32 37] w (TokP (parT 37) 37 u w B pb rb c lv) := by
  have HB := Lib.hid hB
  have HK0 := Lib.hid (Kr.refl B pb rb w)
  have HF0 := Lib.hid h.fin
  have c20 := h.fin.c20
  have c17 := h.fin.c17
  have HL0 := Lib.hid h
  have hT : Hid (parT 37 = (Tree.read fun a => if a = 37 then (Tree.read fun _ => Tree.ret 90) else Tree.ret 89)) := Lib.hid (by rfl)
  clear h hB
  go_enter Tryf.func32, Tryf.ntmps32
  go_wp2_with (first | (go_at_call 29; refine (rune_c (HL1.out (by first | omega | (simp at *; omega))) HB.out (by first | omega | (simp at *; omega)) (by first | omega | (simp at *; omega))).mono ?_; rintro e w2 ⟨rfl, hf, hl, hk⟩; dsimp only; have c20 := hf.c20; have c17 := hf.c17; have HF2 := Lib.hid hf; have HL2 := Lib.hid hl; have HK2 := Lib.hid (HK1.out.trans hk); clear hf hl hk) | (go_at_call 29; refine (rune_c HL0.out HB.out (by decide) (by decide)).mono ?_; rintro e w1 ⟨rfl, hf, hl, hk⟩; dsimp only; have c20 := hf.c20; have c17 := hf.c17; have HF1 := Lib.hid hf; have HL1 := Lib.hid hl; have HK1 := Lib.hid (HK0.out.trans hk); clear hf hl hk) | (go_at_call 45; refine (in_run _ _ _).mono ?_; rintro e w' ⟨rfl, rfl⟩; dsimp only))
  all_goals (first | go_ret | skip)
  all_goals (first | exact tokP_of 2 (by rw [hT.out]; first | (simp [Tree.run, *]; done) | (simp at *; simp [Tree.run, *]; done)) HF2.out (by omega) HK2.out | exact tokP_of 1 (by rw [hT.out]; first | (simp [Tree.run, *]; done) | (simp at *; simp [Tree.run, *]; done)) HF1.out (by omega) HK1.out | exact tokP_of 0 (by rw [hT.out]; first | (simp [Tree.run, *]; done) | (simp at *; simp [Tree.run, *]; done)) HF0.out (by omega) HK0.out)

set_option maxRecDepth 100000 in
set_option maxHeartbeats 3200000 in
theorem param_35 {w : World} {B pb rb fb : Nat} {ea : Addr} {F : Interp} {lv : Int} {u : List UInt8} {c : Int} (h : LexC w B pb rb fb ea F lv 35 u 1 c 5) (hB : 0 < B) : Calls Tryf.prog 32 #[.pointer (some ⟨pb, 0, none⟩), .int .i32 35] w (TokP (parT 35) 35 u w B pb rb c lv) := by
  have HB := Lib.hid hB
  have HK0 := Lib.hid (Kr.refl B pb rb w)
  have HF0 := Lib.hid h.fin
  have c20 := h.fin.c20
  have c17 := h.fin.c17
  have HL0 := Lib.hid h
  have hT : Hid (parT 35 = (Tree.read fun a => if a = 35 then (Tree.read fun _ => Tree.ret 92) else Tree.ret 91)) := Lib.hid (by rfl)
  clear h hB
  go_enter Tryf.func32, Tryf.ntmps32
  go_wp2_with (first | (go_at_call 29; refine (rune_c (HL1.out (by first | omega | (simp at *; omega))) HB.out (by first | omega | (simp at *; omega)) (by first | omega | (simp at *; omega))).mono ?_; rintro e w2 ⟨rfl, hf, hl, hk⟩; dsimp only; have c20 := hf.c20; have c17 := hf.c17; have HF2 := Lib.hid hf; have HL2 := Lib.hid hl; have HK2 := Lib.hid (HK1.out.trans hk); clear hf hl hk) | (go_at_call 29; refine (rune_c HL0.out HB.out (by decide) (by decide)).mono ?_; rintro e w1 ⟨rfl, hf, hl, hk⟩; dsimp only; have c20 := hf.c20; have c17 := hf.c17; have HF1 := Lib.hid hf; have HL1 := Lib.hid hl; have HK1 := Lib.hid (HK0.out.trans hk); clear hf hl hk) | (go_at_call 45; refine (in_run _ _ _).mono ?_; rintro e w' ⟨rfl, rfl⟩; dsimp only))
  all_goals (first | go_ret | skip)
  all_goals (first | exact tokP_of 2 (by rw [hT.out]; first | (simp [Tree.run, *]; done) | (simp at *; simp [Tree.run, *]; done)) HF2.out (by omega) HK2.out | exact tokP_of 1 (by rw [hT.out]; first | (simp [Tree.run, *]; done) | (simp at *; simp [Tree.run, *]; done)) HF1.out (by omega) HK1.out | exact tokP_of 0 (by rw [hT.out]; first | (simp [Tree.run, *]; done) | (simp at *; simp [Tree.run, *]; done)) HF0.out (by omega) HK0.out)

set_option maxRecDepth 100000 in
set_option maxHeartbeats 3200000 in
theorem param_33 {w : World} {B pb rb fb : Nat} {ea : Addr} {F : Interp} {lv : Int} {u : List UInt8} {c : Int} (h : LexC w B pb rb fb ea F lv 33 u 1 c 5) (hB : 0 < B) : Calls Tryf.prog 32 #[.pointer (some ⟨pb, 0, none⟩), .int .i32 33] w (TokP (parT 33) 33 u w B pb rb c lv) := by
  have HB := Lib.hid hB
  have HK0 := Lib.hid (Kr.refl B pb rb w)
  have HF0 := Lib.hid h.fin
  have c20 := h.fin.c20
  have c17 := h.fin.c17
  have HL0 := Lib.hid h
  have hT : Hid (parT 33 = (Tree.read fun _ => Tree.ret 39)) := Lib.hid (by rfl)
  clear h hB
  go_enter Tryf.func32, Tryf.ntmps32
  go_wp2_with (first | (go_at_call 29; refine (rune_c HL0.out HB.out (by decide) (by decide)).mono ?_; rintro e w1 ⟨rfl, hf, hl, hk⟩; dsimp only; have c20 := hf.c20; have c17 := hf.c17; have HF1 := Lib.hid hf; have HL1 := Lib.hid hl; have HK1 := Lib.hid (HK0.out.trans hk); clear hf hl hk) | (go_at_call 45; refine (in_run _ _ _).mono ?_; rintro e w' ⟨rfl, rfl⟩; dsimp only))
  all_goals (first | go_ret | skip)
  all_goals (first | exact tokP_of 1 (by rw [hT.out]; first | (simp [Tree.run, *]; done) | (simp at *; simp [Tree.run, *]; done)) HF1.out (by omega) HK1.out | exact tokP_of 0 (by rw [hT.out]; first | (simp [Tree.run, *]; done) | (simp at *; simp [Tree.run, *]; done)) HF0.out (by omega) HK0.out)

set_option maxRecDepth 100000 in
set_option maxHeartbeats 3200000 in
theorem param_93 {w : World} {B pb rb fb : Nat} {ea : Addr} {F : Interp} {lv : Int} {u : List UInt8} {c : Int} (h : LexC w B pb rb fb ea F lv 93 u 1 c 5) (hB : 0 < B) : Calls Tryf.prog 32 #[.pointer (some ⟨pb, 0, none⟩), .int .i32 93] w (TokP (parT 93) 93 u w B pb rb c lv) := by
  have HB := Lib.hid hB
  have HK0 := Lib.hid (Kr.refl B pb rb w)
  have HF0 := Lib.hid h.fin
  have c20 := h.fin.c20
  have c17 := h.fin.c17
  have HL0 := Lib.hid h
  have hT : Hid (parT 93 = (Tree.read fun _ => Tree.ret 30)) := Lib.hid (by rfl)
  clear h hB
  go_enter Tryf.func32, Tryf.ntmps32
  go_wp2_with (first | (go_at_call 29; refine (rune_c HL0.out HB.out (by decide) (by decide)).mono ?_; rintro e w1 ⟨rfl, hf, hl, hk⟩; dsimp only; have c20 := hf.c20; have c17 := hf.c17; have HF1 := Lib.hid hf; have HL1 := Lib.hid hl; have HK1 := Lib.hid (HK0.out.trans hk); clear hf hl hk) | (go_at_call 45; refine (in_run _ _ _).mono ?_; rintro e w' ⟨rfl, rfl⟩; dsimp only))
  all_goals (first | go_ret | skip)
  all_goals (first | exact tokP_of 1 (by rw [hT.out]; first | (simp [Tree.run, *]; done) | (simp at *; simp [Tree.run, *]; done)) HF1.out (by omega) HK1.out | exact tokP_of 0 (by rw [hT.out]; first | (simp [Tree.run, *]; done) | (simp at *; simp [Tree.run, *]; done)) HF0.out (by omega) HK0.out)

set_option maxRecDepth 100000 in
set_option maxHeartbeats 3200000 in
theorem param_47 {w : World} {B pb rb fb : Nat} {ea : Addr} {F : Interp} {lv : Int} {u : List UInt8} {c : Int} (h : LexC w B pb rb fb ea F lv 47 u 1 c 5) (hB : 0 < B) : Calls Tryf.prog 32 #[.pointer (some ⟨pb, 0, none⟩), .int .i32 47] w (TokP (parT 47) 47 u w B pb rb c lv) := by
  have HB := Lib.hid hB
  have HK0 := Lib.hid (Kr.refl B pb rb w)
  have HF0 := Lib.hid h.fin
  have c20 := h.fin.c20
  have c17 := h.fin.c17
  have HL0 := Lib.hid h
  have hT : Hid (parT 47 = (Tree.read fun a => if a = 47 then (Tree.read fun _ => Tree.ret 102) else Tree.ret 101)) := Lib.hid (by rfl)
  clear h hB
  go_enter Tryf.func32, Tryf.ntmps32
  go_wp2_with (first | (go_at_call 29; refine (rune_c (HL1.out (by first | omega | (simp at *; omega))) HB.out (by first | omega | (simp at *; omega)) (by first | omega | (simp at *; omega))).mono ?_; rintro e w2 ⟨rfl, hf, hl, hk⟩; dsimp only; have c20 := hf.c20; have c17 := hf.c17; have HF2 := Lib.hid hf; have HL2 := Lib.hid hl; have HK2 := Lib.hid (HK1.out.trans hk); clear hf hl hk) | (go_at_call 29; refine (rune_c HL0.out HB.out (by decide) (by decide)).mono ?_; rintro e w1 ⟨rfl, hf, hl, hk⟩; dsimp only; have c20 := hf.c20; have c17 := hf.c17; have HF1 := Lib.hid hf; have HL1 := Lib.hid hl; have HK1 := Lib.hid (HK0.out.trans hk); clear hf hl hk) | (go_at_call 45; refine (in_run _ _ _).mono ?_; rintro e w' ⟨rfl, rfl⟩; dsimp only))
  all_goals (first | go_ret | skip)
  all_goals (first | exact tokP_of 2 (by rw [hT.out]; first | (simp [Tree.run, *]; done) | (simp at *; simp [Tree.run, *]; done)) HF2.out (by omega) HK2.out | exact tokP_of 1 (by rw [hT.out]; first | (simp [Tree.run, *]; done) | (simp at *; simp [Tree.run, *]; done)) HF1.out (by omega) HK1.out | exact tokP_of 0 (by rw [hT.out]; first | (simp [Tree.run, *]; done) | (simp at *; simp [Tree.run, *]; done)) HF0.out (by omega) HK0.out)

set_option maxRecDepth 100000 in
set_option maxHeartbeats 3200000 in
theorem param_94 {w : World} {B pb rb fb : Nat} {ea : Addr} {F : Interp} {lv : Int} {u : List UInt8} {c : Int} (h : LexC w B pb rb fb ea F lv 94 u 1 c 5) (hB : 0 < B) : Calls Tryf.prog 32 #[.pointer (some ⟨pb, 0, none⟩), .int .i32 94] w (TokP (parT 94) 94 u w B pb rb c lv) := by
  have HB := Lib.hid hB
  have HK0 := Lib.hid (Kr.refl B pb rb w)
  have HF0 := Lib.hid h.fin
  have c20 := h.fin.c20
  have c17 := h.fin.c17
  have HL0 := Lib.hid h
  have hT : Hid (parT 94 = (Tree.read fun a => if a = 94 then (Tree.read fun _ => Tree.ret 97) else Tree.ret 96)) := Lib.hid (by rfl)
  clear h hB
  go_enter Tryf.func32, Tryf.ntmps32
  go_wp2_with (first | (go_at_call 29; refine (rune_c (HL1.out (by first | omega | (simp at *; omega))) HB.out (by first | omega | (simp at *; omega)) (by first | omega | (simp at *; omega))).mono ?_; rintro e w2 ⟨rfl, hf, hl, hk⟩; dsimp only; have c20 := hf.c20; have c17 := hf.c17; have HF2 := Lib.hid hf; have HL2 := Lib.hid hl; have HK2 := Lib.hid (HK1.out.trans hk); clear hf hl hk) | (go_at_call 29; refine (rune_c HL0.out HB.out (by decide) (by decide)).mono ?_; rintro e w1 ⟨rfl, hf, hl, hk⟩; dsimp only; have c20 := hf.c20; have c17 := hf.c17; have HF1 := Lib.hid hf; have HL1 := Lib.hid hl; have HK1 := Lib.hid (HK0.out.trans hk); clear hf hl hk) | (go_at_call 45; refine (in_run _ _ _).mono ?_; rintro e w' ⟨rfl, rfl⟩; dsimp only))
  all_goals (first | go_ret | skip)
  all_goals (first | exact tokP_of 2 (by rw [hT.out]; first | (simp [Tree.run, *]; done) | (simp at *; simp [Tree.run, *]; done)) HF2.out (by omega) HK2.out | exact tokP_of 1 (by rw [hT.out]; first | (simp [Tree.run, *]; done) | (simp at *; simp [Tree.run, *]; done)) HF1.out (by omega) HK1.out | exact tokP_of 0 (by rw [hT.out]; first | (simp [Tree.run, *]; done) | (simp at *; simp [Tree.run, *]; done)) HF0.out (by omega) HK0.out)

set_option maxRecDepth 100000 in
set_option maxHeartbeats 3200000 in
theorem param_44 {w : World} {B pb rb fb : Nat} {ea : Addr} {F : Interp} {lv : Int} {u : List UInt8} {c : Int} (h : LexC w B pb rb fb ea F lv 44 u 1 c 5) (hB : 0 < B) : Calls Tryf.prog 32 #[.pointer (some ⟨pb, 0, none⟩), .int .i32 44] w (TokP (parT 44) 44 u w B pb rb c lv) := by
  have HB := Lib.hid hB
  have HK0 := Lib.hid (Kr.refl B pb rb w)
  have HF0 := Lib.hid h.fin
  have c20 := h.fin.c20
  have c17 := h.fin.c17
  have HL0 := Lib.hid h
  have hT : Hid (parT 44 = (Tree.read fun a => if a = 44 then (Tree.read fun _ => Tree.ret 99) else Tree.ret 98)) := Lib.hid (by rfl)
  clear h hB
  go_enter Tryf.func32, Tryf.ntmps32
  go_wp2_with (first | (go_at_call 29; refine (rune_c (HL1.out (by first | omega | (simp at *; omega))) HB.out (by first | omega | (simp at *; omega)) (by first | omega | (simp at *; omega))).mono ?_; rintro e w2 ⟨rfl, hf, hl, hk⟩; dsimp only; have c20 := hf.c20; have c17 := hf.c17; have HF2 := Lib.hid hf; have HL2 := Lib.hid hl; have HK2 := Lib.hid (HK1.out.trans hk); clear hf hl hk) | (go_at_call 29; refine (rune_c HL0.out HB.out (by decide) (by decide)).mono ?_; rintro e w1 ⟨rfl, hf, hl, hk⟩; dsimp only; have c20 := hf.c20; have c17 := hf.c17; have HF1 := Lib.hid hf; have HL1 := Lib.hid hl; have HK1 := Lib.hid (HK0.out.trans hk); clear hf hl hk) | (go_at_call 45; refine (in_run _ _ _).mono ?_; rintro e w' ⟨rfl, rfl⟩; dsimp only))
  all_goals (first | go_ret | skip)
  all_goals (first | exact tokP_of 2 (by rw [hT.out]; first | (simp [Tree.run, *]; done) | (simp at *; simp [Tree.run, *]; done)) HF2.out (by omega) HK2.out | exact tokP_of 1 (by rw [hT.out]; first | (simp [Tree.run, *]; done) | (simp at *; simp [Tree.run, *]; done)) HF1.out (by omega) HK1.out | exact tokP_of 0 (by rw [hT.out]; first | (simp [Tree.run, *]; done) | (simp at *; simp [Tree.run, *]; done)) HF0.out (by omega) HK0.out)

set_option maxRecDepth 100000 in
set_option maxHeartbeats 3200000 in
theorem param_64 {w : World} {B pb rb fb : Nat} {ea : Addr} {F : Interp} {lv : Int} {u : List UInt8} {c : Int} (h : LexC w B pb rb fb ea F lv 64 u 1 c 5) (hB : 0 < B) : Calls Tryf.prog 32 #[.pointer (some ⟨pb, 0, none⟩), .int .i32 64] w (TokP (parT 64) 64 u w B pb rb c lv) := by
  have HB := Lib.hid hB
  have HK0 := Lib.hid (Kr.refl B pb rb w)
  have HF0 := Lib.hid h.fin
  have c20 := h.fin.c20
  have c17 := h.fin.c17
  have HL0 := Lib.hid h
  have hT : Hid (parT 64 = (Tree.read fun _ => Tree.ret 100)) := Lib.hid (by rfl)
  clear h hB
  go_enter Tryf.func32, Tryf.ntmps32
  go_wp2_with (first | (go_at_call 29; refine (rune_c HL0.out HB.out (by decide) (by decide)).mono ?_; rintro e w1 ⟨rfl, hf, hl, hk⟩; dsimp only; have c20 := hf.c20; have c17 := hf.c17; have HF1 := Lib.hid hf; have HL1 := Lib.hid hl; have HK1 := Lib.hid (HK0.out.trans hk); clear hf hl hk) | (go_at_call 45; refine (in_run _ _ _).mono ?_; rintro e w' ⟨rfl, rfl⟩; dsimp only))
  all_goals (first | go_ret | skip)
  all_goals (first | exact tokP_of 1 (by rw [hT.out]; first | (simp [Tree.run, *]; done) | (simp at *; simp [Tree.run, *]; done)) HF1.out (by omega) HK1.out | exact tokP_of 0 (by rw [hT.out]; first | (simp [Tree.run, *]; done) | (simp at *; simp [Tree.run, *]; done)) HF0.out (by omega) HK0.out)

set_option maxRecDepth 100000 in
set_option maxHeartbeats 3200000 in
theorem param_42 {w : World} {B pb rb fb : Nat} {ea : Addr} {F : Interp} {lv : Int} {u : List UInt8} {c : Int} (h : LexC w B pb rb fb ea F lv 42 u 1 c 5) (hB : 0 < B) : Calls Tryf.prog 32 #[.pointer (some ⟨pb, 0, none⟩), .int .i32 42] w (TokP (parT 42) 42 u w B pb rb c lv) := by
  have HB := Lib.hid hB
  have HK0 := Lib.hid (Kr.refl B pb rb w)
  have HF0 := Lib.hid h.fin
  have c20 := h.fin.c20
  have c17 := h.fin.c17
  have HL0 := Lib.hid h
  have hT : Hid (parT 42 = (Tree.read fun _ => Tree.ret 43)) := Lib.hid (by rfl)
  clear h hB
  go_enter Tryf.func32, Tryf.ntmps32
  go_wp2_with (first | (go_at_call 29; refine (rune_c HL0.out HB.out (by decide) (by decide)).mono ?_; rintro e w1 ⟨rfl, hf, hl, hk⟩; dsimp only; have c20 := hf.c20; have c17 := hf.c17; have HF1 := Lib.hid hf; have HL1 := Lib.hid hl; have HK1 := Lib.hid (HK0.out.trans hk); clear hf hl hk) | (go_at_call 45; refine (in_run _ _ _).mono ?_; rintro e w' ⟨rfl, rfl⟩; dsimp only))
  all_goals (first | go_ret | skip)
  all_goals (first | exact tokP_of 1 (by rw [hT.out]; first | (simp [Tree.run, *]; done) | (simp at *; simp [Tree.run, *]; done)) HF1.out (by omega) HK1.out | exact tokP_of 0 (by rw [hT.out]; first | (simp [Tree.run, *]; done) | (simp at *; simp [Tree.run, *]; done)) HF0.out (by omega) HK0.out)

end
section
open Go.RowKit Go.Stop Go.Extern

set_option maxRecDepth 100000 in
set_option maxHeartbeats 3200000 in
theorem dq_34 {w : World} {B pb rb fb : Nat} {ea : Addr} {F : Interp} {lv : Int} {u : List UInt8} {c : Int} (h : LexC w B pb rb fb ea F lv 34 u 1 c 5) (hB : 0 < B) : Calls Tryf.prog 31 #[.pointer (some ⟨pb, 0, none⟩), .int .i32 34] w (TokP (dqT lv 34) 34 u w B pb rb c lv) := by
  have HB := Lib.hid hB
  have HK0 := Lib.hid (Kr.refl B pb rb w)
  have HF0 := Lib.hid h.fin
  have c20 := h.fin.c20
  have c17 := h.fin.c17
  have HL0 := Lib.hid h
  have hT : Hid (dqT lv 34 = (Tree.read fun _ => Tree.ret 8)) := Lib.hid (by rfl)
  clear h hB
  go_enter Tryf.func31, Tryf.ntmps31
  go_wp2_with (first | (go_at_call 29; refine (rune_c HL0.out HB.out (by decide) (by decide)).mono ?_; rintro e w1 ⟨rfl, hf, hl, hk⟩; dsimp only; have c20 := hf.c20; have c17 := hf.c17; have HF1 := Lib.hid hf; have HL1 := Lib.hid hl; have HK1 := Lib.hid (HK0.out.trans hk); clear hf hl hk) | (go_at_call 45; refine (in_run _ _ _).mono ?_; rintro e w' ⟨rfl, rfl⟩; dsimp only))
  all_goals (first | go_ret | skip)
  all_goals (first | exact tokP_of 1 (by rw [hT.out]; first | (simp [Tree.run, *]; done) | (simp at *; simp [Tree.run, *]; done)) HF1.out (by omega) HK1.out | exact tokP_of 0 (by rw [hT.out]; first | (simp [Tree.run, *]; done) | (simp at *; simp [Tree.run, *]; done)) HF0.out (by omega) HK0.out)

set_option maxRecDepth 100000 in
set_option maxHeartbeats 3200000 in
theorem dq_96 {w : World} {B pb rb fb : Nat} {ea : Addr} {F : Interp} {lv : Int} {u : List UInt8} {c : Int} (h : LexC w B pb rb fb ea F lv 96 u 1 c 5) (hB : 0 < B) : Calls Tryf.prog 31 #[.pointer (some ⟨pb, 0, none⟩), .int .i32 96] w (TokP (dqT lv 96) 96 u w B pb rb c lv) := by
  have HB := Lib.hid hB
  have HK0 := Lib.hid (Kr.refl B pb rb w)
  have HF0 := Lib.hid h.fin
  have c20 := h.fin.c20
  have c17 := h.fin.c17
  have HL0 := Lib.hid h
  have hT : Hid (dqT lv 96 = Tree.ret 9) := Lib.hid (by rfl)
  clear h hB
  go_enter Tryf.func31, Tryf.ntmps31
  go_wp2_with (first | (go_at_call 45; refine (in_run _ _ _).mono ?_; rintro e w' ⟨rfl, rfl⟩; dsimp only))
  all_goals (first | go_ret | skip)
  all_goals (first | exact tokP_of 0 (by rw [hT.out]; first | (simp [Tree.run, *]; done) | (simp at *; simp [Tree.run, *]; done)) HF0.out (by omega) HK0.out)

set_option maxRecDepth 100000 in
set_option maxHeartbeats 3200000 in
theorem dq_36 {w : World} {B pb rb fb : Nat} {ea : Addr} {F : Interp} {lv : Int} {u : List UInt8} {c : Int} (h : LexC w B pb rb fb ea F lv 36 u 1 c 5) (hB : 0 < B) : Calls Tryf.prog 31 #[.pointer (some ⟨pb, 0, none⟩), .int .i32 36] w (TokP (dqT lv 36) 36 u w B pb rb c lv) := by
  have HB := Lib.hid hB
  have HK0 := Lib.hid (Kr.refl B pb rb w)
  have HF0 := Lib.hid h.fin
  have c20 := h.fin.c20
  have c17 := h.fin.c17
  have HL0 := Lib.hid h
  have hT : Hid (dqT lv 36 = Tree.read fun a => if a = 123 then (Tree.read fun _ => Tree.ret 20) else if a = 91 then (if inL lv 9 then (Tree.read fun _ => Tree.ret 21) else Tree.ret 17) else if a = 40 then (Tree.read fun b => if b = 40 then (Tree.read fun _ => Tree.ret 23) else Tree.ret 22) else Tree.ret 17) := Lib.hid (by rfl)
  clear h hB
  go_enter Tryf.func31, Tryf.ntmps31
  go_wp2_with (first | (go_at_call 29; refine (rune_c (HL2.out (by first | omega | (simp at *; omega))) HB.out (by first | omega | (simp at *; omega)) (by first | omega | (simp at *; omega))).mono ?_; rintro e w3 ⟨rfl, hf, hl, hk⟩; dsimp only; have c20 := hf.c20; have c17 := hf.c17; have HF3 := Lib.hid hf; have HL3 := Lib.hid hl; have HK3 := Lib.hid (HK2.out.trans hk); clear hf hl hk) | (go_at_call 29; refine (rune_c (HL1.out (by first | omega | (simp at *; omega))) HB.out (by first | omega | (simp at *; omega)) (by first | omega | (simp at *; omega))).mono ?_; rintro e w2 ⟨rfl, hf, hl, hk⟩; dsimp only; have c20 := hf.c20; have c17 := hf.c17; have HF2 := Lib.hid hf; have HL2 := Lib.hid hl; have HK2 := Lib.hid (HK1.out.trans hk); clear hf hl hk) | (go_at_call 29; refine (rune_c HL0.out HB.out (by decide) (by decide)).mono ?_; rintro e w1 ⟨rfl, hf, hl, hk⟩; dsimp only; have c20 := hf.c20; have c17 := hf.c17; have HF1 := Lib.hid hf; have HL1 := Lib.hid hl; have HK1 := Lib.hid (HK0.out.trans hk); clear hf hl hk) | (go_at_call 45; refine (in_run _ _ _).mono ?_; rintro e w' ⟨rfl, rfl⟩; dsimp only))
  all_goals (first | go_ret | skip)
  all_goals (first | exact tokP_of 3 (by rw [hT.out]; first | (simp [Tree.run, *]; done) | (simp at *; simp [Tree.run, *]; done)) HF3.out (by omega) HK3.out | exact tokP_of 2 (by rw [hT.out]; first | (simp [Tree.run, *]; done) | (simp at *; simp [Tree.run, *]; done)) HF2.out (by omega) HK2.out | exact tokP_of 1 (by rw [hT.out]; first | (simp [Tree.run, *]; done) | (simp at *; simp [Tree.run, *]; done)) HF1.out (by omega) HK1.out | exact tokP_of 0 (by rw [hT.out]; first | (simp [Tree.run, *]; done) | (simp at *; simp [Tree.run, *]; done)) HF0.out (by omega) HK0.out)

end
end Go.Proofs.YtolgahamfkaipaaFmt
