/-
  n010_119: regToken, walked (1).
-/
import Derived.Test.YtolgahamfkaipaaFmtTi
namespace Go.Proofs.YtolgahamfkaipaaFmt
section
open Go.RowKit Go.Stop Go.Extern

set_option maxRecDepth 100000 in
set_option maxHeartbeats 3200000 in
theorem reg_39 {w : World} {B pb rb fb : Nat} {ea : Addr} {F : Interp} {lv : Int} {u : List UInt8} {c : Int} (h : LexC w B pb rb fb ea F lv 39 u 1 c 5) (hB : 0 < B) : Calls Tryf.prog 30 #[.pointer (some ⟨pb, 0, none⟩), .int .i32 39] w (TokP (regT lv 39) 39 u w B pb rb c lv) := by
  have HB := Lib.hid hB
  have HK0 := Lib.hid (Kr.refl B pb rb w)
  have HF0 := Lib.hid h.fin
  have c20 := h.fin.c20
  have c17 := h.fin.c17
  have HL0 := Lib.hid h
  have hT : Hid (regT lv 39 = (Tree.read fun _ => Tree.ret 7)) := Lib.hid (by rfl)
  clear h hB
  go_enter Tryf.func30, Tryf.ntmps30
  go_wp2_with (first | (go_at_call 29; refine (rune_c HL0.out HB.out (by decide) (by decide)).mono ?_; rintro e w1 ⟨rfl, hf, hl, hk⟩; dsimp only; have c20 := hf.c20; have c17 := hf.c17; have HF1 := Lib.hid hf; have HL1 := Lib.hid hl; have HK1 := Lib.hid (HK0.out.trans hk); clear hf hl hk) | (go_at_call 45; refine (in_run _ _ _).mono ?_; rintro e w' ⟨rfl, rfl⟩; dsimp only))
  all_goals (first | go_ret | skip)
  all_goals (first | exact tokP_of 1 (by rw [hT.out]; first | (simp [Tree.run, *]; done) | (simp at *; simp [Tree.run, *]; done)) HF1.out (by omega) HK1.out | exact tokP_of 0 (by rw [hT.out]; first | (simp [Tree.run, *]; done) | (simp at *; simp [Tree.run, *]; done)) HF0.out (by omega) HK0.out)

set_option maxRecDepth 100000 in
set_option maxHeartbeats 3200000 in
theorem reg_34 {w : World} {B pb rb fb : Nat} {ea : Addr} {F : Interp} {lv : Int} {u : List UInt8} {c : Int} (h : LexC w B pb rb fb ea F lv 34 u 1 c 5) (hB : 0 < B) : Calls Tryf.prog 30 #[.pointer (some ⟨pb, 0, none⟩), .int .i32 34] w (TokP (regT lv 34) 34 u w B pb rb c lv) := by
  have HB := Lib.hid hB
  have HK0 := Lib.hid (Kr.refl B pb rb w)
  have HF0 := Lib.hid h.fin
  have c20 := h.fin.c20
  have c17 := h.fin.c17
  have HL0 := Lib.hid h
  have hT : Hid (regT lv 34 = (Tree.read fun _ => Tree.ret 8)) := Lib.hid (by rfl)
  clear h hB
  go_enter Tryf.func30, Tryf.ntmps30
  go_wp2_with (first | (go_at_call 29; refine (rune_c HL0.out HB.out (by decide) (by decide)).mono ?_; rintro e w1 ⟨rfl, hf, hl, hk⟩; dsimp only; have c20 := hf.c20; have c17 := hf.c17; have HF1 := Lib.hid hf; have HL1 := Lib.hid hl; have HK1 := Lib.hid (HK0.out.trans hk); clear hf hl hk) | (go_at_call 45; refine (in_run _ _ _).mono ?_; rintro e w' ⟨rfl, rfl⟩; dsimp only))
  all_goals (first | go_ret | skip)
  all_goals (first | exact tokP_of 1 (by rw [hT.out]; first | (simp [Tree.run, *]; done) | (simp at *; simp [Tree.run, *]; done)) HF1.out (by omega) HK1.out | exact tokP_of 0 (by rw [hT.out]; first | (simp [Tree.run, *]; done) | (simp at *; simp [Tree.run, *]; done)) HF0.out (by omega) HK0.out)

set_option maxRecDepth 100000 in
set_option maxHeartbeats 3200000 in
theorem reg_96 {w : World} {B pb rb fb : Nat} {ea : Addr} {F : Interp} {lv : Int} {u : List UInt8} {c : Int} (h : LexC w B pb rb fb ea F lv 96 u 1 c 5) (hB : 0 < B) : Calls Tryf.prog 30 #[.pointer (some ⟨pb, 0, none⟩), .int .i32 96] w (TokP (regT lv 96) 96 u w B pb rb c lv) := by
  have HB := Lib.hid hB
  have HK0 := Lib.hid (Kr.refl B pb rb w)
  have HF0 := Lib.hid h.fin
  have c20 := h.fin.c20
  have c17 := h.fin.c17
  have HL0 := Lib.hid h
  have hT : Hid (regT lv 96 = Tree.ret 9) := Lib.hid (by rfl)
  clear h hB
  go_enter Tryf.func30, Tryf.ntmps30
  go_wp2_with (first | (go_at_call 45; refine (in_run _ _ _).mono ?_; rintro e w' ⟨rfl, rfl⟩; dsimp only))
  all_goals (first | go_ret | skip)
  all_goals (first | exact tokP_of 0 (by rw [hT.out]; first | (simp [Tree.run, *]; done) | (simp at *; simp [Tree.run, *]; done)) HF0.out (by omega) HK0.out)

set_option maxRecDepth 100000 in
set_option maxHeartbeats 3200000 in
theorem reg_124 {w : World} {B pb rb fb : Nat} {ea : Addr} {F : Interp} {lv : Int} {u : List UInt8} {c : Int} (h : LexC w B pb rb fb ea F lv 124 u 1 c 5) (hB : 0 < B) : Calls Tryf.prog 30 #[.pointer (some ⟨pb, 0, none⟩), .int .i32 124] w (TokP (regT lv 124) 124 u w B pb rb c lv) := by
  have HB := Lib.hid hB
  have HK0 := Lib.hid (Kr.refl B pb rb w)
  have HF0 := Lib.hid h.fin
  have c20 := h.fin.c20
  have c17 := h.fin.c17
  have HL0 := Lib.hid h
  have hT : Hid (regT lv 124 = Tree.read fun a => if a = 124 then (Tree.read fun _ => Tree.ret 12) else if a = 38 then (if inL lv 29 then (Tree.read fun _ => Tree.ret 14) else Tree.ret 13) else Tree.ret 13) := Lib.hid (by rfl)
  clear h hB
  go_enter Tryf.func30, Tryf.ntmps30
  go_wp2_with (first | (go_at_call 29; refine (rune_c (HL1.out (by first | omega | (simp at *; omega))) HB.out (by first | omega | (simp at *; omega)) (by first | omega | (simp at *; omega))).mono ?_; rintro e w2 ⟨rfl, hf, hl, hk⟩; dsimp only; have c20 := hf.c20; have c17 := hf.c17; have HF2 := Lib.hid hf; have HL2 := Lib.hid hl; have HK2 := Lib.hid (HK1.out.trans hk); clear hf hl hk) | (go_at_call 29; refine (rune_c HL0.out HB.out (by decide) (by decide)).mono ?_; rintro e w1 ⟨rfl, hf, hl, hk⟩; dsimp only; have c20 := hf.c20; have c17 := hf.c17; have HF1 := Lib.hid hf; have HL1 := Lib.hid hl; have HK1 := Lib.hid (HK0.out.trans hk); clear hf hl hk) | (go_at_call 45; refine (in_run _ _ _).mono ?_; rintro e w' ⟨rfl, rfl⟩; dsimp only))
  all_goals (first | go_ret | skip)
  all_goals (first | exact tokP_of 2 (by rw [hT.out]; first | (simp [Tree.run, *]; done) | (simp at *; simp [Tree.run, *]; done)) HF2.out (by omega) HK2.out | exact tokP_of 1 (by rw [hT.out]; first | (simp [Tree.run, *]; done) | (simp at *; simp [Tree.run, *]; done)) HF1.out (by omega) HK1.out | exact tokP_of 0 (by rw [hT.out]; first | (simp [Tree.run, *]; done) | (simp at *; simp [Tree.run, *]; done)) HF0.out (by omega) HK0.out)

set_option maxRecDepth 100000 in
set_option maxHeartbeats 3200000 in
theorem reg_36 {w : World} {B pb rb fb : Nat} {ea : Addr} {F : Interp} {lv : Int} {u : List UInt8} {c : Int} (h : LexC w B pb rb fb ea F lv 36 u 1 c 5) (hB : 0 < B) : Calls Tryf.prog 30 #[.pointer (some ⟨pb, 0, none⟩), .int .i32 36] w (TokP (regT lv 36) 36 u w B pb rb c lv) := by
  have HB := Lib.hid hB
  have HK0 := Lib.hid (Kr.refl B pb rb w)
  have HF0 := Lib.hid h.fin
  have c20 := h.fin.c20
  have c17 := h.fin.c17
  have HL0 := Lib.hid h
  have hT : Hid (regT lv 36 = Tree.read fun a => if a = 39 then (if inL lv 29 then (Tree.read fun _ => Tree.ret 18) else Tree.ret 17) else if a = 34 then (if inL lv 13 then (Tree.read fun _ => Tree.ret 19) else Tree.ret 17) else if a = 123 then (Tree.read fun _ => Tree.ret 20) else if a = 91 then (if inL lv 9 then (Tree.read fun _ => Tree.ret 21) else Tree.ret 17) else if a = 40 then (Tree.read fun b => if b = 40 then (Tree.read fun _ => Tree.ret 23) else Tree.ret 22) else Tree.ret 17) := Lib.hid (by rfl)
  clear h hB
  go_enter Tryf.func30, Tryf.ntmps30
  go_wp2_with (first | (go_at_call 29; refine (rune_c (HL2.out (by first | omega | (simp at *; omega))) HB.out (by first | omega | (simp at *; omega)) (by first | omega | (simp at *; omega))).mono ?_; rintro e w3 ⟨rfl, hf, hl, hk⟩; dsimp only; have c20 := hf.c20; have c17 := hf.c17; have HF3 := Lib.hid hf; have HL3 := Lib.hid hl; have HK3 := Lib.hid (HK2.out.trans hk); clear hf hl hk) | (go_at_call 29; refine (rune_c (HL1.out (by first | omega | (simp at *; omega))) HB.out (by first | omega | (simp at *; omega)) (by first | omega | (simp at *; omega))).mono ?_; rintro e w2 ⟨rfl, hf, hl, hk⟩; dsimp only; have c20 := hf.c20; have c17 := hf.c17; have HF2 := Lib.hid hf; have HL2 := Lib.hid hl; have HK2 := Lib.hid (HK1.out.trans hk); clear hf hl hk) | (go_at_call 29; refine (rune_c HL0.out HB.out (by decide) (by decide)).mono ?_; rintro e w1 ⟨rfl, hf, hl, hk⟩; dsimp only; have c20 := hf.c20; have c17 := hf.c17; have HF1 := Lib.hid hf; have HL1 := Lib.hid hl; have HK1 := Lib.hid (HK0.out.trans hk); clear hf hl hk) | (go_at_call 45; refine (in_run _ _ _).mono ?_; rintro e w' ⟨rfl, rfl⟩; dsimp only))
  all_goals (first | go_ret | skip)
  all_goals (first | exact tokP_of 3 (by rw [hT.out]; first | (simp [Tree.run, *]; done) | (simp at *; simp [Tree.run, *]; done)) HF3.out (by omega) HK3.out | exact tokP_of 2 (by rw [hT.out]; first | (simp [Tree.run, *]; done) | (simp at *; simp [Tree.run, *]; done)) HF2.out (by omega) HK2.out | exact tokP_of 1 (by rw [hT.out]; first | (simp [Tree.run, *]; done) | (simp at *; simp [Tree.run, *]; done)) HF1.out (by omega) HK1.out | exact tokP_of 0 (by rw [hT.out]; first | (simp [Tree.run, *]; done) | (simp at *; simp [Tree.run, *]; done)) HF0.out (by omega) HK0.out)

set_option maxRecDepth 100000 in
set_option maxHeartbeats 3200000 in
theorem reg_40 {w : World} {B pb rb fb : Nat} {ea : Addr} {F : Interp} {lv : Int} {u : List UInt8} {c : Int} (h : LexC w B pb rb fb ea F lv 40 u 1 c 5) (hB : 0 < B) : Calls Tryf.prog 30 #[.pointer (some ⟨pb, 0, none⟩), .int .i32 40] w (TokP (regT lv 40) 40 u w B pb rb c lv) := by
  have HB := Lib.hid hB
  have HK0 := Lib.hid (Kr.refl B pb rb w)
  have HF0 := Lib.hid h.fin
  have c20 := h.fin.c20
  have c17 := h.fin.c17
  have HL0 := Lib.hid h
  have hT : Hid (regT lv 40 = Tree.read fun a => if a = 40 then (if inL lv 29 then (Tree.read fun _ => Tree.ret 28) else Tree.ret 27) else Tree.ret 27) := Lib.hid (by rfl)
  clear h hB
  go_enter Tryf.func30, Tryf.ntmps30
  go_wp2_with (first | (go_at_call 29; refine (rune_c (HL1.out (by first | omega | (simp at *; omega))) HB.out (by first | omega | (simp at *; omega)) (by first | omega | (simp at *; omega))).mono ?_; rintro e w2 ⟨rfl, hf, hl, hk⟩; dsimp only; have c20 := hf.c20; have c17 := hf.c17; have HF2 := Lib.hid hf; have HL2 := Lib.hid hl; have HK2 := Lib.hid (HK1.out.trans hk); clear hf hl hk) | (go_at_call 29; refine (rune_c HL0.out HB.out (by decide) (by decide)).mono ?_; rintro e w1 ⟨rfl, hf, hl, hk⟩; dsimp only; have c20 := hf.c20; have c17 := hf.c17; have HF1 := Lib.hid hf; have HL1 := Lib.hid hl; have HK1 := Lib.hid (HK0.out.trans hk); clear hf hl hk) | (go_at_call 45; refine (in_run _ _ _).mono ?_; rintro e w' ⟨rfl, rfl⟩; dsimp only))
  all_goals (first | go_ret | skip)
  all_goals (first | exact tokP_of 2 (by rw [hT.out]; first | (simp [Tree.run, *]; done) | (simp at *; simp [Tree.run, *]; done)) HF2.out (by omega) HK2.out | exact tokP_of 1 (by rw [hT.out]; first | (simp [Tree.run, *]; done) | (simp at *; simp [Tree.run, *]; done)) HF1.out (by omega) HK1.out | exact tokP_of 0 (by rw [hT.out]; first | (simp [Tree.run, *]; done) | (simp at *; simp [Tree.run, *]; done)) HF0.out (by omega) HK0.out)

set_option maxRecDepth 100000 in
set_option maxHeartbeats 3200000 in
theorem reg_41 {w : World} {B pb rb fb : Nat} {ea : Addr} {F : Interp} {lv : Int} {u : List UInt8} {c : Int} (h : LexC w B pb rb fb ea F lv 41 u 1 c 5) (hB : 0 < B) : Calls Tryf.prog 30 #[.pointer (some ⟨pb, 0, none⟩), .int .i32 41] w (TokP (regT lv 41) 41 u w B pb rb c lv) := by
  have HB := Lib.hid hB
  have HK0 := Lib.hid (Kr.refl B pb rb w)
  have HF0 := Lib.hid h.fin
  have c20 := h.fin.c20
  have c17 := h.fin.c17
  have HL0 := Lib.hid h
  have hT : Hid (regT lv 41 = (Tree.read fun _ => Tree.ret 32)) := Lib.hid (by rfl)
  clear h hB
  go_enter Tryf.func30, Tryf.ntmps30
  go_wp2_with (first | (go_at_call 29; refine (rune_c HL0.out HB.out (by decide) (by decide)).mono ?_; rintro e w1 ⟨rfl, hf, hl, hk⟩; dsimp only; have c20 := hf.c20; have c17 := hf.c17; have HF1 := Lib.hid hf; have HL1 := Lib.hid hl; have HK1 := Lib.hid (HK0.out.trans hk); clear hf hl hk) | (go_at_call 45; refine (in_run _ _ _).mono ?_; rintro e w' ⟨rfl, rfl⟩; dsimp only))
  all_goals (first | go_ret | skip)
  all_goals (first | exact tokP_of 1 (by rw [hT.out]; first | (simp [Tree.run, *]; done) | (simp at *; simp [Tree.run, *]; done)) HF1.out (by omega) HK1.out | exact tokP_of 0 (by rw [hT.out]; first | (simp [Tree.run, *]; done) | (simp at *; simp [Tree.run, *]; done)) HF0.out (by omega) HK0.out)

set_option maxRecDepth 100000 in
set_option maxHeartbeats 3200000 in
theorem reg_59 {w : World} {B pb rb fb : Nat} {ea : Addr} {F : Interp} {lv : Int} {u : List UInt8} {c : Int} (h : LexC w B pb rb fb ea F lv 59 u 1 c 5) (hB : 0 < B) : Calls Tryf.prog 30 #[.pointer (some ⟨pb, 0, none⟩), .int .i32 59] w (TokP (regT lv 59) 59 u w B pb rb c lv) := by
  have HB := Lib.hid hB
  have HK0 := Lib.hid (Kr.refl B pb rb w)
  have HF0 := Lib.hid h.fin
  have c20 := h.fin.c20
  have c17 := h.fin.c17
  have HL0 := Lib.hid h
  have hT : Hid (regT lv 59 = Tree.read fun a => if a = 59 then Tree.read (fun b => if b = 38 then (if inL lv 9 then (Tree.read fun _ => Tree.ret 37) else Tree.ret 35) else Tree.ret 35) else if a = 38 then (if inL lv 29 then (Tree.read fun _ => Tree.ret 36) else Tree.ret 34) else if a = 124 then (if inL lv 20 then (Tree.read fun _ => Tree.ret 38) else Tree.ret 34) else Tree.ret 34) := Lib.hid (by rfl)
  clear h hB
  go_enter Tryf.func30, Tryf.ntmps30
  go_wp2_with (first | (go_at_call 29; refine (rune_c (HL2.out (by first | omega | (simp at *; omega))) HB.out (by first | omega | (simp at *; omega)) (by first | omega | (simp at *; omega))).mono ?_; rintro e w3 ⟨rfl, hf, hl, hk⟩; dsimp only; have c20 := hf.c20; have c17 := hf.c17; have HF3 := Lib.hid hf; have HL3 := Lib.hid hl; have HK3 := Lib.hid (HK2.out.trans hk); clear hf hl hk) | (go_at_call 29; refine (rune_c (HL1.out (by first | omega | (simp at *; omega))) HB.out (by first | omega | (simp at *; omega)) (by first | omega | (simp at *; omega))).mono ?_; rintro e w2 ⟨rfl, hf, hl, hk⟩; dsimp only; have c20 := hf.c20; have c17 := hf.c17; have HF2 := Lib.hid hf; have HL2 := Lib.hid hl; have HK2 := Lib.hid (HK1.out.trans hk); clear hf hl hk) | (go_at_call 29; refine (rune_c HL0.out HB.out (by decide) (by decide)).mono ?_; rintro e w1 ⟨rfl, hf, hl, hk⟩; dsimp only; have c20 := hf.c20; have c17 := hf.c17; have HF1 := Lib.hid hf; have HL1 := Lib.hid hl; have HK1 := Lib.hid (HK0.out.trans hk); clear hf hl hk) | (go_at_call 45; refine (in_run _ _ _).mono ?_; rintro e w' ⟨rfl, rfl⟩; dsimp only))
  all_goals (first | go_ret | skip)
  all_goals (first | exact tokP_of 3 (by rw [hT.out]; first | (simp [Tree.run, *]; done) | (simp at *; simp [Tree.run, *]; done)) HF3.out (by omega) HK3.out | exact tokP_of 2 (by rw [hT.out]; first | (simp [Tree.run, *]; done) | (simp at *; simp [Tree.run, *]; done)) HF2.out (by omega) HK2.out | exact tokP_of 1 (by rw [hT.out]; first | (simp [Tree.run, *]; done) | (simp at *; simp [Tree.run, *]; done)) HF1.out (by omega) HK1.out | exact tokP_of 0 (by rw [hT.out]; first | (simp [Tree.run, *]; done) | (simp at *; simp [Tree.run, *]; done)) HF0.out (by omega) HK0.out)

end
section
open Go.RowKit Go.Stop Go.Extern

set_option maxRecDepth 100000 in
set_option maxHeartbeats 3200000 in
theorem reg_38 {w : World} {B pb rb fb : Nat} {ea : Addr} {F : Interp} {lv : Int} {u : List UInt8} {c : Int} (h : LexC w B pb rb fb ea F lv 38 u 1 c 5) (hB : 0 < B) : Calls Tryf.prog 30 #[.pointer (some ⟨pb, 0, none⟩), .int .i32 38] w (TokP (regT lv 38) 38 u w B pb rb c lv) := by
  have HB := Lib.hid hB
  have HK0 := Lib.hid (Kr.refl B pb rb w)
  have HF0 := Lib.hid h.fin
  have c20 := h.fin.c20
  have c17 := h.fin.c17
  have HL0 := Lib.hid h
  have hT : Hid (regT lv 38 = Tree.read fun a => if a = 38 then (Tree.read fun _ => Tree.ret 11) else if a = 62 then Tree.read fun b => if b = 124 then (Tree.read fun _ => Tree.ret 75) else if b = 33 then (if inL lv 16 then (Tree.read fun _ => Tree.ret 75) else Tree.ret 74) else if b = 62 then Tree.read (fun c => if c = 124 then (Tree.read fun _ => Tree.ret 77) else if c = 33 then (if inL lv 16 then (Tree.read fun _ => Tree.ret 77) else Tree.ret 76) else Tree.ret 76) else Tree.ret 74 else if a = 124 then (if inL lv 16 then (Tree.read fun _ => Tree.ret 15) else Tree.ret 10) else if a = 33 then (if inL lv 16 then (Tree.read fun _ => Tree.ret 16) else Tree.ret 10) else Tree.ret 10) := Lib.hid (by rfl)
  clear h hB
  go_enter Tryf.func30, Tryf.ntmps30
  go_wp2_with (first | (go_at_call 29; refine (rune_c (HL3.out (by first | omega | (simp at *; omega))) HB.out (by first | omega | (simp at *; omega)) (by first | omega | (simp at *; omega))).mono ?_; rintro e w4 ⟨rfl, hf, hl, hk⟩; dsimp only; have c20 := hf.c20; have c17 := hf.c17; have HF4 := Lib.hid hf; have HL4 := Lib.hid hl; have HK4 := Lib.hid (HK3.out.trans hk); clear hf hl hk) | (go_at_call 29; refine (rune_c (HL2.out (by first | omega | (simp at *; omega))) HB.out (by first | omega | (simp at *; omega)) (by first | omega | (simp at *; omega))).mono ?_; rintro e w3 ⟨rfl, hf, hl, hk⟩; dsimp only; have c20 := hf.c20; have c17 := hf.c17; have HF3 := Lib.hid hf; have HL3 := Lib.hid hl; have HK3 := Lib.hid (HK2.out.trans hk); clear hf hl hk) | (go_at_call 29; refine (rune_c (HL1.out (by first | omega | (simp at *; omega))) HB.out (by first | omega | (simp at *; omega)) (by first | omega | (simp at *; omega))).mono ?_; rintro e w2 ⟨rfl, hf, hl, hk⟩; dsimp only; have c20 := hf.c20; have c17 := hf.c17; have HF2 := Lib.hid hf; have HL2 := Lib.hid hl; have HK2 := Lib.hid (HK1.out.trans hk); clear hf hl hk) | (go_at_call 29; refine (rune_c HL0.out HB.out (by decide) (by decide)).mono ?_; rintro e w1 ⟨rfl, hf, hl, hk⟩; dsimp only; have c20 := hf.c20; have c17 := hf.c17; have HF1 := Lib.hid hf; have HL1 := Lib.hid hl; have HK1 := Lib.hid (HK0.out.trans hk); clear hf hl hk) | (go_at_call 45; refine (in_run _ _ _).mono ?_; rintro e w' ⟨rfl, rfl⟩; dsimp only))
  all_goals (first | go_ret | skip)
  all_goals (first | exact tokP_of 4 (by rw [hT.out]; first | (simp [Tree.run, *]; done) | (simp at *; simp [Tree.run, *]; done)) HF4.out (by omega) HK4.out | exact tokP_of 3 (by rw [hT.out]; first | (simp [Tree.run, *]; done) | (simp at *; simp [Tree.run, *]; done)) HF3.out (by omega) HK3.out | exact tokP_of 2 (by rw [hT.out]; first | (simp [Tree.run, *]; done) | (simp at *; simp [Tree.run, *]; done)) HF2.out (by omega) HK2.out | exact tokP_of 1 (by rw [hT.out]; first | (simp [Tree.run, *]; done) | (simp at *; simp [Tree.run, *]; done)) HF1.out (by omega) HK1.out | exact tokP_of 0 (by rw [hT.out]; first | (simp [Tree.run, *]; done) | (simp at *; simp [Tree.run, *]; done)) HF0.out (by omega) HK0.out)

end
section
open Go.RowKit Go.Stop Go.Extern

set_option maxRecDepth 100000 in
set_option maxHeartbeats 3200000 in
theorem reg_60 {w : World} {B pb rb fb : Nat} {ea : Addr} {F : Interp} {lv : Int} {u : List UInt8} {c : Int} (h : LexC w B pb rb fb ea F lv 60 u 1 c 5) (hB : 0 < B) : Calls Tryf.prog 30 #[.pointer (some ⟨pb, 0, none⟩), .int .i32 60] w (TokP (regT lv 60) 60 u w B pb rb c lv) := by
  have HB := Lib.hid hB
  have HK0 := Lib.hid (Kr.refl B pb rb w)
  have HF0 := Lib.hid h.fin
  have c20 := h.fin.c20
  have c17 := h.fin.c17
  have HL0 := Lib.hid h
  have hT : Hid (regT lv 60 = Tree.read fun a => if a = 60 then Tree.read (fun b => if b = 45 then (Tree.read fun _ => Tree.ret 72) else if b = 60 then (Tree.read fun _ => Tree.ret 73) else Tree.ret 71) else if a = 62 then (Tree.read fun _ => Tree.ret 66) else if a = 38 then (Tree.read fun _ => Tree.ret 67) else if a = 40 then (if inL lv 25 then (Tree.read fun _ => Tree.ret 78) else Tree.ret 65) else Tree.ret 65) := Lib.hid (by rfl)
  clear h hB
  go_enter Tryf.func30, Tryf.ntmps30
  go_wp2_with (first | (go_at_call 29; refine (rune_c (HL2.out (by first | omega | (simp at *; omega))) HB.out (by first | omega | (simp at *; omega)) (by first | omega | (simp at *; omega))).mono ?_; rintro e w3 ⟨rfl, hf, hl, hk⟩; dsimp only; have c20 := hf.c20; have c17 := hf.c17; have HF3 := Lib.hid hf; have HL3 := Lib.hid hl; have HK3 := Lib.hid (HK2.out.trans hk); clear hf hl hk) | (go_at_call 29; refine (rune_c (HL1.out (by first | omega | (simp at *; omega))) HB.out (by first | omega | (simp at *; omega)) (by first | omega | (simp at *; omega))).mono ?_; rintro e w2 ⟨rfl, hf, hl, hk⟩; dsimp only; have c20 := hf.c20; have c17 := hf.c17; have HF2 := Lib.hid hf; have HL2 := Lib.hid hl; have HK2 := Lib.hid (HK1.out.trans hk); clear hf hl hk) | (go_at_call 29; refine (rune_c HL0.out HB.out (by decide) (by decide)).mono ?_; rintro e w1 ⟨rfl, hf, hl, hk⟩; dsimp only; have c20 := hf.c20; have c17 := hf.c17; have HF1 := Lib.hid hf; have HL1 := Lib.hid hl; have HK1 := Lib.hid (HK0.out.trans hk); clear hf hl hk) | (go_at_call 45; refine (in_run _ _ _).mono ?_; rintro e w' ⟨rfl, rfl⟩; dsimp only))
  all_goals (first | go_ret | skip)
  all_goals (first | exact tokP_of 3 (by rw [hT.out]; first | (simp [Tree.run, *]; done) | (simp at *; simp [Tree.run, *]; done)) HF3.out (by omega) HK3.out | exact tokP_of 2 (by rw [hT.out]; first | (simp [Tree.run, *]; done) | (simp at *; simp [Tree.run, *]; done)) HF2.out (by omega) HK2.out | exact tokP_of 1 (by rw [hT.out]; first | (simp [Tree.run, *]; done) | (simp at *; simp [Tree.run, *]; done)) HF1.out (by omega) HK1.out | exact tokP_of 0 (by rw [hT.out]; first | (simp [Tree.run, *]; done) | (simp at *; simp [Tree.run, *]; done)) HF0.out (by omega) HK0.out)

set_option maxRecDepth 100000 in
set_option maxHeartbeats 3200000 in
theorem reg_62 {w : World} {B pb rb fb : Nat} {ea : Addr} {F : Interp} {lv : Int} {u : List UInt8} {c : Int} (h : LexC w B pb rb fb ea F lv 62 u 1 c 5) (hB : 0 < B) : Calls Tryf.prog 30 #[.pointer (some ⟨pb, 0, none⟩), .int .i32 62] w (TokP (regT lv 62) 62 u w B pb rb c lv) := by
  have HB := Lib.hid hB
  have HK0 := Lib.hid (Kr.refl B pb rb w)
  have HF0 := Lib.hid h.fin
  have c20 := h.fin.c20
  have c17 := h.fin.c17
  have HL0 := Lib.hid h
  have hT : Hid (regT lv 62 = Tree.read fun a => if a = 62 then Tree.read (fun b => if b = 124 then (Tree.read fun _ => Tree.ret 70) else if b = 33 then (if inL lv 16 then (Tree.read fun _ => Tree.ret 70) else Tree.ret 64) else if b = 38 then (if inL lv 16 then Tree.read (fun c => if c = 124 then (Tree.read fun _ => Tree.ret 77) else if c = 33 then (Tree.read fun _ => Tree.ret 77) else Tree.ret 76) else Tree.ret 64) else Tree.ret 64) else if a = 38 then Tree.read (fun b => if inL lv 16 then (if b = 124 then (Tree.read fun _ => Tree.ret 75) else if b = 33 then (Tree.read fun _ => Tree.ret 75) else Tree.ret 68) else Tree.ret 68) else if a = 124 then (Tree.read fun _ => Tree.ret 69) else if a = 33 then (if inL lv 16 then (Tree.read fun _ => Tree.ret 69) else Tree.ret 63) else if a = 40 then (if inL lv 25 then (Tree.read fun _ => Tree.ret 80) else Tree.ret 63) else Tree.ret 63) := Lib.hid (by rfl)
  clear h hB
  go_enter Tryf.func30, Tryf.ntmps30
  go_wp2_with (first | (go_at_call 29; refine (rune_c (HL3.out (by first | omega | (simp at *; omega))) HB.out (by first | omega | (simp at *; omega)) (by first | omega | (simp at *; omega))).mono ?_; rintro e w4 ⟨rfl, hf, hl, hk⟩; dsimp only; have c20 := hf.c20; have c17 := hf.c17; have HF4 := Lib.hid hf; have HL4 := Lib.hid hl; have HK4 := Lib.hid (HK3.out.trans hk); clear hf hl hk) | (go_at_call 29; refine (rune_c (HL2.out (by first | omega | (simp at *; omega))) HB.out (by first | omega | (simp at *; omega)) (by first | omega | (simp at *; omega))).mono ?_; rintro e w3 ⟨rfl, hf, hl, hk⟩; dsimp only; have c20 := hf.c20; have c17 := hf.c17; have HF3 := Lib.hid hf; have HL3 := Lib.hid hl; have HK3 := Lib.hid (HK2.out.trans hk); clear hf hl hk) | (go_at_call 29; refine (rune_c (HL1.out (by first | omega | (simp at *; omega))) HB.out (by first | omega | (simp at *; omega)) (by first | omega | (simp at *; omega))).mono ?_; rintro e w2 ⟨rfl, hf, hl, hk⟩; dsimp only; have c20 := hf.c20; have c17 := hf.c17; have HF2 := Lib.hid hf; have HL2 := Lib.hid hl; have HK2 := Lib.hid (HK1.out.trans hk); clear hf hl hk) | (go_at_call 29; refine (rune_c HL0.out HB.out (by decide) (by decide)).mono ?_; rintro e w1 ⟨rfl, hf, hl, hk⟩; dsimp only; have c20 := hf.c20; have c17 := hf.c17; have HF1 := Lib.hid hf; have HL1 := Lib.hid hl; have HK1 := Lib.hid (HK0.out.trans hk); clear hf hl hk) | (go_at_call 45; refine (in_run _ _ _).mono ?_; rintro e w' ⟨rfl, rfl⟩; dsimp only))
  all_goals (first | go_ret | skip)
  all_goals (first | exact tokP_of 4 (by rw [hT.out]; first | (simp [Tree.run, *]; done) | (simp at *; simp [Tree.run, *]; done)) HF4.out (by omega) HK4.out | exact tokP_of 3 (by rw [hT.out]; first | (simp [Tree.run, *]; done) | (simp at *; simp [Tree.run, *]; done)) HF3.out (by omega) HK3.out | exact tokP_of 2 (by rw [hT.out]; first | (simp [Tree.run, *]; done) | (simp at *; simp [Tree.run, *]; done)) HF2.out (by omega) HK2.out | exact tokP_of 1 (by rw [hT.out]; first | (simp [Tree.run, *]; done) | (simp at *; simp [Tree.run, *]; done)) HF1.out (by omega) HK1.out | exact tokP_of 0 (by rw [hT.out]; first | (simp [Tree.run, *]; done) | (simp at *; simp [Tree.run, *]; done)) HF0.out (by omega) HK0.out)

end
end Go.Proofs.YtolgahamfkaipaaFmt
