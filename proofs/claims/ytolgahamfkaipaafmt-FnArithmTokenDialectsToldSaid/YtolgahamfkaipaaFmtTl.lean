/-
  n010_119: arithmToken, walked (1).
-/
import Derived.Test.YtolgahamfkaipaaFmtTi
namespace Go.Proofs.YtolgahamfkaipaaFmt
section
open Go.RowKit Go.Stop Go.Extern

set_option maxRecDepth 100000 in
set_option maxHeartbeats 3200000 in
theorem arithm_33 {w : World} {B pb rb fb : Nat} {ea : Addr} {F : Interp} {lv : Int} {u : List UInt8} {c : Int} (h : LexC w B pb rb fb ea F lv 33 u 1 c 5) (hB : 0 < B) : Calls Tryf.prog 33 #[.pointer (some ⟨pb, 0, none⟩), .int .i32 33] w (TokP (ariT lv 33) 33 u w B pb rb c lv) := by
  have HB := Lib.hid hB
  have HK0 := Lib.hid (Kr.refl B pb rb w)
  have HF0 := Lib.hid h.fin
  have c20 := h.fin.c20
  have c17 := h.fin.c17
  have HL0 := Lib.hid h
  have hT : Hid (ariT lv 33 = (Tree.read fun a => if a = 61 then (Tree.read fun _ => Tree.ret 46) else Tree.ret 39)) := Lib.hid (by rfl)
  clear h hB
  go_enter Tryf.func33, Tryf.ntmps33
  go_wp2_with (first | (go_at_call 29; refine (rune_c (HL1.out (by first | omega | (simp at *; omega))) HB.out (by first | omega | (simp at *; omega)) (by first | omega | (simp at *; omega))).mono ?_; rintro e w2 ⟨rfl, hf, hl, hk⟩; dsimp only; have c20 := hf.c20; have c17 := hf.c17; have HF2 := Lib.hid hf; have HL2 := Lib.hid hl; have HK2 := Lib.hid (HK1.out.trans hk); clear hf hl hk) | (go_at_call 29; refine (rune_c HL0.out HB.out (by decide) (by decide)).mono ?_; rintro e w1 ⟨rfl, hf, hl, hk⟩; dsimp only; have c20 := hf.c20; have c17 := hf.c17; have HF1 := Lib.hid hf; have HL1 := Lib.hid hl; have HK1 := Lib.hid (HK0.out.trans hk); clear hf hl hk) | (go_at_call 45; refine (in_run _ _ _).mono ?_; rintro e w' ⟨rfl, rfl⟩; dsimp only))
  all_goals (first | go_ret | skip)
  all_goals (first | exact tokP_of 2 (by rw [hT.out]; first | (simp [Tree.run, *]; done) | (simp at *; simp [Tree.run, *]; done)) HF2.out (by omega) HK2.out | exact tokP_of 1 (by rw [hT.out]; first | (simp [Tree.run, *]; done) | (simp at *; simp [Tree.run, *]; done)) HF1.out (by omega) HK1.out | exact tokP_of 0 (by rw [hT.out]; first | (simp [Tree.run, *]; done) | (simp at *; simp [Tree.run, *]; done)) HF0.out (by omega) HK0.out)

set_option maxRecDepth 100000 in
set_option maxHeartbeats 3200000 in
theorem arithm_61 {w : World} {B pb rb fb : Nat} {ea : Addr} {F : Interp} {lv : Int} {u : List UInt8} {c : Int} (h : LexC w B pb rb fb ea F lv 61 u 1 c 5) (hB : 0 < B) : Calls Tryf.prog 33 #[.pointer (some ⟨pb, 0, none⟩), .int .i32 61] w (TokP (ariT lv 61) 61 u w B pb rb c lv) := by
  have HB := Lib.hid hB
  have HK0 := Lib.hid (Kr.refl B pb rb w)
  have HF0 := Lib.hid h.fin
  have c20 := h.fin.c20
  have c17 := h.fin.c17
  have HL0 := Lib.hid h
  have hT : Hid (ariT lv 61 = (Tree.read fun a => if a = 61 then (Tree.read fun _ => Tree.ret 45) else Tree.ret 87)) := Lib.hid (by rfl)
  clear h hB
  go_enter Tryf.func33, Tryf.ntmps33
  go_wp2_with (first | (go_at_call 29; refine (rune_c (HL1.out (by first | omega | (simp at *; omega))) HB.out (by first | omega | (simp at *; omega)) (by first | omega | (simp at *; omega))).mono ?_; rintro e w2 ⟨rfl, hf, hl, hk⟩; dsimp only; have c20 := hf.c20; have c17 := hf.c17; have HF2 := Lib.hid hf; have HL2 := Lib.hid hl; have HK2 := Lib.hid (HK1.out.trans hk); clear hf hl hk) | (go_at_call 29; refine (rune_c HL0.out HB.out (by decide) (by decide)).mono ?_; rintro e w1 ⟨rfl, hf, hl, hk⟩; dsimp only; have c20 := hf.c20; have c17 := hf.c17; have HF1 := Lib.hid hf; have HL1 := Lib.hid hl; have HK1 := Lib.hid (HK0.out.trans hk); clear hf hl hk) | (go_at_call 45; refine (in_run _ _ _).mono ?_; rintro e w' ⟨rfl, rfl⟩; dsimp only))
  all_goals (first | go_ret | skip)
  all_goals (first | exact tokP_of 2 (by rw [hT.out]; first | (simp [Tree.run, *]; done) | (simp at *; simp [Tree.run, *]; done)) HF2.out (by omega) HK2.out | exact tokP_of 1 (by rw [hT.out]; first | (simp [Tree.run, *]; done) | (simp at *; simp [Tree.run, *]; done)) HF1.out (by omega) HK1.out | exact tokP_of 0 (by rw [hT.out]; first | (simp [Tree.run, *]; done) | (simp at *; simp [Tree.run, *]; done)) HF0.out (by omega) HK0.out)

set_option maxRecDepth 100000 in
set_option maxHeartbeats 3200000 in
theorem arithm_126 {w : World} {B pb rb fb : Nat} {ea : Addr} {F : Interp} {lv : Int} {u : List UInt8} {c : Int} (h : LexC w B pb rb fb ea F lv 126 u 1 c 5) (hB : 0 < B) : Calls Tryf.prog 33 #[.pointer (some ⟨pb, 0, none⟩), .int .i32 126] w (TokP (ariT lv 126) 126 u w B pb rb c lv) := by
  have HB := Lib.hid hB
  have HK0 := Lib.hid (Kr.refl B pb rb w)
  have HF0 := Lib.hid h.fin
  have c20 := h.fin.c20
  have c17 := h.fin.c17
  have HL0 := Lib.hid h
  have hT : Hid (ariT lv 126 = (Tree.read fun _ => Tree.ret 40)) := Lib.hid (by rfl)
  clear h hB
  go_enter Tryf.func33, Tryf.ntmps33
  go_wp2_with (first | (go_at_call 29; refine (rune_c HL0.out HB.out (by decide) (by decide)).mono ?_; rintro e w1 ⟨rfl, hf, hl, hk⟩; dsimp only; have c20 := hf.c20; have c17 := hf.c17; have HF1 := Lib.hid hf; have HL1 := Lib.hid hl; have HK1 := Lib.hid (HK0.out.trans hk); clear hf hl hk) | (go_at_call 45; refine (in_run _ _ _).mono ?_; rintro e w' ⟨rfl, rfl⟩; dsimp only))
  all_goals (first | go_ret | skip)
  all_goals (first | exact tokP_of 1 (by rw [hT.out]; first | (simp [Tree.run, *]; done) | (simp at *; simp [Tree.run, *]; done)) HF1.out (by omega) HK1.out | exact tokP_of 0 (by rw [hT.out]; first | (simp [Tree.run, *]; done) | (simp at *; simp [Tree.run, *]; done)) HF0.out (by omega) HK0.out)

set_option maxRecDepth 100000 in
set_option maxHeartbeats 3200000 in
theorem arithm_40 {w : World} {B pb rb fb : Nat} {ea : Addr} {F : Interp} {lv : Int} {u : List UInt8} {c : Int} (h : LexC w B pb rb fb ea F lv 40 u 1 c 5) (hB : 0 < B) : Calls Tryf.prog 33 #[.pointer (some ⟨pb, 0, none⟩), .int .i32 40] w (TokP (ariT lv 40) 40 u w B pb rb c lv) := by
  have HB := Lib.hid hB
  have HK0 := Lib.hid (Kr.refl B pb rb w)
  have HF0 := Lib.hid h.fin
  have c20 := h.fin.c20
  have c17 := h.fin.c17
  have HL0 := Lib.hid h
  have hT : Hid (ariT lv 40 = (Tree.read fun _ => Tree.ret 27)) := Lib.hid (by rfl)
  clear h hB
  go_enter Tryf.func33, Tryf.ntmps33
  go_wp2_with (first | (go_at_call 29; refine (rune_c HL0.out HB.out (by decide) (by decide)).mono ?_; rintro e w1 ⟨rfl, hf, hl, hk⟩; dsimp only; have c20 := hf.c20; have c17 := hf.c17; have HF1 := Lib.hid hf; have HL1 := Lib.hid hl; have HK1 := Lib.hid (HK0.out.trans hk); clear hf hl hk) | (go_at_call 45; refine (in_run _ _ _).mono ?_; rintro e w' ⟨rfl, rfl⟩; dsimp only))
  all_goals (first | go_ret | skip)
  all_goals (first | exact tokP_of 1 (by rw [hT.out]; first | (simp [Tree.run, *]; done) | (simp at *; simp [Tree.run, *]; done)) HF1.out (by omega) HK1.out | exact tokP_of 0 (by rw [hT.out]; first | (simp [Tree.run, *]; done) | (simp at *; simp [Tree.run, *]; done)) HF0.out (by omega) HK0.out)

set_option maxRecDepth 100000 in
set_option maxHeartbeats 3200000 in
theorem arithm_41 {w : World} {B pb rb fb : Nat} {ea : Addr} {F : Interp} {lv : Int} {u : List UInt8} {c : Int} (h : LexC w B pb rb fb ea F lv 41 u 1 c 5) (hB : 0 < B) : Calls Tryf.prog 33 #[.pointer (some ⟨pb, 0, none⟩), .int .i32 41] w (TokP (ariT lv 41) 41 u w B pb rb c lv) := by
  have HB := Lib.hid hB
  have HK0 := Lib.hid (Kr.refl B pb rb w)
  have HF0 := Lib.hid h.fin
  have c20 := h.fin.c20
  have c17 := h.fin.c17
  have HL0 := Lib.hid h
  have hT : Hid (ariT lv 41 = (Tree.read fun _ => Tree.ret 32)) := Lib.hid (by rfl)
  clear h hB
  go_enter Tryf.func33, Tryf.ntmps33
  go_wp2_with (first | (go_at_call 29; refine (rune_c HL0.out HB.out (by decide) (by decide)).mono ?_; rintro e w1 ⟨rfl, hf, hl, hk⟩; dsimp only; have c20 := hf.c20; have c17 := hf.c17; have HF1 := Lib.hid hf; have HL1 := Lib.hid hl; have HK1 := Lib.hid (HK0.out.trans hk); clear hf hl hk) | (go_at_call 45; refine (in_run _ _ _).mono ?_; rintro e w' ⟨rfl, rfl⟩; dsimp only))
  all_goals (first | go_ret | skip)
  all_goals (first | exact tokP_of 1 (by rw [hT.out]; first | (simp [Tree.run, *]; done) | (simp at *; simp [Tree.run, *]; done)) HF1.out (by omega) HK1.out | exact tokP_of 0 (by rw [hT.out]; first | (simp [Tree.run, *]; done) | (simp at *; simp [Tree.run, *]; done)) HF0.out (by omega) HK0.out)

set_option maxRecDepth 100000 in
set_option maxHeartbeats 3200000 in
theorem arithm_38 {w : World} {B pb rb fb : Nat} {ea : Addr} {F : Interp} {lv : Int} {u : List UInt8} {c : Int} (h : LexC w B pb rb fb ea F lv 38 u 1 c 5) (hB : 0 < B) : Calls Tryf.prog 33 #[.pointer (some ⟨pb, 0, none⟩), .int .i32 38] w (TokP (ariT lv 38) 38 u w B pb rb c lv) := by
  have HB := Lib.hid hB
  have HK0 := Lib.hid (Kr.refl B pb rb w)
  have HF0 := Lib.hid h.fin
  have c20 := h.fin.c20
  have c17 := h.fin.c17
  have HL0 := Lib.hid h
  have hT : Hid (ariT lv 38 = (Tree.read fun a => if a = 38 then (Tree.read fun b => if b = 61 then (if inL lv 16 then (Tree.read fun _ => Tree.ret 59) else Tree.ret 11) else Tree.ret 11) else if a = 61 then (Tree.read fun _ => Tree.ret 54) else Tree.ret 10)) := Lib.hid (by rfl)
  clear h hB
  go_enter Tryf.func33, Tryf.ntmps33
  go_wp2_with (first | (go_at_call 29; refine (rune_c (HL2.out (by first | omega | (simp at *; omega))) HB.out (by first | omega | (simp at *; omega)) (by first | omega | (simp at *; omega))).mono ?_; rintro e w3 ⟨rfl, hf, hl, hk⟩; dsimp only; have c20 := hf.c20; have c17 := hf.c17; have HF3 := Lib.hid hf; have HL3 := Lib.hid hl; have HK3 := Lib.hid (HK2.out.trans hk); clear hf hl hk) | (go_at_call 29; refine (rune_c (HL1.out (by first | omega | (simp at *; omega))) HB.out (by first | omega | (simp at *; omega)) (by first | omega | (simp at *; omega))).mono ?_; rintro e w2 ⟨rfl, hf, hl, hk⟩; dsimp only; have c20 := hf.c20; have c17 := hf.c17; have HF2 := Lib.hid hf; have HL2 := Lib.hid hl; have HK2 := Lib.hid (HK1.out.trans hk); clear hf hl hk) | (go_at_call 29; refine (rune_c HL0.out HB.out (by decide) (by decide)).mono ?_; rintro e w1 ⟨rfl, hf, hl, hk⟩; dsimp only; have c20 := hf.c20; have c17 := hf.c17; have HF1 := Lib.hid hf; have HL1 := Lib.hid hl; have HK1 := Lib.hid (HK0.out.trans hk); clear hf hl hk) | (go_at_call 45; refine (in_run _ _ _).mono ?_; rintro e w' ⟨rfl, rfl⟩; dsimp only))
  all_goals (first | go_ret | skip)
  all_goals (first | exact tokP_of 3 (by rw [hT.out]; first | (simp [Tree.run, *]; done) | (simp at *; simp [Tree.run, *]; done)) HF3.out (by omega) HK3.out | exact tokP_of 2 (by rw [hT.out]; first | (simp [Tree.run, *]; done) | (simp at *; simp [Tree.run, *]; done)) HF2.out (by omega) HK2.out | exact tokP_of 1 (by rw [hT.out]; first | (simp [Tree.run, *]; done) | (simp at *; simp [Tree.run, *]; done)) HF1.out (by omega) HK1.out | exact tokP_of 0 (by rw [hT.out]; first | (simp [Tree.run, *]; done) | (simp at *; simp [Tree.run, *]; done)) HF0.out (by omega) HK0.out)

set_option maxRecDepth 100000 in
set_option maxHeartbeats 3200000 in
theorem arithm_124 {w : World} {B pb rb fb : Nat} {ea : Addr} {F : Interp} {lv : Int} {u : List UInt8} {c : Int} (h : LexC w B pb rb fb ea F lv 124 u 1 c 5) (hB : 0 < B) : Calls Tryf.prog 33 #[.pointer (some ⟨pb, 0, none⟩), .int .i32 124] w (TokP (ariT lv 124) 124 u w B pb rb c lv) := by
  have HB := Lib.hid hB
  have HK0 := Lib.hid (Kr.refl B pb rb w)
  have HF0 := Lib.hid h.fin
  have c20 := h.fin.c20
  have c17 := h.fin.c17
  have HL0 := Lib.hid h
  have hT : Hid (ariT lv 124 = (Tree.read fun a => if a = 124 then (Tree.read fun b => if b = 61 then (if inL lv 16 then (Tree.read fun _ => Tree.ret 60) else Tree.ret 12) else Tree.ret 12) else if a = 61 then (Tree.read fun _ => Tree.ret 55) else Tree.ret 13)) := Lib.hid (by rfl)
  clear h hB
  go_enter Tryf.func33, Tryf.ntmps33
  go_wp2_with (first | (go_at_call 29; refine (rune_c (HL2.out (by first | omega | (simp at *; omega))) HB.out (by first | omega | (simp at *; omega)) (by first | omega | (simp at *; omega))).mono ?_; rintro e w3 ⟨rfl, hf, hl, hk⟩; dsimp only; have c20 := hf.c20; have c17 := hf.c17; have HF3 := Lib.hid hf; have HL3 := Lib.hid hl; have HK3 := Lib.hid (HK2.out.trans hk); clear hf hl hk) | (go_at_call 29; refine (rune_c (HL1.out (by first | omega | (simp at *; omega))) HB.out (by first | omega | (simp at *; omega)) (by first | omega | (simp at *; omega))).mono ?_; rintro e w2 ⟨rfl, hf, hl, hk⟩; dsimp only; have c20 := hf.c20; have c17 := hf.c17; have HF2 := Lib.hid hf; have HL2 := Lib.hid hl; have HK2 := Lib.hid (HK1.out.trans hk); clear hf hl hk) | (go_at_call 29; refine (rune_c HL0.out HB.out (by decide) (by decide)).mono ?_; rintro e w1 ⟨rfl, hf, hl, hk⟩; dsimp only; have c20 := hf.c20; have c17 := hf.c17; have HF1 := Lib.hid hf; have HL1 := Lib.hid hl; have HK1 := Lib.hid (HK0.out.trans hk); clear hf hl hk) | (go_at_call 45; refine (in_run _ _ _).mono ?_; rintro e w' ⟨rfl, rfl⟩; dsimp only))
  all_goals (first | go_ret | skip)
  all_goals (first | exact tokP_of 3 (by rw [hT.out]; first | (simp [Tree.run, *]; done) | (simp at *; simp [Tree.run, *]; done)) HF3.out (by omega) HK3.out | exact tokP_of 2 (by rw [hT.out]; first | (simp [Tree.run, *]; done) | (simp at *; simp [Tree.run, *]; done)) HF2.out (by omega) HK2.out | exact tokP_of 1 (by rw [hT.out]; first | (simp [Tree.run, *]; done) | (simp at *; simp [Tree.run, *]; done)) HF1.out (by omega) HK1.out | exact tokP_of 0 (by rw [hT.out]; first | (simp [Tree.run, *]; done) | (simp at *; simp [Tree.run, *]; done)) HF0.out (by omega) HK0.out)

set_option maxRecDepth 100000 in
set_option maxHeartbeats 3200000 in
theorem arithm_60 {w : World} {B pb rb fb : Nat} {ea : Addr} {F : Interp} {lv : Int} {u : List UInt8} {c : Int} (h : LexC w B pb rb fb ea F lv 60 u 1 c 5) (hB : 0 < B) : Calls Tryf.prog 33 #[.pointer (some ⟨pb, 0, none⟩), .int .i32 60] w (TokP (ariT lv 60) 60 u w B pb rb c lv) := by
  have HB := Lib.hid hB
  have HK0 := Lib.hid (Kr.refl B pb rb w)
  have HF0 := Lib.hid h.fin
  have c20 := h.fin.c20
  have c17 := h.fin.c17
  have HL0 := Lib.hid h
  have hT : Hid (ariT lv 60 = Tree.read fun a => if a = 60 then (Tree.read fun a => if a = 61 then (Tree.read fun _ => Tree.ret 57) else Tree.ret 71) else if a = 61 then (Tree.read fun _ => Tree.ret 47) else Tree.ret 65) := Lib.hid (by rfl)
  clear h hB
  go_enter Tryf.func33, Tryf.ntmps33
  go_wp2_with (first | (go_at_call 29; refine (rune_c (HL2.out (by first | omega | (simp at *; omega))) HB.out (by first | omega | (simp at *; omega)) (by first | omega | (simp at *; omega))).mono ?_; rintro e w3 ⟨rfl, hf, hl, hk⟩; dsimp only; have c20 := hf.c20; have c17 := hf.c17; have HF3 := Lib.hid hf; have HL3 := Lib.hid hl; have HK3 := Lib.hid (HK2.out.trans hk); clear hf hl hk) | (go_at_call 29; refine (rune_c (HL1.out (by first | omega | (simp at *; omega))) HB.out (by first | omega | (simp at *; omega)) (by first | omega | (simp at *; omega))).mono ?_; rintro e w2 ⟨rfl, hf, hl, hk⟩; dsimp only; have c20 := hf.c20; have c17 := hf.c17; have HF2 := Lib.hid hf; have HL2 := Lib.hid hl; have HK2 := Lib.hid (HK1.out.trans hk); clear hf hl hk) | (go_at_call 29; refine (rune_c HL0.out HB.out (by decide) (by decide)).mono ?_; rintro e w1 ⟨rfl, hf, hl, hk⟩; dsimp only; have c20 := hf.c20; have c17 := hf.c17; have HF1 := Lib.hid hf; have HL1 := Lib.hid hl; have HK1 := Lib.hid (HK0.out.trans hk); clear hf hl hk) | (go_at_call 45; refine (in_run _ _ _).mono ?_; rintro e w' ⟨rfl, rfl⟩; dsimp only))
  all_goals (first | go_ret | skip)
  all_goals (first | exact tokP_of 3 (by rw [hT.out]; first | (simp [Tree.run, *]; done) | (simp at *; simp [Tree.run, *]; done)) HF3.out (by omega) HK3.out | exact tokP_of 2 (by rw [hT.out]; first | (simp [Tree.run, *]; done) | (simp at *; simp [Tree.run, *]; done)) HF2.out (by omega) HK2.out | exact tokP_of 1 (by rw [hT.out]; first | (simp [Tree.run, *]; done) | (simp at *; simp [Tree.run, *]; done)) HF1.out (by omega) HK1.out | exact tokP_of 0 (by rw [hT.out]; first | (simp [Tree.run, *]; done) | (simp at *; simp [Tree.run, *]; done)) HF0.out (by omega) HK0.out)

set_option maxRecDepth 100000 in
set_option maxHeartbeats 3200000 in
theorem arithm_62 {w : World} {B pb rb fb : Nat} {ea : Addr} {F : Interp} {lv : Int} {u : List UInt8} {c : Int} (h : LexC w B pb rb fb ea F lv 62 u 1 c 5) (hB : 0 < B) : Calls Tryf.prog 33 #[.pointer (some ⟨pb, 0, none⟩), .int .i32 62] w (TokP (ariT lv 62) 62 u w B pb rb c lv) := by
  have HB := Lib.hid hB
  have HK0 := Lib.hid (Kr.refl B pb rb w)
  have HF0 := Lib.hid h.fin
  have c20 := h.fin.c20
  have c17 := h.fin.c17
  have HL0 := Lib.hid h
  have hT : Hid (ariT lv 62 = Tree.read fun a => if a = 62 then (Tree.read fun a => if a = 61 then (Tree.read fun _ => Tree.ret 58) else Tree.ret 64) else if a = 61 then (Tree.read fun _ => Tree.ret 48) else Tree.ret 63) := Lib.hid (by rfl)
  clear h hB
  go_enter Tryf.func33, Tryf.ntmps33
  go_wp2_with (first | (go_at_call 29; refine (rune_c (HL2.out (by first | omega | (simp at *; omega))) HB.out (by first | omega | (simp at *; omega)) (by first | omega | (simp at *; omega))).mono ?_; rintro e w3 ⟨rfl, hf, hl, hk⟩; dsimp only; have c20 := hf.c20; have c17 := hf.c17; have HF3 := Lib.hid hf; have HL3 := Lib.hid hl; have HK3 := Lib.hid (HK2.out.trans hk); clear hf hl hk) | (go_at_call 29; refine (rune_c (HL1.out (by first | omega | (simp at *; omega))) HB.out (by first | omega | (simp at *; omega)) (by first | omega | (simp at *; omega))).mono ?_; rintro e w2 ⟨rfl, hf, hl, hk⟩; dsimp only; have c20 := hf.c20; have c17 := hf.c17; have HF2 := Lib.hid hf; have HL2 := Lib.hid hl; have HK2 := Lib.hid (HK1.out.trans hk); clear hf hl hk) | (go_at_call 29; refine (rune_c HL0.out HB.out (by decide) (by decide)).mono ?_; rintro e w1 ⟨rfl, hf, hl, hk⟩; dsimp only; have c20 := hf.c20; have c17 := hf.c17; have HF1 := Lib.hid hf; have HL1 := Lib.hid hl; have HK1 := Lib.hid (HK0.out.trans hk); clear hf hl hk) | (go_at_call 45; refine (in_run _ _ _).mono ?_; rintro e w' ⟨rfl, rfl⟩; dsimp only))
  all_goals (first | go_ret | skip)
  all_goals (first | exact tokP_of 3 (by rw [hT.out]; first | (simp [Tree.run, *]; done) | (simp at *; simp [Tree.run, *]; done)) HF3.out (by omega) HK3.out | exact tokP_of 2 (by rw [hT.out]; first | (simp [Tree.run, *]; done) | (simp at *; simp [Tree.run, *]; done)) HF2.out (by omega) HK2.out | exact tokP_of 1 (by rw [hT.out]; first | (simp [Tree.run, *]; done) | (simp at *; simp [Tree.run, *]; done)) HF1.out (by omega) HK1.out | exact tokP_of 0 (by rw [hT.out]; first | (simp [Tree.run, *]; done) | (simp at *; simp [Tree.run, *]; done)) HF0.out (by omega) HK0.out)

set_option maxRecDepth 100000 in
set_option maxHeartbeats 3200000 in
theorem arithm_43 {w : World} {B pb rb fb : Nat} {ea : Addr} {F : Interp} {lv : Int} {u : List UInt8} {c : Int} (h : LexC w B pb rb fb ea F lv 43 u 1 c 5) (hB : 0 < B) : Calls Tryf.prog 33 #[.pointer (some ⟨pb, 0, none⟩), .int .i32 43] w (TokP (ariT lv 43) 43 u w B pb rb c lv) := by
  have HB := Lib.hid hB
  have HK0 := Lib.hid (Kr.refl B pb rb w)
  have HF0 := Lib.hid h.fin
  have c20 := h.fin.c20
  have c17 := h.fin.c17
  have HL0 := Lib.hid h
  have hT : Hid (ariT lv 43 = Tree.read fun a => if a = 43 then (Tree.read fun _ => Tree.ret 41) else if a = 61 then (Tree.read fun _ => Tree.ret 49) else Tree.ret 81) := Lib.hid (by rfl)
  clear h hB
  go_enter Tryf.func33, Tryf.ntmps33
  go_wp2_with (first | (go_at_call 29; refine (rune_c (HL1.out (by first | omega | (simp at *; omega))) HB.out (by first | omega | (simp at *; omega)) (by first | omega | (simp at *; omega))).mono ?_; rintro e w2 ⟨rfl, hf, hl, hk⟩; dsimp only; have c20 := hf.c20; have c17 := hf.c17; have HF2 := Lib.hid hf; have HL2 := Lib.hid hl; have HK2 := Lib.hid (HK1.out.trans hk); clear hf hl hk) | (go_at_call 29; refine (rune_c HL0.out HB.out (by decide) (by decide)).mono ?_; rintro e w1 ⟨rfl, hf, hl, hk⟩; dsimp only; have c20 := hf.c20; have c17 := hf.c17; have HF1 := Lib.hid hf; have HL1 := Lib.hid hl; have HK1 := Lib.hid (HK0.out.trans hk); clear hf hl hk) | (go_at_call 45; refine (in_run _ _ _).mono ?_; rintro e w' ⟨rfl, rfl⟩; dsimp only))
  all_goals (first | go_ret | skip)
  all_goals (first | exact tokP_of 2 (by rw [hT.out]; first | (simp [Tree.run, *]; done) | (simp at *; simp [Tree.run, *]; done)) HF2.out (by omega) HK2.out | exact tokP_of 1 (by rw [hT.out]; first | (simp [Tree.run, *]; done) | (simp at *; simp [Tree.run, *]; done)) HF1.out (by omega) HK1.out | exact tokP_of 0 (by rw [hT.out]; first | (simp [Tree.run, *]; done) | (simp at *; simp [Tree.run, *]; done)) HF0.out (by omega) HK0.out)

end
section
open Go.RowKit Go.Stop Go.Extern

set_option maxRecDepth 100000 in
set_option maxHeartbeats 3200000 in
theorem arithm_45 {w : World} {B pb rb fb : Nat} {ea : Addr} {F : Interp} {lv : Int} {u : List UInt8} {c : Int} (h : LexC w B pb rb fb ea F lv 45 u 1 c 5) (hB : 0 < B) : Calls Tryf.prog 33 #[.pointer (some ⟨pb, 0, none⟩), .int .i32 45] w (TokP (ariT lv 45) 45 u w B pb rb c lv) := by
  have HB := Lib.hid hB
  have HK0 := Lib.hid (Kr.refl B pb rb w)
  have HF0 := Lib.hid h.fin
  have c20 := h.fin.c20
  have c17 := h.fin.c17
  have HL0 := Lib.hid h
  have hT : Hid (ariT lv 45 = Tree.read fun a => if a = 45 then (Tree.read fun _ => Tree.ret 42) else if a = 61 then (Tree.read fun _ => Tree.ret 50) else Tree.ret 83) := Lib.hid (by rfl)
  clear h hB
  go_enter Tryf.func33, Tryf.ntmps33
  go_wp2_with (first | (go_at_call 29; refine (rune_c (HL1.out (by first | omega | (simp at *; omega))) HB.out (by first | omega | (simp at *; omega)) (by first | omega | (simp at *; omega))).mono ?_; rintro e w2 ⟨rfl, hf, hl, hk⟩; dsimp only; have c20 := hf.c20; have c17 := hf.c17; have HF2 := Lib.hid hf; have HL2 := Lib.hid hl; have HK2 := Lib.hid (HK1.out.trans hk); clear hf hl hk) | (go_at_call 29; refine (rune_c HL0.out HB.out (by decide) (by decide)).mono ?_; rintro e w1 ⟨rfl, hf, hl, hk⟩; dsimp only; have c20 := hf.c20; have c17 := hf.c17; have HF1 := Lib.hid hf; have HL1 := Lib.hid hl; have HK1 := Lib.hid (HK0.out.trans hk); clear hf hl hk) | (go_at_call 45; refine (in_run _ _ _).mono ?_; rintro e w' ⟨rfl, rfl⟩; dsimp only))
  all_goals (first | go_ret | skip)
  all_goals (first | exact tokP_of 2 (by rw [hT.out]; first | (simp [Tree.run, *]; done) | (simp at *; simp [Tree.run, *]; done)) HF2.out (by omega) HK2.out | exact tokP_of 1 (by rw [hT.out]; first | (simp [Tree.run, *]; done) | (simp at *; simp [Tree.run, *]; done)) HF1.out (by omega) HK1.out | exact tokP_of 0 (by rw [hT.out]; first | (simp [Tree.run, *]; done) | (simp at *; simp [Tree.run, *]; done)) HF0.out (by omega) HK0.out)

set_option maxRecDepth 100000 in
set_option maxHeartbeats 3200000 in
theorem arithm_37 {w : World} {B pb rb fb : Nat} {ea : Addr} {F : Interp} {lv : Int} {u : List UInt8} {c : Int} (h : LexC w B pb rb fb ea F lv 37 u 1 c 5) (hB : 0 < B) : Calls Tryf.prog 33 #[.pointer (some ⟨pb, 0, none⟩), .int .i32 37] w (TokP (ariT lv 37) 37 u w B pb rb c lv) := by
  have HB := Lib.hid hB
  have HK0 := Lib.hid (Kr.refl B pb rb w)
  have HF0 := Lib.hid h.fin
  have c20 := h.fin.c20
  have c17 := h.fin.c17
  have HL0 := Lib.hid h
  have hT : Hid (ariT lv 37 = (Tree.read fun a => if a = 61 then (Tree.read fun _ => Tree.ret 53) else Tree.ret 89)) := Lib.hid (by rfl)
  clear h hB
  go_enter Tryf.func33, Tryf.ntmps33
  go_wp2_with (first | (go_at_call 29; refine (rune_c (HL1.out (by first | omega | (simp at *; omega))) HB.out (by first | omega | (simp at *; omega)) (by first | omega | (simp at *; omega))).mono ?_; rintro e w2 ⟨rfl, hf, hl, hk⟩; dsimp only; have c20 := hf.c20; have c17 := hf.c17; have HF2 := Lib.hid hf; have HL2 := Lib.hid hl; have HK2 := Lib.hid (HK1.out.trans hk); clear hf hl hk) | (go_at_call 29; refine (rune_c HL0.out HB.out (by decide) (by decide)).mono ?_; rintro e w1 ⟨rfl, hf, hl, hk⟩; dsimp only; have c20 := hf.c20; have c17 := hf.c17; have HF1 := Lib.hid hf; have HL1 := Lib.hid hl; have HK1 := Lib.hid (HK0.out.trans hk); clear hf hl hk) | (go_at_call 45; refine (in_run _ _ _).mono ?_; rintro e w' ⟨rfl, rfl⟩; dsimp only))
  all_goals (first | go_ret | skip)
  all_goals (first | exact tokP_of 2 (by rw [hT.out]; first | (simp [Tree.run, *]; done) | (simp at *; simp [Tree.run, *]; done)) HF2.out (by omega) HK2.out | exact tokP_of 1 (by rw [hT.out]; first | (simp [Tree.run, *]; done) | (simp at *; simp [Tree.run, *]; done)) HF1.out (by omega) HK1.out | exact tokP_of 0 (by rw [hT.out]; first | (simp [Tree.run, *]; done) | (simp at *; simp [Tree.run, *]; done)) HF0.out (by omega) HK0.out)

set_option maxRecDepth 100000 in
set_option maxHeartbeats 3200000 in
theorem arithm_42 {w : World} {B pb rb fb : Nat} {ea : Addr} {F : Interp} {lv : Int} {u : List UInt8} {c : Int} (h : LexC w B pb rb fb ea F lv 42 u 1 c 5) (hB : 0 < B) : Calls Tryf.prog 33 #[.pointer (some ⟨pb, 0, none⟩), .int .i32 42] w (TokP (ariT lv 42) 42 u w B pb rb c lv) := by
  have HB := Lib.hid hB
  have HK0 := Lib.hid (Kr.refl B pb rb w)
  have HF0 := Lib.hid h.fin
  have c20 := h.fin.c20
  have c17 := h.fin.c17
  have HL0 := Lib.hid h
  have hT : Hid (ariT lv 42 = (Tree.read fun a => if a = 42 then (Tree.read fun b => if b = 61 then (if inL lv 16 then (Tree.read fun _ => Tree.ret 62) else Tree.ret 44) else Tree.ret 44) else if a = 61 then (Tree.read fun _ => Tree.ret 51) else Tree.ret 43)) := Lib.hid (by rfl)
  clear h hB
  go_enter Tryf.func33, Tryf.ntmps33
  go_wp2_with (first | (go_at_call 29; refine (rune_c (HL2.out (by first | omega | (simp at *; omega))) HB.out (by first | omega | (simp at *; omega)) (by first | omega | (simp at *; omega))).mono ?_; rintro e w3 ⟨rfl, hf, hl, hk⟩; dsimp only; have c20 := hf.c20; have c17 := hf.c17; have HF3 := Lib.hid hf; have HL3 := Lib.hid hl; have HK3 := Lib.hid (HK2.out.trans hk); clear hf hl hk) | (go_at_call 29; refine (rune_c (HL1.out (by first | omega | (simp at *; omega))) HB.out (by first | omega | (simp at *; omega)) (by first | omega | (simp at *; omega))).mono ?_; rintro e w2 ⟨rfl, hf, hl, hk⟩; dsimp only; have c20 := hf.c20; have c17 := hf.c17; have HF2 := Lib.hid hf; have HL2 := Lib.hid hl; have HK2 := Lib.hid (HK1.out.trans hk); clear hf hl hk) | (go_at_call 29; refine (rune_c HL0.out HB.out (by decide) (by decide)).mono ?_; rintro e w1 ⟨rfl, hf, hl, hk⟩; dsimp only; have c20 := hf.c20; have c17 := hf.c17; have HF1 := Lib.hid hf; have HL1 := Lib.hid hl; have HK1 := Lib.hid (HK0.out.trans hk); clear hf hl hk) | (go_at_call 45; refine (in_run _ _ _).mono ?_; rintro e w' ⟨rfl, rfl⟩; dsimp only))
  all_goals (first | go_ret | skip)
  all_goals (first | exact tokP_of 3 (by rw [hT.out]; first | (simp [Tree.run, *]; done) | (simp at *; simp [Tree.run, *]; done)) HF3.out (by omega) HK3.out | exact tokP_of 2 (by rw [hT.out]; first | (simp [Tree.run, *]; done) | (simp at *; simp [Tree.run, *]; done)) HF2.out (by omega) HK2.out | exact tokP_of 1 (by rw [hT.out]; first | (simp [Tree.run, *]; done) | (simp at *; simp [Tree.run, *]; done)) HF1.out (by omega) HK1.out | exact tokP_of 0 (by rw [hT.out]; first | (simp [Tree.run, *]; done) | (simp at *; simp [Tree.run, *]; done)) HF0.out (by omega) HK0.out)

set_option maxRecDepth 100000 in
set_option maxHeartbeats 3200000 in
theorem arithm_47 {w : World} {B pb rb fb : Nat} {ea : Addr} {F : Interp} {lv : Int} {u : List UInt8} {c : Int} (h : LexC w B pb rb fb ea F lv 47 u 1 c 5) (hB : 0 < B) : Calls Tryf.prog 33 #[.pointer (some ⟨pb, 0, none⟩), .int .i32 47] w (TokP (ariT lv 47) 47 u w B pb rb c lv) := by
  have HB := Lib.hid hB
  have HK0 := Lib.hid (Kr.refl B pb rb w)
  have HF0 := Lib.hid h.fin
  have c20 := h.fin.c20
  have c17 := h.fin.c17
  have HL0 := Lib.hid h
  have hT : Hid (ariT lv 47 = (Tree.read fun a => if a = 61 then (Tree.read fun _ => Tree.ret 52) else Tree.ret 101)) := Lib.hid (by rfl)
  clear h hB
  go_enter Tryf.func33, Tryf.ntmps33
  go_wp2_with (first | (go_at_call 29; refine (rune_c (HL1.out (by first | omega | (simp at *; omega))) HB.out (by first | omega | (simp at *; omega)) (by first | omega | (simp at *; omega))).mono ?_; rintro e w2 ⟨rfl, hf, hl, hk⟩; dsimp only; have c20 := hf.c20; have c17 := hf.c17; have HF2 := Lib.hid hf; have HL2 := Lib.hid hl; have HK2 := Lib.hid (HK1.out.trans hk); clear hf hl hk) | (go_at_call 29; refine (rune_c HL0.out HB.out (by decide) (by decide)).mono ?_; rintro e w1 ⟨rfl, hf, hl, hk⟩; dsimp only; have c20 := hf.c20; have c17 := hf.c17; have HF1 := Lib.hid hf; have HL1 := Lib.hid hl; have HK1 := Lib.hid (HK0.out.trans hk); clear hf hl hk) | (go_at_call 45; refine (in_run _ _ _).mono ?_; rintro e w' ⟨rfl, rfl⟩; dsimp only))
  all_goals (first | go_ret | skip)
  all_goals (first | exact tokP_of 2 (by rw [hT.out]; first | (simp [Tree.run, *]; done) | (simp at *; simp [Tree.run, *]; done)) HF2.out (by omega) HK2.out | exact tokP_of 1 (by rw [hT.out]; first | (simp [Tree.run, *]; done) | (simp at *; simp [Tree.run, *]; done)) HF1.out (by omega) HK1.out | exact tokP_of 0 (by rw [hT.out]; first | (simp [Tree.run, *]; done) | (simp at *; simp [Tree.run, *]; done)) HF0.out (by omega) HK0.out)

set_option maxRecDepth 100000 in
set_option maxHeartbeats 3200000 in
theorem arithm_94 {w : World} {B pb rb fb : Nat} {ea : Addr} {F : Interp} {lv : Int} {u : List UInt8} {c : Int} (h : LexC w B pb rb fb ea F lv 94 u 1 c 5) (hB : 0 < B) : Calls Tryf.prog 33 #[.pointer (some ⟨pb, 0, none⟩), .int .i32 94] w (TokP (ariT lv 94) 94 u w B pb rb c lv) := by
  have HB := Lib.hid hB
  have HK0 := Lib.hid (Kr.refl B pb rb w)
  have HF0 := Lib.hid h.fin
  have c20 := h.fin.c20
  have c17 := h.fin.c17
  have HL0 := Lib.hid h
  have hT : Hid (ariT lv 94 = (Tree.read fun a => if a = 94 then (Tree.read fun b => if b = 61 then (if inL lv 16 then (Tree.read fun _ => Tree.ret 61) else Tree.ret 97) else Tree.ret 97) else if a = 61 then (Tree.read fun _ => Tree.ret 56) else Tree.ret 96)) := Lib.hid (by rfl)
  clear h hB
  go_enter Tryf.func33, Tryf.ntmps33
  go_wp2_with (first | (go_at_call 29; refine (rune_c (HL2.out (by first | omega | (simp at *; omega))) HB.out (by first | omega | (simp at *; omega)) (by first | omega | (simp at *; omega))).mono ?_; rintro e w3 ⟨rfl, hf, hl, hk⟩; dsimp only; have c20 := hf.c20; have c17 := hf.c17; have HF3 := Lib.hid hf; have HL3 := Lib.hid hl; have HK3 := Lib.hid (HK2.out.trans hk); clear hf hl hk) | (go_at_call 29; refine (rune_c (HL1.out (by first | omega | (simp at *; omega))) HB.out (by first | omega | (simp at *; omega)) (by first | omega | (simp at *; omega))).mono ?_; rintro e w2 ⟨rfl, hf, hl, hk⟩; dsimp only; have c20 := hf.c20; have c17 := hf.c17; have HF2 := Lib.hid hf; have HL2 := Lib.hid hl; have HK2 := Lib.hid (HK1.out.trans hk); clear hf hl hk) | (go_at_call 29; refine (rune_c HL0.out HB.out (by decide) (by decide)).mono ?_; rintro e w1 ⟨rfl, hf, hl, hk⟩; dsimp only; have c20 := hf.c20; have c17 := hf.c17; have HF1 := Lib.hid hf; have HL1 := Lib.hid hl; have HK1 := Lib.hid (HK0.out.trans hk); clear hf hl hk) | (go_at_call 45; refine (in_run _ _ _).mono ?_; rintro e w' ⟨rfl, rfl⟩; dsimp only))
  all_goals (first | go_ret | skip)
  all_goals (first | exact tokP_of 3 (by rw [hT.out]; first | (simp [Tree.run, *]; done) | (simp at *; simp [Tree.run, *]; done)) HF3.out (by omega) HK3.out | exact tokP_of 2 (by rw [hT.out]; first | (simp [Tree.run, *]; done) | (simp at *; simp [Tree.run, *]; done)) HF2.out (by omega) HK2.out | exact tokP_of 1 (by rw [hT.out]; first | (simp [Tree.run, *]; done) | (simp at *; simp [Tree.run, *]; done)) HF1.out (by omega) HK1.out | exact tokP_of 0 (by rw [hT.out]; first | (simp [Tree.run, *]; done) | (simp at *; simp [Tree.run, *]; done)) HF0.out (by omega) HK0.out)

set_option maxRecDepth 100000 in
set_option maxHeartbeats 3200000 in
theorem arithm_91 {w : World} {B pb rb fb : Nat} {ea : Addr} {F : Interp} {lv : Int} {u : List UInt8} {c : Int} (h : LexC w B pb rb fb ea F lv 91 u 1 c 5) (hB : 0 < B) : Calls Tryf.prog 33 #[.pointer (some ⟨pb, 0, none⟩), .int .i32 91] w (TokP (ariT lv 91) 91 u w B pb rb c lv) := by
  have HB := Lib.hid hB
  have HK0 := Lib.hid (Kr.refl B pb rb w)
  have HF0 := Lib.hid h.fin
  have c20 := h.fin.c20
  have c17 := h.fin.c17
  have HL0 := Lib.hid h
  have hT : Hid (ariT lv 91 = (Tree.read fun _ => Tree.ret 25)) := Lib.hid (by rfl)
  clear h hB
  go_enter Tryf.func33, Tryf.ntmps33
  go_wp2_with (first | (go_at_call 29; refine (rune_c HL0.out HB.out (by decide) (by decide)).mono ?_; rintro e w1 ⟨rfl, hf, hl, hk⟩; dsimp only; have c20 := hf.c20; have c17 := hf.c17; have HF1 := Lib.hid hf; have HL1 := Lib.hid hl; have HK1 := Lib.hid (HK0.out.trans hk); clear hf hl hk) | (go_at_call 45; refine (in_run _ _ _).mono ?_; rintro e w' ⟨rfl, rfl⟩; dsimp only))
  all_goals (first | go_ret | skip)
  all_goals (first | exact tokP_of 1 (by rw [hT.out]; first | (simp [Tree.run, *]; done) | (simp at *; simp [Tree.run, *]; done)) HF1.out (by omega) HK1.out | exact tokP_of 0 (by rw [hT.out]; first | (simp [Tree.run, *]; done) | (simp at *; simp [Tree.run, *]; done)) HF0.out (by omega) HK0.out)

set_option maxRecDepth 100000 in
set_option maxHeartbeats 3200000 in
theorem arithm_93 {w : World} {B pb rb fb : Nat} {ea : Addr} {F : Interp} {lv : Int} {u : List UInt8} {c : Int} (h : LexC w B pb rb fb ea F lv 93 u 1 c 5) (hB : 0 < B) : Calls Tryf.prog 33 #[.pointer (some ⟨pb, 0, none⟩), .int .i32 93] w (TokP (ariT lv 93) 93 u w B pb rb c lv) := by
  have HB := Lib.hid hB
  have HK0 := Lib.hid (Kr.refl B pb rb w)
  have HF0 := Lib.hid h.fin
  have c20 := h.fin.c20
  have c17 := h.fin.c17
  have HL0 := Lib.hid h
  have hT : Hid (ariT lv 93 = (Tree.read fun _ => Tree.ret 30)) := Lib.hid (by rfl)
  clear h hB
  go_enter Tryf.func33, Tryf.ntmps33
  go_wp2_with (first | (go_at_call 29; refine (rune_c HL0.out HB.out (by decide) (by decide)).mono ?_; rintro e w1 ⟨rfl, hf, hl, hk⟩; dsimp only; have c20 := hf.c20; have c17 := hf.c17; have HF1 := Lib.hid hf; have HL1 := Lib.hid hl; have HK1 := Lib.hid (HK0.out.trans hk); clear hf hl hk) | (go_at_call 45; refine (in_run _ _ _).mono ?_; rintro e w' ⟨rfl, rfl⟩; dsimp only))
  all_goals (first | go_ret | skip)
  all_goals (first | exact tokP_of 1 (by rw [hT.out]; first | (simp [Tree.run, *]; done) | (simp at *; simp [Tree.run, *]; done)) HF1.out (by omega) HK1.out | exact tokP_of 0 (by rw [hT.out]; first | (simp [Tree.run, *]; done) | (simp at *; simp [Tree.run, *]; done)) HF0.out (by omega) HK0.out)

set_option maxRecDepth 100000 in
set_option maxHeartbeats 3200000 in
theorem arithm_44 {w : World} {B pb rb fb : Nat} {ea : Addr} {F : Interp} {lv : Int} {u : List UInt8} {c : Int} (h : LexC w B pb rb fb ea F lv 44 u 1 c 5) (hB : 0 < B) : Calls Tryf.prog 33 #[.pointer (some ⟨pb, 0, none⟩), .int .i32 44] w (TokP (ariT lv 44) 44 u w B pb rb c lv) := by
  have HB := Lib.hid hB
  have HK0 := Lib.hid (Kr.refl B pb rb w)
  have HF0 := Lib.hid h.fin
  have c20 := h.fin.c20
  have c17 := h.fin.c17
  have HL0 := Lib.hid h
  have hT : Hid (ariT lv 44 = (Tree.read fun _ => Tree.ret 98)) := Lib.hid (by rfl)
  clear h hB
  go_enter Tryf.func33, Tryf.ntmps33
  go_wp2_with (first | (go_at_call 29; refine (rune_c HL0.out HB.out (by decide) (by decide)).mono ?_; rintro e w1 ⟨rfl, hf, hl, hk⟩; dsimp only; have c20 := hf.c20; have c17 := hf.c17; have HF1 := Lib.hid hf; have HL1 := Lib.hid hl; have HK1 := Lib.hid (HK0.out.trans hk); clear hf hl hk) | (go_at_call 45; refine (in_run _ _ _).mono ?_; rintro e w' ⟨rfl, rfl⟩; dsimp only))
  all_goals (first | go_ret | skip)
  all_goals (first | exact tokP_of 1 (by rw [hT.out]; first | (simp [Tree.run, *]; done) | (simp at *; simp [Tree.run, *]; done)) HF1.out (by omega) HK1.out | exact tokP_of 0 (by rw [hT.out]; first | (simp [Tree.run, *]; done) | (simp at *; simp [Tree.run, *]; done)) HF0.out (by omega) HK0.out)

set_option maxRecDepth 100000 in
set_option maxHeartbeats 3200000 in
theorem arithm_63 {w : World} {B pb rb fb : Nat} {ea : Addr} {F : Interp} {lv : Int} {u : List UInt8} {c : Int} (h : LexC w B pb rb fb ea F lv 63 u 1 c 5) (hB : 0 < B) : Calls Tryf.prog 33 #[.pointer (some ⟨pb, 0, none⟩), .int .i32 63] w (TokP (ariT lv 63) 63 u w B pb rb c lv) := by
  have HB := Lib.hid hB
  have HK0 := Lib.hid (Kr.refl B pb rb w)
  have HF0 := Lib.hid h.fin
  have c20 := h.fin.c20
  have c17 := h.fin.c17
  have HL0 := Lib.hid h
  have hT : Hid (ariT lv 63 = (Tree.read fun _ => Tree.ret 85)) := Lib.hid (by rfl)
  clear h hB
  go_enter Tryf.func33, Tryf.ntmps33
  go_wp2_with (first | (go_at_call 29; refine (rune_c HL0.out HB.out (by decide) (by decide)).mono ?_; rintro e w1 ⟨rfl, hf, hl, hk⟩; dsimp only; have c20 := hf.c20; have c17 := hf.c17; have HF1 := Lib.hid hf; have HL1 := Lib.hid hl; have HK1 := Lib.hid (HK0.out.trans hk); clear hf hl hk) | (go_at_call 45; refine (in_run _ _ _).mono ?_; rintro e w' ⟨rfl, rfl⟩; dsimp only))
  all_goals (first | go_ret | skip)
  all_goals (first | exact tokP_of 1 (by rw [hT.out]; first | (simp [Tree.run, *]; done) | (simp at *; simp [Tree.run, *]; done)) HF1.out (by omega) HK1.out | exact tokP_of 0 (by rw [hT.out]; first | (simp [Tree.run, *]; done) | (simp at *; simp [Tree.run, *]; done)) HF0.out (by omega) HK0.out)

set_option maxRecDepth 100000 in
set_option maxHeartbeats 3200000 in
theorem arithm_58 {w : World} {B pb rb fb : Nat} {ea : Addr} {F : Interp} {lv : Int} {u : List UInt8} {c : Int} (h : LexC w B pb rb fb ea F lv 58 u 1 c 5) (hB : 0 < B) : Calls Tryf.prog 33 #[.pointer (some ⟨pb, 0, none⟩), .int .i32 58] w (TokP (ariT lv 58) 58 u w B pb rb c lv) := by
  have HB := Lib.hid hB
  have HK0 := Lib.hid (Kr.refl B pb rb w)
  have HF0 := Lib.hid h.fin
  have c20 := h.fin.c20
  have c17 := h.fin.c17
  have HL0 := Lib.hid h
  have hT : Hid (ariT lv 58 = (Tree.read fun _ => Tree.ret 104)) := Lib.hid (by rfl)
  clear h hB
  go_enter Tryf.func33, Tryf.ntmps33
  go_wp2_with (first | (go_at_call 29; refine (rune_c HL0.out HB.out (by decide) (by decide)).mono ?_; rintro e w1 ⟨rfl, hf, hl, hk⟩; dsimp only; have c20 := hf.c20; have c17 := hf.c17; have HF1 := Lib.hid hf; have HL1 := Lib.hid hl; have HK1 := Lib.hid (HK0.out.trans hk); clear hf hl hk) | (go_at_call 45; refine (in_run _ _ _).mono ?_; rintro e w' ⟨rfl, rfl⟩; dsimp only))
  all_goals (first | go_ret | skip)
  all_goals (first | exact tokP_of 1 (by rw [hT.out]; first | (simp [Tree.run, *]; done) | (simp at *; simp [Tree.run, *]; done)) HF1.out (by omega) HK1.out | exact tokP_of 0 (by rw [hT.out]; first | (simp [Tree.run, *]; done) | (simp at *; simp [Tree.run, *]; done)) HF0.out (by omega) HK0.out)

set_option maxRecDepth 100000 in
set_option maxHeartbeats 3200000 in
theorem arithm_35 {w : World} {B pb rb fb : Nat} {ea : Addr} {F : Interp} {lv : Int} {u : List UInt8} {c : Int} (h : LexC w B pb rb fb ea F lv 35 u 1 c 5) (hB : 0 < B) : Calls Tryf.prog 33 #[.pointer (some ⟨pb, 0, none⟩), .int .i32 35] w (TokP (ariT lv 35) 35 u w B pb rb c lv) := by
  have HB := Lib.hid hB
  have HK0 := Lib.hid (Kr.refl B pb rb w)
  have HF0 := Lib.hid h.fin
  have c20 := h.fin.c20
  have c17 := h.fin.c17
  have HL0 := Lib.hid h
  have hT : Hid (ariT lv 35 = (Tree.read fun _ => Tree.ret 91)) := Lib.hid (by rfl)
  clear h hB
  go_enter Tryf.func33, Tryf.ntmps33
  go_wp2_with (first | (go_at_call 29; refine (rune_c HL0.out HB.out (by decide) (by decide)).mono ?_; rintro e w1 ⟨rfl, hf, hl, hk⟩; dsimp only; have c20 := hf.c20; have c17 := hf.c17; have HF1 := Lib.hid hf; have HL1 := Lib.hid hl; have HK1 := Lib.hid (HK0.out.trans hk); clear hf hl hk) | (go_at_call 45; refine (in_run _ _ _).mono ?_; rintro e w' ⟨rfl, rfl⟩; dsimp only))
  all_goals (first | go_ret | skip)
  all_goals (first | exact tokP_of 1 (by rw [hT.out]; first | (simp [Tree.run, *]; done) | (simp at *; simp [Tree.run, *]; done)) HF1.out (by omega) HK1.out | exact tokP_of 0 (by rw [hT.out]; first | (simp [Tree.run, *]; done) | (simp at *; simp [Tree.run, *]; done)) HF0.out (by omega) HK0.out)

set_option maxRecDepth 100000 in
set_option maxHeartbeats 3200000 in
theorem arithm_46 {w : World} {B pb rb fb : Nat} {ea : Addr} {F : Interp} {lv : Int} {u : List UInt8} {c : Int} (h : LexC w B pb rb fb ea F lv 46 u 1 c 5) (hB : 0 < B) : Calls Tryf.prog 33 #[.pointer (some ⟨pb, 0, none⟩), .int .i32 46] w (TokP (ariT lv 46) 46 u w B pb rb c lv) := by
  have HB := Lib.hid hB
  have HK0 := Lib.hid (Kr.refl B pb rb w)
  have HF0 := Lib.hid h.fin
  have c20 := h.fin.c20
  have c17 := h.fin.c17
  have HL0 := Lib.hid h
  have hT : Hid (ariT lv 46 = (Tree.read fun _ => Tree.ret 103)) := Lib.hid (by rfl)
  clear h hB
  go_enter Tryf.func33, Tryf.ntmps33
  go_wp2_with (first | (go_at_call 29; refine (rune_c HL0.out HB.out (by decide) (by decide)).mono ?_; rintro e w1 ⟨rfl, hf, hl, hk⟩; dsimp only; have c20 := hf.c20; have c17 := hf.c17; have HF1 := Lib.hid hf; have HL1 := Lib.hid hl; have HK1 := Lib.hid (HK0.out.trans hk); clear hf hl hk) | (go_at_call 45; refine (in_run _ _ _).mono ?_; rintro e w' ⟨rfl, rfl⟩; dsimp only))
  all_goals (first | go_ret | skip)
  all_goals (first | exact tokP_of 1 (by rw [hT.out]; first | (simp [Tree.run, *]; done) | (simp at *; simp [Tree.run, *]; done)) HF1.out (by omega) HK1.out | exact tokP_of 0 (by rw [hT.out]; first | (simp [Tree.run, *]; done) | (simp at *; simp [Tree.run, *]; done)) HF0.out (by omega) HK0.out)

end
end Go.Proofs.YtolgahamfkaipaaFmt
