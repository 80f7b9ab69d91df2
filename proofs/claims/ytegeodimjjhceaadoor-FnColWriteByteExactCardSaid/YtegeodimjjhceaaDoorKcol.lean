/-
  n010_39: the column counter over a bufio.Writer over the sink: addByte, WriteByte, Flush; its backward-scan model.
-/
import Derived.Test.YtegeodimjjhceaaDoorKbw
namespace Go.Proofs.YtegeodimjjhceaaDoor
open Go.RowKit

/-- What one byte does to the column and the flag. -/
def stepC (s : Int × Bool) (x : UInt8) : Int × Bool := if x.toNat = 10 then (1, true) else (s.1 + 1, s.2 && (x.toNat == 9 || x.toNat == 32 || x.toNat == 255))

def foldC (col : Int) (ls : Bool) (l : List UInt8) : Int × Bool := l.foldl stepC (col, ls)
theorem foldC_snoc (col : Int) (ls : Bool) (l : List UInt8) (x : UInt8) : foldC col ls (l ++ [x]) = stepC (foldC col ls l) x := by simp [foldC]
theorem foldC_app (col : Int) (ls : Bool) (l m : List UInt8) : foldC col ls (l ++ m) = foldC (foldC col ls l).1 (foldC col ls l).2 m := by simp [foldC]
theorem take_snoc {l : List UInt8} {k : Nat} {x : UInt8} (h : l[k]? = some x) : l.take (k + 1) = l.take k ++ [x] := by
  rw [List.take_add_one, h]; rfl

def blankB (x : UInt8) : Bool := x.toNat == 9 || x.toNat == 32 || x.toNat == 255
theorem foldC_plain (l : List UInt8) : ∀ (c : Int) (ls : Bool), (∀ x ∈ l, x.toNat ≠ 10) → foldC c ls l = (c + l.length, ls && l.all blankB) := by
  induction l with
  | nil => intro c ls _; simp [foldC]
  | cons x l ih =>
    intro c ls h
    have e : foldC c ls (x :: l) = foldC (stepC (c, ls) x).1 (stepC (c, ls) x).2 l := by simp [foldC]
    have hx : x.toNat ≠ 10 := h x (by simp)
    have e2 : stepC (c, ls) x = (c + 1, ls && blankB x) := by simp [stepC, blankB, hx]
    rw [e, e2, ih _ _ (fun y hy => h y (by simp [hy]))]
    simp only [List.length_cons, List.all_cons, Bool.and_assoc]
    congr 1
    omega
theorem foldC_nl (l : List UInt8) (c : Int) (ls : Bool) (j : Nat) (x : UInt8) (hx : l[j]? = some x) (h10 : x.toNat = 10) : foldC c ls (l.take (j + 1)) = (1, true) := by
  rw [take_snoc hx, foldC_snoc]
  simp [stepC, h10]

theorem foldC_bd (l : List UInt8) : ∀ (c : Int) (ls : Bool), -1073741824 ≤ c → -1073741824 ≤ (foldC c ls l).1 ∧ ((foldC c ls l).1 ≤ c + l.length ∨ (foldC c ls l).1 ≤ 1 + l.length) := by
  induction l with
  | nil => intro c ls h; exact ⟨h, .inl (by simp [foldC])⟩
  | cons x l ih =>
    intro c ls h
    have e : foldC c ls (x :: l) = foldC (stepC (c, ls) x).1 (stepC (c, ls) x).2 l := by simp [foldC]
    rw [e]
    by_cases h10 : x.toNat = 10
    · have e2 : (stepC (c, ls) x).1 = 1 := by simp [stepC, h10]
      have := ih (stepC (c, ls) x).1 (stepC (c, ls) x).2 (by omega)
      simp only [List.length_cons]; omega
    · have e2 : (stepC (c, ls) x).1 = c + 1 := by simp [stepC, h10]
      have := ih (stepC (c, ls) x).1 (stepC (c, ls) x).2 (by omega)
      simp only [List.length_cons]; omega
/-- The flag is decided by the last byte that is not blank. -/
theorem foldC_flag (l : List UInt8) (c : Int) (ls : Bool) (j : Nat) (x : UInt8) (hx : l[j]? = some x) (hnb : blankB x = false) (h : ∀ y ∈ l.drop (j + 1), blankB y = true) : (foldC c ls l).2 = (x.toNat == 10) := by
  have e : l = l.take (j + 1) ++ l.drop (j + 1) := (List.take_append_drop _ _).symm
  have hno : ∀ y ∈ l.drop (j + 1), y.toNat ≠ 10 := fun y hy e => by have := h y hy; simp [blankB, e] at this
  rw [e, foldC_app, foldC_plain _ _ _ hno, take_snoc hx, foldC_snoc]
  have hall : (l.drop (j + 1)).all blankB = true := List.all_eq_true.2 h
  rw [hall, Bool.and_true]
  unfold stepC
  by_cases h10 : x.toNat = 10
  · rw [if_pos h10]; simp [h10]
  · rw [if_neg h10]
    unfold blankB at hnb
    simp [hnb, h10]
theorem foldC_blank (l : List UInt8) (c : Int) (ls : Bool) (h : ∀ y ∈ l, blankB y = true) : (foldC c ls l).2 = ls := by
  have hno : ∀ y ∈ l, y.toNat ≠ 10 := fun y hy e => by have := h y hy; simp [blankB, e] at this
  rw [foldC_plain _ _ _ hno, List.all_eq_true.2 h]; simp
theorem foldC_col (l : List UInt8) (c : Int) (ls : Bool) (j : Nat) (x : UInt8) (hx : l[j]? = some x) (h10 : x.toNat = 10) (h : ∀ y ∈ l.drop (j + 1), y.toNat ≠ 10) : (foldC c ls l).1 = (l.length : Int) - j := by
  have e : l = l.take (j + 1) ++ l.drop (j + 1) := (List.take_append_drop _ _).symm
  have hlt : j < l.length := (List.getElem?_eq_some_iff.1 hx).1
  conv => lhs; rw [e]
  rw [foldC_app, foldC_nl l c ls j x hx h10, foldC_plain _ _ _ h]
  simp; omega

abbrev TC : Nat := 44
def ccCells (wb : Nat) (col : Int) (ls : Bool) : List Value := [.pointer (some ⟨wb, 0, none⟩), .int .i64 col, .bool ls]
def R0 : Nat → Option Value := fun _ => none
/-- A counter over a writer over a sink. -/
structure Ck (w : World) (cb wb rb b : Nat) (col : Int) (ls : Bool) (row : Option Nat) (bs pend : List UInt8) : Prop where
  st : St w wb rb TK b 0 R0 row bs pend
  blk : w.heap[cb]? = some (.cells (ccCells wb col ls).toArray TC (0, 0))
  d : cb ∉ wb :: rb :: b :: row.toList
section
variable {w w' : World} {cb wb rb b : Nat} {col : Int} {ls : Bool} {row : Option Nat} {bs pend : List UInt8}
theorem Ck.set (h : Ck w cb wb rb b col ls row bs pend) (i : Nat) (v : Value) (col' : Int) (ls' : Bool) (e : (ccCells wb col ls).set i v = ccCells wb col' ls') : Ck (w.setCell ⟨cb, i, none⟩ v) cb wb rb b col' ls' row bs pend := by
  have k : Kept [cb] w (w.setCell ⟨cb, i, none⟩ v) := (Kept.refl _ _).setCell (p := ⟨cb, i, none⟩) (by simp) _
  have hd := h.d
  simp only [List.mem_cons, Option.mem_toList, not_or] at hd
  exact ⟨h.st.kept k (by simp; exact Ne.symm hd.1) (by simp; exact Ne.symm hd.2.1) (by simp; exact Ne.symm hd.2.2.1) (fun g hg => by simp; intro e; exact hd.2.2.2 (e ▸ hg)), by rw [row_set h.blk, e], h.d⟩
theorem Ck.c0 (h : Ck w cb wb rb b col ls row bs pend) : w.cell? ⟨cb, 0, none⟩ = some (.pointer (some ⟨wb, 0, none⟩)) := by rw [row_cell h.blk]; rfl
theorem Ck.c1 (h : Ck w cb wb rb b col ls row bs pend) : w.cell? ⟨cb, 1, none⟩ = some (.int .i64 col) := by rw [row_cell h.blk]; rfl
theorem Ck.c2 (h : Ck w cb wb rb b col ls row bs pend) : w.cell? ⟨cb, 2, none⟩ = some (.bool ls) := by rw [row_cell h.blk]; rfl
theorem Ck.free (h : Ck w cb wb rb b col ls row bs pend) (i : Nat) : w.frozen? ⟨cb, i, none⟩ = false := row_free h.blk i
/-- The writer has gone on. -/
theorem Ck.write {row' : Option Nat} {bs' pend' : List UInt8} (h : Ck w cb wb rb b col ls row bs pend) (hs : St w' wb rb TK b 0 R0 row' bs' pend') (hm : Mv wb rb b row row' w w') : Ck w' cb wb rb b col ls row' bs' pend' := by
  have hlt := heap_lt h.blk
  refine ⟨hs, (hm.2.block cb hlt h.d).trans h.blk, fun hx => ?_⟩
  simp only [List.mem_cons, Option.mem_toList] at hx
  have hd := h.d
  simp only [List.mem_cons, Option.mem_toList, not_or] at hd
  rcases hx with hx | hx | hx | hx
  · exact hd.1 hx
  · exact hd.2.1 hx
  · exact hd.2.2.1 hx
  · rcases hm.1 cb hx with e | e
    · subst e; exact hd.2.2.2 hx
    · omega
end
set_option maxRecDepth 100000 in
theorem addbyte {w : World} {cb wb rb b : Nat} {col : Int} {ls : Bool} {row : Option Nat} {bs pend : List UInt8} (h : Ck w cb wb rb b col ls row bs pend) (x : UInt8) (hc1 : -4611686018427387904 ≤ col) (hc2 : col ≤ 4611686018427387904) :
    Calls Tryd.prog 17 #[.pointer (some ⟨cb, 0, none⟩), .int .u8 x.toNat] w fun e w' => e = .returned (.tuple #[]) ∧ Ck w' cb wb rb b (stepC (col, ls) x).1 (stepC (col, ls) x).2 row bs pend ∧ Kept [cb] w w' := by
  have c1 := h.c1
  have c2 := h.c2
  have f1 := h.free 1
  have f2 := h.free 2
  have HS := Lib.hid h
  clear h
  have hx := x.toNat_lt
  by_cases h10 : x.toNat = 10
  · have c1a : ((w.setCell ⟨cb, 1, none⟩ (.int .i64 0)).setCell ⟨cb, 2, none⟩ (.bool true)).cell? ⟨cb, 1, none⟩ = some (.int .i64 0) := ((HS.out.set 1 (.int .i64 0) 0 ls rfl).set 2 (.bool true) 0 true rfl).c1
    rw [h10]
    go_enter Tryd.func17, Tryd.ntmps17
    go_wp2_with fail
    go_end0
    have e : stepC (col, ls) x = (1, true) := by simp [stepC, h10]
    rw [e]
    exact ⟨rfl, ((HS.out.set 1 (.int .i64 0) 0 ls rfl).set 2 (.bool true) 0 true rfl).set 1 (.int .i64 1) 1 true rfl, (((Kept.refl _ _).setCell (p := ⟨cb, 1, none⟩) (by simp) _).setCell (p := ⟨cb, 2, none⟩) (by simp) _).setCell (p := ⟨cb, 1, none⟩) (by simp) _⟩
  · by_cases hbl : x.toNat = 9 ∨ x.toNat = 32 ∨ x.toNat = 255
    · have e : stepC (col, ls) x = (col + 1, ls) := by
        unfold stepC; rw [if_neg h10]; rcases hbl with h | h | h <;> simp [h]
      rw [e]
      rcases hbl with h | h | h <;> rw [h] <;> clear e h h10
      all_goals (
        go_enter Tryd.func17, Tryd.ntmps17
        go_wp2_with fail
        go_end0
        exact ⟨rfl, HS.out.set 1 _ _ _ rfl, (Kept.refl _ _).setCell (p := ⟨cb, 1, none⟩) (by simp) _⟩)
    · have e : stepC (col, ls) x = (col + 1, false) := by
        unfold stepC; rw [if_neg h10]; simp; omega
      rw [e]
      have g1 : ((x.toNat : Int) == 10) = false := by simp; omega
      have g2 : ((x.toNat : Int) == 9) = false := by simp; omega
      have g3 : ((x.toNat : Int) == 32) = false := by simp; omega
      have g4 : ((x.toNat : Int) == 255) = false := by simp; omega
      have c1a : (w.setCell ⟨cb, 2, none⟩ (.bool false)).cell? ⟨cb, 1, none⟩ = some (.int .i64 col) := (HS.out.set 2 (.bool false) col false rfl).c1
      clear e hbl h10
      go_enter Tryd.func17, Tryd.ntmps17
      go_wp2_with fail
      go_end0
      exact ⟨rfl, (HS.out.set 2 (.bool false) col false rfl).set 1 _ _ _ rfl, ((Kept.refl _ _).setCell (p := ⟨cb, 2, none⟩) (by simp) _).setCell (p := ⟨cb, 1, none⟩) (by simp) _⟩

/-- A counter made since w0: it has come to out. -/
def Cn (w0 w : World) (cb wb rb b : Nat) (col : Int) (ls : Bool) (out : List UInt8) : Prop := ∃ row bs pend, Ck w cb wb rb b col ls row bs pend ∧ bs ++ pend = out ∧ Kept [] w0 w ∧ ∀ x ∈ cb :: wb :: rb :: b :: row.toList, w0.heap.size ≤ x
theorem Cn.kept {w0 w : World} {cb wb rb b : Nat} {col : Int} {ls : Bool} {out : List UInt8} (h : Cn w0 w cb wb rb b col ls out) : Kept [] w0 w := by obtain ⟨_, _, _, _, _, h, _⟩ := h; exact h
set_option maxRecDepth 100000 in
theorem colbyte {w0 w : World} {cb wb rb b : Nat} {col : Int} {ls : Bool} {out : List UInt8} (h : Cn w0 w cb wb rb b col ls out) (x : UInt8) (hc1 : -4611686018427387904 ≤ col) (hc2 : col ≤ 4611686018427387904) (hl : out.length ≤ 100000000000) :
    Calls Tryd.prog 14 #[.pointer (some ⟨cb, 0, none⟩), .int .u8 x.toNat] w fun e w' => e = .returned .nilIface ∧ Cn w0 w' cb wb rb b (stepC (col, ls) x).1 (stepC (col, ls) x).2 (out ++ [x]) := by
  obtain ⟨row, bs, pend, h1, ho, hk, hn⟩ := h
  have HA := Lib.hid (addbyte h1 x hc1 hc2)
  have HO := Lib.hid ho; have HK := Lib.hid hk; have HN := Lib.hid hn
  clear h1 ho hk hn
  go_enter Tryd.func14, Tryd.ntmps14
  go_wp2_with fail
  refine HA.out.mono ?_
  rintro e w1 ⟨rfl, h2, hk2⟩
  have c0 := h2.c0
  have HB := Lib.hid (bw_writeByte h2.st x (by have := HO.out; have h3 := congrArg List.length this; simp at h3; omega))
  have H2 := Lib.hid h2; have HK2 := Lib.hid hk2
  clear h2 hk2 HA
  go_wp2_with fail
  refine HB.out.mono ?_
  rintro e w2 ⟨rfl, row', bs', pend', h3, h4, hm⟩
  have HR : Hid (Cn w0 w2 cb wb rb b (stepC (col, ls) x).1 (stepC (col, ls) x).2 (out ++ [x])) := Lib.hid (by
    have hk1 := HK.out.trans2 HK2.out (fun y hy => .inr (HN.out y (by simp only [List.mem_cons, List.not_mem_nil, or_false] at hy; simp [hy])))
    have hn2 : ∀ y ∈ wb :: rb :: b :: row.toList, w0.heap.size ≤ y := fun y hy => HN.out y (List.mem_cons_of_mem _ hy)
    refine ⟨row', bs', pend', H2.out.write h3 hm, by rw [h4, HO.out], hk1.trans2 hm.2 (fun y hy => .inr (hn2 y hy)), fun y hy => ?_⟩
    simp only [List.mem_cons, Option.mem_toList] at hy
    rcases hy with hy | hy | hy | hy | hy
    · exact HN.out y (by simp [hy])
    · exact HN.out y (by simp [hy])
    · exact HN.out y (by simp [hy])
    · exact HN.out y (by simp [hy])
    · rcases hm.1 y hy with e | e
      · subst e; exact HN.out y (by simp only [List.mem_cons, Option.mem_toList]; exact .inr (.inr (.inr (.inr hy))))
      · exact Nat.le_trans hk1.size e)
  clear h3 h4 hm
  go_wp2_with fail
  go_ret
  exact ⟨rfl, HR.out⟩
set_option maxRecDepth 100000 in
theorem zcolbyte {w0 w : World} {cb wb rb b : Nat} {col : Int} {ls : Bool} {out : List UInt8} (h : Cn w0 w cb wb rb b col ls out) (x : UInt8) (hc1 : -4611686018427387904 ≤ col) (hc2 : col ≤ 4611686018427387904) (hl : out.length ≤ 100000000000) :
    Calls Tryd.prog 7 #[.pointer (some ⟨cb, 0, none⟩), .int .u8 x.toNat] w fun e w' => e = .returned .nilIface ∧ Cn w0 w' cb wb rb b (stepC (col, ls) x).1 (stepC (col, ls) x).2 (out ++ [x]) := by
  have HC := Lib.hid (colbyte h x hc1 hc2 hl)
  clear h
  go_enter Tryd.func7, Tryd.ntmps7
  go_wp2_with fail
  refine HC.out.mono ?_
  rintro e w1 ⟨rfl, h1⟩
  have H1 := Lib.hid h1; clear h1
  go_wp2_with fail
  go_ret
  exact ⟨rfl, H1.out⟩
/-- All lies in the sink. -/
def Cf (w0 w : World) (cb b : Nat) (col : Int) (ls : Bool) (out : List UInt8) : Prop := (∃ row, Bf w TK b 0 R0 row out) ∧ w.cell? ⟨cb, 1, none⟩ = some (.int .i64 col) ∧ w.cell? ⟨cb, 2, none⟩ = some (.bool ls) ∧ cb < w.heap.size ∧ Kept [] w0 w
set_option maxRecDepth 100000 in
theorem zflush {w0 w : World} {cb wb rb b : Nat} {col : Int} {ls : Bool} {out : List UInt8} (h : Cn w0 w cb wb rb b col ls out) (hl : out.length ≤ 100000000000) :
    Calls Tryd.prog 8 #[.pointer (some ⟨cb, 0, none⟩)] w fun e w' => e = .returned .nilIface ∧ Cf w0 w' cb b col ls out := by
  obtain ⟨row, bs, pend, h1, ho, hk, hn⟩ := h
  have c0 := h1.c0
  have HB := Lib.hid (flush h1.st (by rw [← ho] at hl; simp at hl; omega))
  have H1 := Lib.hid h1; have HO := Lib.hid ho; have HK := Lib.hid hk; have HN := Lib.hid hn
  clear h1 ho hk hn
  go_enter Tryd.func8, Tryd.ntmps8
  go_wp2_with fail
  refine HB.out.mono ?_
  rintro e w1 ⟨rfl, row', h3, hm⟩
  have HR : Hid (Cf w0 w1 cb b col ls out) := Lib.hid (by
    have h4 := H1.out.write h3 hm
    rw [HO.out] at h3
    exact ⟨⟨row', h3.bf⟩, h4.c1, h4.c2, heap_lt h4.blk, HK.out.trans2 hm.2 (fun y hy => .inr (HN.out y (List.mem_cons_of_mem _ hy)))⟩)
  clear h3 hm
  go_wp2_with fail
  go_ret
  exact ⟨rfl, HR.out⟩
set_option maxRecDepth 100000 in
theorem zcolC {w : World} {cb : Nat} {col : Int} (h : w.cell? ⟨cb, 1, none⟩ = some (.int .i64 col)) :
    Calls Tryd.prog 11 #[.pointer (some ⟨cb, 0, none⟩)] w fun e w' => e = .returned (.int .i64 col) ∧ w = w' := by
  go_enter Tryd.func11, Tryd.ntmps11
  go_wp2_with fail
  go_ret
  exact ⟨rfl, rfl⟩
set_option maxRecDepth 100000 in
theorem zcolL {w : World} {cb : Nat} {ls : Bool} (h : w.cell? ⟨cb, 2, none⟩ = some (.bool ls)) :
    Calls Tryd.prog 12 #[.pointer (some ⟨cb, 0, none⟩)] w fun e w' => e = .returned (.bool ls) ∧ w = w' := by
  go_enter Tryd.func12, Tryd.ntmps12
  go_wp2_with fail
  go_ret
  exact ⟨rfl, rfl⟩
set_option maxRecDepth 100000 in
theorem znew (w : World) (b : Nat) (hb : w.heap[b]? = some (.cells [Value.slice none 0 0].toArray TK (0, 0))) (w0 : World) (hk : Kept [] w0 w) (hbn : w0.heap.size ≤ b) (col : Int) (ls : Bool) :
    Calls Tryd.prog 6 #[.int .i64 col, .bool ls, bufV b 0] w fun e w' => e = .returned (.pointer (some ⟨w.heap.size + 2, 0, none⟩)) ∧ Cn w0 w' (w.heap.size + 2) (w.heap.size + 1) w.heap.size b col ls [] := by
  have HB := Lib.hid hb; have HK := Lib.hid hk
  clear hb hk
  go_enter Tryd.func6, Tryd.ntmps6
  go_wp2_with fail
  refine (newwriter _ b 0).mono ?_
  rintro e w2 ⟨rfl, hwb, hk2, hz2⟩
  have HWB := Lib.hid hwb; have HK2 := Lib.hid hk2; have HZ2 := Lib.hid hz2
  clear hwb hk2 hz2
  go_wp2_with fail
  go_ret
  have hz2 := HZ2.out
  have hlt := heap_lt HB.out
  have hsz := HK.out.size
  have hk3 : Kept [] w2 (w2.alloc (.cells (ccCells (w.heap.size + 1) col ls).toArray TC)) := (Kept.refl _ _).alloc _
  have hk13 := HK2.out.trans hk3
  have hbf : Bf (w2.alloc (.cells (ccCells (w.heap.size + 1) col ls).toArray TC)) TK b 0 R0 none [] := ⟨_, (hk13.block b hlt (by simp)).trans HB.out, Own.nil _, rfl, by simp, rfl, rfl⟩
  rw [hz2]
  refine ⟨rfl, none, [], [], ⟨⟨HWB.out.kept hk3 (by simp) (by simp), hbf, by omega, by omega, by simp⟩, ?_, by simp; omega⟩, rfl, HK.out.trans hk13, by simp; omega⟩
  have h := heap_alloc_new w2 (.cells (ccCells (w.heap.size + 1) col ls).toArray TC)
  rw [hz2] at h
  exact h


set_option maxRecDepth 100000 in
set_option maxHeartbeats 400000 in
theorem clone_some (w : World) (g o n c : Nat) (l : List UInt8) (hn : n < 1000000000) (hl : l.length = n) (hg : 0 < n → g < w.heap.size) (hc : ∀ j x, l[j]? = some x → w.cell? ⟨g, o + j, none⟩ = some (By x)) :
    Calls Tryd.prog 5 #[.slice (some ⟨g, o, none⟩) n c] w fun e w' => e = .returned (.slice (some ⟨w.heap.size, 0, none⟩) n n) ∧ w'.heap[w.heap.size]? = some (.cells (Bys l).toArray 5 (0, 0)) ∧ Kept [] w w' := by
  have q1 : ∀ (w : World) (a : Option Addr) (n c n' c' : Nat), (binOp .eql 22 (.slice a n c) (.slice none n' c')).run Tryd.prog w = .ok (.bool a.isNone) w := fun w a n c n' c' => Lib.run_eql_slice_nil w _ _ a n c n' c' u8_und
  have q2 := fun w => make_u8 n hn w
  have HL := Lib.hid hl
  have HC := Lib.hid hc
  have HG := Lib.hid hg
  clear hl hc hg
  go_enter Tryd.func5, Tryd.ntmps5
  go_wp2
  clear q1 q2
  have hst : (w.alloc (.cells (zs n).toArray 5)).heap[w.heap.size]? = some (.cells (Bys (l.take 0) ++ zs (n - 0)).toArray 5 (0, 0)) := by
    rw [heap_alloc_new]; simp [Bys]
  have hst2 : Kept [] w (w.alloc (.cells (zs n).toArray 5)) := (Kept.refl _ _).alloc _
  have HS1 := Lib.hid hst
  have HS2 := Lib.hid hst2
  clear hst hst2
  go_loopw [4] (fun i wr => ∃ k : Nat, k ≤ n ∧ i = .int .i64 k ∧ Hid (wr.heap[w.heap.size]? = some (.cells (Bys (l.take k) ++ zs (n - k)).toArray 5 (0, 0))) ∧ Hid (Kept [] w wr)) (fun i _ => n - (intOf i).toNat)
  case atStart => exact ⟨0, Nat.zero_le _, rfl, HS1, HS2⟩
  case round =>
    obtain ⟨k, hk, rfl, hb, hkp⟩ := hrel
    by_cases hlt : k < n
    · obtain ⟨x, hx⟩ : ∃ x, l[k]? = some x := ⟨l[k]'(by have := HL.out; omega), List.getElem?_eq_getElem _⟩
      have hcs : wr.cell? ⟨g, o + k, none⟩ = some (By x) := by
        rw [hkp.out.cell (p := ⟨g, o + k, none⟩) (HG.out (by omega)) (by simp)]; exact HC.out k x hx
      have hco : ∃ v, wr.cell? ⟨w.heap.size, k, none⟩ = some v := by
        rw [row_cell hb.out]
        have : k < (Bys (l.take k) ++ zs (n - k)).length := by have := HL.out; simp [zs]; omega
        exact ⟨_, List.getElem?_eq_getElem this⟩
      obtain ⟨v0, hco⟩ := hco
      have hfo := row_free hb.out k
      have HX := Lib.hid hx; clear hx
      unfold By at hcs
      go_wp2
      go_roundw
      case rel =>
        refine ⟨k + 1, by omega, by go_num, ?_, ?_⟩
        · have h1 := row_set hb.out k (By x)
          rw [set_step l n k x HL.out HX.out] at h1
          exact h1
        · have : Kept [w.heap.size] wr (wr.setCell ⟨w.heap.size, k, none⟩ (By x)) := (Kept.refl _ _).setCell (by simp) _
          exact (hkp.out.weaken (S' := [w.heap.size]) (by simp)).trans this |>.weaken (by simp)
      case measure => simp [intOf]; omega
    · go_wp2
      go_ret
      have hkn : k = n := by omega
      subst hkn
      refine ⟨rfl, ?_, hkp.out⟩
      have h1 := hb.out
      rw [List.take_of_length_le (by have := HL.out; omega), Nat.sub_self] at h1
      simpa [zs] using h1

theorem clone_nil (w : World) (n c : Nat) :
    Calls Tryd.prog 5 #[.slice none n c] w fun e w' => e = .returned (.slice none 0 0) ∧ w = w' := by
  have q1 : ∀ (w : World) (a : Option Addr) (n c n' c' : Nat), (binOp .eql 22 (.slice a n c) (.slice none n' c')).run Tryd.prog w = .ok (.bool a.isNone) w := fun w a n c n' c' => Lib.run_eql_slice_nil w _ _ a n c n' c' u8_und
  go_enter Tryd.func5, Tryd.ntmps5
  go_wp2
  go_ret
  exact ⟨rfl, rfl⟩

set_option maxRecDepth 100000 in
theorem clone_zero (w : World) (ad : Addr) (c : Nat) :
    Calls Tryd.prog 5 #[.slice (some ad) 0 c] w fun e w' => e = .returned (.slice (some ⟨w.heap.size, 0, none⟩) 0 0) ∧ Kept [] w w' := by
  have q1 : ∀ (w : World) (a : Option Addr) (n c n' c' : Nat), (binOp .eql 22 (.slice a n c) (.slice none n' c')).run Tryd.prog w = .ok (.bool a.isNone) w := fun w a n c n' c' => Lib.run_eql_slice_nil w _ _ a n c n' c' u8_und
  have q2 : ∀ w, (Instr.makeSlice 22 (.int .i64 0) (.int .i64 0)).run Tryd.prog w = .ok (.slice (some ⟨w.heap.size, 0, none⟩) 0 0) (w.alloc (.cells (zs 0).toArray 5)) := fun w => make_u8 0 (by omega) w
  go_enter Tryd.func5, Tryd.ntmps5
  go_wp2
  refine wp_loop_once ?_
  go_wp2
  go_ret
  exact ⟨rfl, (Kept.refl _ _).alloc _⟩

set_option maxRecDepth 100000 in
theorem clone_zero2 (w : World) (ad : Addr) (c : Nat) :
    Calls Tryd.prog 5 #[.slice (some ad) 0 c] w fun e w' => e = .returned (.slice (some ⟨w.heap.size, 0, none⟩) 0 0) ∧ Kept [] w w' ∧ w.heap.size < w'.heap.size := by
  have q1 : ∀ (w : World) (a : Option Addr) (n c n' c' : Nat), (binOp .eql 22 (.slice a n c) (.slice none n' c')).run Tryd.prog w = .ok (.bool a.isNone) w := fun w a n c n' c' => Lib.run_eql_slice_nil w _ _ a n c n' c' u8_und
  have q2 : ∀ w, (Instr.makeSlice 22 (.int .i64 0) (.int .i64 0)).run Tryd.prog w = .ok (.slice (some ⟨w.heap.size, 0, none⟩) 0 0) (w.alloc (.cells (zs 0).toArray 5)) := fun w => make_u8 0 (by omega) w
  go_enter Tryd.func5, Tryd.ntmps5
  go_wp2
  refine wp_loop_once ?_
  go_wp2
  go_ret
  exact ⟨rfl, (Kept.refl _ _).alloc _, by simp⟩


theorem clone2 (w : World) (A : Option Addr) (n c : Nat) (l : List UInt8) (hn : n < 1000000000) (hA : A = none → n = 0 ∧ c = 0) (h : SrcB w A n l) :
    Calls Tryd.prog 5 #[.slice A n c] w fun e w' => ∃ A', e = .returned (.slice A' n n) ∧ SrcB w' A' n l ∧ Kept [] w w' ∧ ((A' = none ∧ n = 0) ∨ (A' = some ⟨w.heap.size, 0, none⟩ ∧ w.heap.size < w'.heap.size)) := by
  cases A with
  | none =>
    obtain ⟨rfl, rfl⟩ := hA rfl
    refine (clone_nil w 0 0).mono ?_
    rintro e w' ⟨rfl, rfl⟩
    exact ⟨none, rfl, h, Kept.refl _ _, .inl ⟨rfl, rfl⟩⟩
  | some a =>
    by_cases h0 : 0 < n
    · obtain ⟨g, o, e, hg, hc⟩ := h.2 h0
      obtain rfl : a = ⟨g, o, none⟩ := Option.some.inj e
      refine (clone_some w g o n c l hn h.1 (fun _ => hg) hc).mono ?_
      rintro e w' ⟨rfl, hb, hk⟩
      exact ⟨_, rfl, SrcB.row hb h.1, hk, .inr ⟨rfl, heap_lt hb⟩⟩
    · obtain rfl : n = 0 := by omega
      refine (clone_zero2 w a c).mono ?_
      rintro e w' ⟨rfl, hk, hz⟩
      exact ⟨_, rfl, ⟨h.1, fun h => absurd h (by omega)⟩, hk, .inr ⟨rfl, hz⟩⟩


set_option maxRecDepth 100000 in
set_option maxHeartbeats 800000 in
theorem zeq (w : World) (A B : Option Addr) (n c d : Nat) (l : List UInt8) (h1 : SrcB w A n l) (h2 : SrcB w B n l) (hn : n ≤ 1000000000000) :
    Calls Tryd.prog 10 #[.slice A n c, .slice B n d] w fun e w' => e = .returned (.bool true) ∧ Kept [] w w' := by
  have H1 := Lib.hid h1; have H2 := Lib.hid h2
  clear h1 h2
  have g0 : ((n : Int) != n) = false := by simp
  go_enter Tryd.func10, Tryd.ntmps10
  go_wp2_with fail
  go_loopw [5] (fun s5 wr => ∃ k : Nat, k ≤ n ∧ s5 = .int .i64 k ∧ Hid (Kept [] w wr)) (fun s5 _ => n - (intOf s5).toNat)
  case atStart => exact ⟨0, Nat.zero_le _, rfl, Lib.hid (Kept.refl _ _)⟩
  case round =>
    obtain ⟨k, hk, rfl, hrel⟩ := hrel
    by_cases hlt : k < n
    · obtain ⟨x, hx⟩ : ∃ x, l[k]? = some x := ⟨l[k]'(by have := H1.out.1; omega), List.getElem?_eq_getElem _⟩
      obtain ⟨g, o, hA, hg, hcc⟩ := H1.out.2 (by omega)
      obtain ⟨g2, o2, hB, hg2, hcc2⟩ := H2.out.2 (by omega)
      subst hA hB
      have c1 : wr.cell? ⟨g, o + k, none⟩ = some (.int .u8 x.toNat) := (hrel.out.cell (p := ⟨g, o + k, none⟩) hg (by simp)).trans (hcc k x hx)
      have c2 : wr.cell? ⟨g2, o2 + k, none⟩ = some (.int .u8 x.toNat) := (hrel.out.cell (p := ⟨g2, o2 + k, none⟩) hg2 (by simp)).trans (hcc2 k x hx)
      have i1 : (0 : Int) ≤ k := by omega
      have i2 : (k : Int) < n := by omega
      clear hcc hcc2 hx
      go_wp2_with fail
      go_quiet (fail)
      go_wp2_with fail
      go_roundw
      case rel => exact ⟨k + 1, by omega, by go_num, Lib.hid (hrel.out.drewN _)⟩
      case measure => simp [intOf]; omega
    · go_wp2_with fail
      go_ret
      exact ⟨rfl, hrel.out⟩

set_option maxRecDepth 100000 in
set_option maxHeartbeats 1600000 in
theorem model (w : World) (A : Option Addr) (n c : Nat) (l : List UInt8) (hs : SrcB w A n l) (hn : n ≤ 1000000000) (col : Int) (ls : Bool) (hc1 : -1073741824 ≤ col) (hc2 : col ≤ 1073741824) :
    Calls Tryd.prog 9 #[.int .i64 col, .bool ls, .slice A n c] w fun e w' => e = .returned (.tuple #[.int .i64 (foldC col ls l).1, .bool (foldC col ls l).2]) ∧ w = w' := by
  have HS := Lib.hid hs
  obtain ⟨rc, hrc⟩ : ∃ r, r = (foldC col ls l).1 := ⟨_, rfl⟩
  obtain ⟨rl, hrl⟩ : ∃ r, r = (foldC col ls l).2 := ⟨_, rfl⟩
  rw [← hrc, ← hrl]
  have HRC := Lib.hid hrc; have HRL := Lib.hid hrl
  have hsec : ∀ (K : Prop), True := fun _ => trivial
  clear hs hrc hrl hsec
  go_enter Tryd.func9, Tryd.ntmps9
  go_wp2_with fail
  go_loop [8, 9] (fun s8 s9 => ∃ k : Nat, k ≤ n ∧ s9 = .int .i64 ((k : Int) - 1) ∧ s8 = .int .i64 (col + n) ∧ Hid (∀ y ∈ l.drop k, y.toNat ≠ 10)) (fun _ s9 => (intOf s9 + 1).toNat)
  case atStart => exact ⟨n, Nat.le_refl _, rfl, rfl, Lib.hid (by rw [List.drop_of_length_le (by have := HS.out.1; omega)]; simp)⟩
  case round =>
    obtain ⟨k, hk, rfl, rfl, hno⟩ := hrel
    by_cases h0 : 0 < k
    · obtain ⟨x, hx⟩ : ∃ x, l[k - 1]? = some x := ⟨l[k - 1]'(by have := HS.out.1; omega), List.getElem?_eq_getElem _⟩
      obtain ⟨g, o, hA, hg, hcc⟩ := HS.out.2 (by omega)
      have hcs : w.cell? ⟨g, o + (k - 1), none⟩ = some (.int .u8 x.toNat) := hcc _ x hx
      have e1 : ((k : Int) - 1).toNat = k - 1 := by omega
      have e2 : (0 : Int) ≤ (k : Int) - 1 := by omega
      have e3 : (k : Int) - 1 < n := by omega
      have hxl := x.toNat_lt
      by_cases h10 : x.toNat = 10
      · rw [h10] at hcs
        have hv : rc = (n : Int) - ((k : Int) - 1) := by
          rw [HRC.out, foldC_col l col ls (k - 1) x hx h10 (by rw [show k - 1 + 1 = k by omega]; exact hno.out), HS.out.1]; omega
        have HV := Lib.hid hv
        subst hA
        clear hx hcc h10 hv hno
        go_wp2_with fail
        go_loop [10, 11] (fun s10 s11 => ∃ q : Nat, q ≤ n ∧ s11 = .int .i64 ((q : Int) - 1) ∧ s10 = .bool ls ∧ Hid (∀ y ∈ l.drop q, blankB y = true)) (fun _ s11 => (intOf s11 + 1).toNat)
        case atStart => exact ⟨n, Nat.le_refl _, rfl, rfl, Lib.hid (by rw [List.drop_of_length_le (by have := HS.out.1; omega)]; simp)⟩
        case round =>
          obtain ⟨q, hq, rfl, rfl, hbl⟩ := hrel
          by_cases q0 : 0 < q
          · obtain ⟨y, hy⟩ : ∃ y, l[q - 1]? = some y := ⟨l[q - 1]'(by have := HS.out.1; omega), List.getElem?_eq_getElem _⟩
            obtain ⟨g2, o2, hA2, hg2, hcc2⟩ := HS.out.2 (by omega)
            have hcy : w.cell? ⟨g2, o2 + (q - 1), none⟩ = some (.int .u8 y.toNat) := hcc2 _ y hy
            have i1 : ((q : Int) - 1).toNat = q - 1 := by omega
            have i2 : (0 : Int) ≤ (q : Int) - 1 := by omega
            have i3 : (q : Int) - 1 < n := by omega
            have hyl := y.toNat_lt
            by_cases hb : blankB y = true
            · have hbl2 : ∀ z ∈ l.drop (q - 1), blankB z = true := by
                intro z hz
                have hlt : q - 1 < l.length := (List.getElem?_eq_some_iff.1 hy).1
                rw [List.drop_eq_getElem_cons hlt, show q - 1 + 1 = q by omega] at hz
                rcases List.mem_cons.1 hz with e | e
                · rw [e, (List.getElem?_eq_some_iff.1 hy).2]; exact hb
                · exact hbl.out z e
              have HB2 := Lib.hid hbl2
              have hor : y.toNat = 32 ∨ y.toNat = 9 ∨ y.toNat = 255 := by
                simp only [blankB, Bool.or_eq_true, beq_iff_eq] at hb; omega
              clear hbl2 hbl hb hy hcc2
              cases hA2
              rcases hor with h | h | h <;> rw [h] at hcy <;> clear h
              all_goals (
                go_wp2_with fail
                go_round
                case rel => exact ⟨q - 1, by omega, by congr 1; omega, rfl, HB2⟩
                case measure => simp [intOf]; omega)
            · have hnb : blankB y = false := by simpa using hb
              have hfl : rl = (y.toNat == 10) := by
                rw [HRL.out]; exact foldC_flag l col ls (q - 1) y hy hnb (by rw [show q - 1 + 1 = q by omega]; exact hbl.out)
              have n1 : ((y.toNat : Int) == 32) = false := by simp only [blankB, Bool.or_eq_false_iff, beq_eq_false_iff_ne] at hnb; simp; omega
              have n2 : ((y.toNat : Int) == 9) = false := by simp only [blankB, Bool.or_eq_false_iff, beq_eq_false_iff_ne] at hnb; simp; omega
              have n3 : ((y.toNat : Int) == 255) = false := by simp only [blankB, Bool.or_eq_false_iff, beq_eq_false_iff_ne] at hnb; simp; omega
              have HFL := Lib.hid hfl
              clear hfl hnb hb hbl hy hcc2
              cases hA2
              by_cases y10 : y.toNat = 10
              · have hrt : rl = true := by rw [HFL.out, y10]; rfl
                have HRT := Lib.hid hrt
                rw [y10] at hcy
                clear n1 n2 n3 hrt y10
                go_wp2_with fail
                go_ret2
                rw [HRT.out, HV.out]
                exact ⟨rfl, rfl⟩
              · have n4 : ((y.toNat : Int) == 10) = false := by simp; omega
                have hrt : rl = false := by rw [HFL.out]; simpa using y10
                have HRT := Lib.hid hrt
                clear hrt y10
                go_wp2_with fail
                go_ret2
                rw [HRT.out, HV.out]
                exact ⟨rfl, rfl⟩
          · obtain rfl : q = 0 := by omega
            have hfl : rl = ls := by rw [HRL.out]; exact foldC_blank l col ls (by simpa using hbl.out)
            have HFL := Lib.hid hfl
            clear hfl hbl
            go_wp2_with fail
            go_ret2
            rw [HFL.out, HV.out]
            exact ⟨rfl, rfl⟩
      · have g1 : ((x.toNat : Int) == 10) = false := by simp; omega
        have hno2 : ∀ y ∈ l.drop (k - 1), y.toNat ≠ 10 := by
          intro y hy
          have hlt : k - 1 < l.length := (List.getElem?_eq_some_iff.1 hx).1
          rw [List.drop_eq_getElem_cons hlt, show k - 1 + 1 = k by omega] at hy
          rcases List.mem_cons.1 hy with e | e
          · rw [e, (List.getElem?_eq_some_iff.1 hx).2]; exact h10
          · exact hno.out y e
        have HN2 := Lib.hid hno2
        subst hA
        clear hno2 hno hx hcc h10
        go_wp2_with fail
        go_round
        case rel => exact ⟨k - 1, by omega, by congr 1; omega, rfl, HN2⟩
        case measure => simp [intOf]; omega
    · obtain rfl : k = 0 := by omega
      have hv : rc = col + n := by rw [HRC.out, foldC_plain l col ls (by simpa using hno.out), HS.out.1]
      have HV := Lib.hid hv
      clear hv hno
      go_wp2_with fail
      go_loop [10, 11] (fun s10 s11 => ∃ q : Nat, q ≤ n ∧ s11 = .int .i64 ((q : Int) - 1) ∧ s10 = .bool ls ∧ Hid (∀ y ∈ l.drop q, blankB y = true)) (fun _ s11 => (intOf s11 + 1).toNat)
      case atStart => exact ⟨n, Nat.le_refl _, rfl, rfl, Lib.hid (by rw [List.drop_of_length_le (by have := HS.out.1; omega)]; simp)⟩
      case round =>
        obtain ⟨q, hq, rfl, rfl, hbl⟩ := hrel
        by_cases q0 : 0 < q
        · obtain ⟨y, hy⟩ : ∃ y, l[q - 1]? = some y := ⟨l[q - 1]'(by have := HS.out.1; omega), List.getElem?_eq_getElem _⟩
          obtain ⟨g2, o2, hA2, hg2, hcc2⟩ := HS.out.2 (by omega)
          have hcy : w.cell? ⟨g2, o2 + (q - 1), none⟩ = some (.int .u8 y.toNat) := hcc2 _ y hy
          have i1 : ((q : Int) - 1).toNat = q - 1 := by omega
          have i2 : (0 : Int) ≤ (q : Int) - 1 := by omega
          have i3 : (q : Int) - 1 < n := by omega
          have hyl := y.toNat_lt
          by_cases hb : blankB y = true
          · have hbl2 : ∀ z ∈ l.drop (q - 1), blankB z = true := by
              intro z hz
              have hlt : q - 1 < l.length := (List.getElem?_eq_some_iff.1 hy).1
              rw [List.drop_eq_getElem_cons hlt, show q - 1 + 1 = q by omega] at hz
              rcases List.mem_cons.1 hz with e | e
              · rw [e, (List.getElem?_eq_some_iff.1 hy).2]; exact hb
              · exact hbl.out z e
            have HB2 := Lib.hid hbl2
            have hor : y.toNat = 32 ∨ y.toNat = 9 ∨ y.toNat = 255 := by
              simp only [blankB, Bool.or_eq_true, beq_iff_eq] at hb; omega
            clear hbl2 hbl hb hy hcc2
            subst hA2
            rcases hor with h | h | h <;> rw [h] at hcy <;> clear h
            all_goals (
              go_wp2_with fail
              go_round
              case rel => exact ⟨q - 1, by omega, by congr 1; omega, rfl, HB2⟩
              case measure => simp [intOf]; omega)
          · have hnb : blankB y = false := by simpa using hb
            have hfl : rl = (y.toNat == 10) := by
              rw [HRL.out]; exact foldC_flag l col ls (q - 1) y hy hnb (by rw [show q - 1 + 1 = q by omega]; exact hbl.out)
            have n1 : ((y.toNat : Int) == 32) = false := by simp only [blankB, Bool.or_eq_false_iff, beq_eq_false_iff_ne] at hnb; simp; omega
            have n2 : ((y.toNat : Int) == 9) = false := by simp only [blankB, Bool.or_eq_false_iff, beq_eq_false_iff_ne] at hnb; simp; omega
            have n3 : ((y.toNat : Int) == 255) = false := by simp only [blankB, Bool.or_eq_false_iff, beq_eq_false_iff_ne] at hnb; simp; omega
            have HFL := Lib.hid hfl
            clear hfl hnb hb hbl hy hcc2
            subst hA2
            by_cases y10 : y.toNat = 10
            · have hrt : rl = true := by rw [HFL.out, y10]; rfl
              have HRT := Lib.hid hrt
              rw [y10] at hcy
              clear n1 n2 n3 hrt y10
              go_wp2_with fail
              go_ret2
              rw [HRT.out, HV.out]
              exact ⟨rfl, rfl⟩
            · have n4 : ((y.toNat : Int) == 10) = false := by simp; omega
              have hrt : rl = false := by rw [HFL.out]; simpa using y10
              have HRT := Lib.hid hrt
              clear hrt y10
              go_wp2_with fail
              go_ret2
              rw [HRT.out, HV.out]
              exact ⟨rfl, rfl⟩
        · obtain rfl : q = 0 := by omega
          have hfl : rl = ls := by rw [HRL.out]; exact foldC_blank l col ls (by simpa using hbl.out)
          have HFL := Lib.hid hfl
          clear hfl hbl
          go_wp2_with fail
          go_ret2
          rw [HFL.out, HV.out]
          exact ⟨rfl, rfl⟩
end Go.Proofs.YtegeodimjjhceaaDoor
