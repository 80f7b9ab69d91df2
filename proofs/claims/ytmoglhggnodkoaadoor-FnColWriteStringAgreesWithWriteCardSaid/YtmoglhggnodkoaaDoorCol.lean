/-
  n010_113's colCounter over a writer over a buffer.
-/
import Derived.Test.YtmoglhggnodkoaaDoorBwn
import Derived.Test.YtmoglhggnodkoaaDoorBws
namespace Go.Proofs.YtmoglhggnodkoaaDoor
open Go.RowKit

abbrev TS : Nat := 48
/-- The sink's first three cells. -/
def Rc (wb : Nat) (col : Int) (ls : Bool) : Nat → Option Value
  | 0 => some (.pointer (some ⟨wb, 0, none⟩))
  | 1 => some (.int .i64 col)
  | 2 => some (.bool ls)
  | _ => none
abbrev Sk (w : World) (wb rb b : Nat) (col : Int) (ls : Bool) (row : Option Nat) (bs pend : List UInt8) : Prop := St w wb rb TS b 3 (Rc wb col ls) row bs pend

section
variable {w : World} {wb rb b : Nat} {col : Int} {ls : Bool} {row : Option Nat} {bs pend : List UInt8}
theorem sk_c0 (h : Sk w wb rb b col ls row bs pend) : w.cell? ⟨b, 0, none⟩ = some (.pointer (some ⟨wb, 0, none⟩)) := h.bf.rest 0 (by omega)
theorem sk_c1 (h : Sk w wb rb b col ls row bs pend) : w.cell? ⟨b, 1, none⟩ = some (.int .i64 col) := h.bf.rest 1 (by omega)
theorem sk_c2 (h : Sk w wb rb b col ls row bs pend) : w.cell? ⟨b, 2, none⟩ = some (.bool ls) := h.bf.rest 2 (by omega)
theorem sk_col (h : Sk w wb rb b col ls row bs pend) (c : Int) : Sk (w.setCell ⟨b, 1, none⟩ (.int .i64 c)) wb rb b c ls row bs pend := by
  have e : (fun j => if j = 1 then some (Value.int .i64 c) else Rc wb col ls j) = Rc wb c ls := by
    funext j
    match j with
    | 0 => rfl
    | 1 => rfl
    | 2 => rfl
    | (_ + 3) => rfl
  have hk : Kept [b] w (w.setCell ⟨b, 1, none⟩ (.int .i64 c)) := (Kept.refl _ _).setCell (p := ⟨b, 1, none⟩) (by simp) _
  exact ⟨h.wr.kept hk (by simp; exact h.d1) (by simp; exact h.d2), e ▸ h.bf.other 1 (by omega) ⟨_, rfl⟩ _, h.d1, h.d2, h.d3⟩
theorem sk_ls (h : Sk w wb rb b col ls row bs pend) (c : Bool) : Sk (w.setCell ⟨b, 2, none⟩ (.bool c)) wb rb b col c row bs pend := by
  have e : (fun j => if j = 2 then some (Value.bool c) else Rc wb col ls j) = Rc wb col c := by
    funext j
    match j with
    | 0 => rfl
    | 1 => rfl
    | 2 => rfl
    | (_ + 3) => rfl
  have hk : Kept [b] w (w.setCell ⟨b, 2, none⟩ (.bool c)) := (Kept.refl _ _).setCell (p := ⟨b, 2, none⟩) (by simp) _
  exact ⟨h.wr.kept hk (by simp; exact h.d1) (by simp; exact h.d2), e ▸ h.bf.other 2 (by omega) ⟨_, rfl⟩ _, h.d1, h.d2, h.d3⟩
end

/-- What one byte does to the column and the flag. -/
def stepC (s : Int × Bool) (x : UInt8) : Int × Bool := if x.toNat = 10 then (1, true) else (s.1 + 1, s.2 && (x.toNat == 9 || x.toNat == 32 || x.toNat == 255))

set_option maxRecDepth 100000 in
theorem addbyte {w : World} {wb rb b : Nat} {col : Int} {ls : Bool} {row : Option Nat} {bs pend : List UInt8} (h : Sk w wb rb b col ls row bs pend) (x : UInt8) (hc1 : -4611686018427387904 ≤ col) (hc2 : col ≤ 4611686018427387904) :
    Calls Tryd.prog 34 #[.pointer (some ⟨b, 0, none⟩), .int .u8 x.toNat] w fun e w' => e = .returned (.tuple #[]) ∧ Sk w' wb rb b (stepC (col, ls) x).1 (stepC (col, ls) x).2 row bs pend ∧ Kept [b] w w' := by
  have c1 := sk_c1 h
  have c2 := sk_c2 h
  have f1 := h.bf.free 1
  have f2 := h.bf.free 2
  have HS := Lib.hid h
  clear h
  have hx := x.toNat_lt
  by_cases h10 : x.toNat = 10
  · have c1a : ((w.setCell ⟨b, 1, none⟩ (.int .i64 0)).setCell ⟨b, 2, none⟩ (.bool true)).cell? ⟨b, 1, none⟩ = some (.int .i64 0) := sk_c1 (sk_ls (sk_col HS.out 0) true)
    rw [h10]
    go_enter Tryd.func34, Tryd.ntmps34
    go_wp2_with fail
    go_end0
    have e : stepC (col, ls) x = (1, true) := by simp [stepC, h10]
    rw [e]
    exact ⟨rfl, sk_col (sk_ls (sk_col HS.out 0) true) 1, (((Kept.refl _ _).setCell (p := ⟨b, 1, none⟩) (by simp) _).setCell (p := ⟨b, 2, none⟩) (by simp) _).setCell (p := ⟨b, 1, none⟩) (by simp) _⟩
  · have HX := Lib.hid h10
    by_cases hbl : x.toNat = 9 ∨ x.toNat = 32 ∨ x.toNat = 255
    · have e : stepC (col, ls) x = (col + 1, ls) := by
        unfold stepC; rw [if_neg h10]; rcases hbl with h | h | h <;> simp [h]
      rw [e]
      rcases hbl with h | h | h <;> rw [h] <;> clear e h h10
      all_goals (
        go_enter Tryd.func34, Tryd.ntmps34
        go_wp2_with fail
        go_end0
        exact ⟨rfl, sk_col HS.out _, (Kept.refl _ _).setCell (p := ⟨b, 1, none⟩) (by simp) _⟩)
    · have e : stepC (col, ls) x = (col + 1, false) := by
        unfold stepC; rw [if_neg h10]; simp; omega
      rw [e]
      have g1 : ((x.toNat : Int) == 10) = false := by simp; omega
      have g2 : ((x.toNat : Int) == 9) = false := by simp; omega
      have g3 : ((x.toNat : Int) == 32) = false := by simp; omega
      have g4 : ((x.toNat : Int) == 255) = false := by simp; omega
      have c1a : (w.setCell ⟨b, 2, none⟩ (.bool false)).cell? ⟨b, 1, none⟩ = some (.int .i64 col) := sk_c1 (sk_ls HS.out false)
      clear e hbl h10
      go_enter Tryd.func34, Tryd.ntmps34
      go_wp2_with fail
      go_end0
      exact ⟨rfl, sk_col (sk_ls HS.out false) _, ((Kept.refl _ _).setCell (p := ⟨b, 2, none⟩) (by simp) _).setCell (p := ⟨b, 1, none⟩) (by simp) _⟩
end Go.Proofs.YtmoglhggnodkoaaDoor
