/-
  '[]byte(s)': a new row of bytes.
-/
import Derived.Test.YtolgahamfkaipaaFmtByt
import Derived.Lib.ConvBytes
namespace Go.Proofs.YtolgahamfkaipaaFmt
open Go.RowKit

theorem kept_bytesWorld (w : World) (e : TypeId) (s : ByteArray) : Kept [] w (Lib.bytesWorld w e s) :=
  ⟨rfl, rfl, rfl, by rw [Lib.bytesWorld_size]; omega, fun k hk _ => Lib.bytesWorld_at_old w e s k hk⟩

theorem wpList_bytes {w : World} {ops : Array Oper} {rest : List Oper} {o : Oper} {a : Act} {Q : Exit → Act → World → Prop} (hgd : o.guard = none) (x : Operand) (ho : o.op = .convert 9 32 x) (s : ByteArray) (hx : a.eval x = .string s)
    (h : ∀ A cap w', SrcB w' A s.size s.data.toList → s.size ≤ cap → Kept [] w w' → A ≠ none → wpList Tryf.prog ops Q rest (a.put o.dst (.slice A s.size cap)) w') : wpList Tryf.prog ops Q (o :: rest) a w := by
  refine wpList_plain hgd fun K hK => ?_
  have hrun := Lib.run_convert_string_bytes (P := Tryf.prog) w 9 32 5 s (u := .string) (by kernel_rfl) u8_und (by kernel_rfl)
  have hs : SrcB (Lib.bytesWorld w 5 s) (some ⟨w.heap.size, 0, none⟩) s.size s.data.toList := by
    refine ⟨rfl, fun _ => ⟨w.heap.size, 0, rfl, by rw [Lib.bytesWorld_size]; omega, fun j c hj => ?_⟩⟩
    have hlt : j < s.size := (List.getElem?_eq_some_iff.1 hj).1
    rw [Nat.zero_add, Lib.bytesWorld_cell w _ s j hlt]
    simp only [List.getD_eq_getElem?_getD, hj]
    rfl
  have hcap : s.size ≤ grownCap w s.size 0 5 := by unfold grownCap Question.cut; simp
  unfold Oper.wp
  simp only [execOp, ho, hx, Sem.run_bind, hrun, Result.andThen_ok]
  exact hK _ _ (h _ _ _ hs hcap (kept_bytesWorld w _ s) (by simp))
end Go.Proofs.YtolgahamfkaipaaFmt
