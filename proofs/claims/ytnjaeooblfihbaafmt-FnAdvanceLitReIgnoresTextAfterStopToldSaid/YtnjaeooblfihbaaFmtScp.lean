/-
  A scope with labels: a jump to a label goes on at the label's code. No invariant and no measure: what a jump leads to is a predicate J of the label, proved by Lean's own induction.
-/
import Derived.Test.YtnjaeooblfihbaaFmtApl
import Derived.WalkMore
import Derived.ScopeJumps
namespace Go.Proofs.YtnjaeooblfihbaaFmt
open Go.RowKit

/-- As Q; at a goto to label l: J l. -/
def jumps (J : Nat → Act → World → Prop) (Q : Exit → Act → World → Prop) : Exit → Act → World → Prop
  | .goto l, a, w => J l a w
  | e, a, w => Q e a w
section
variable {J : Nat → Act → World → Prop} {Q : Exit → Act → World → Prop} {a : Act} {w : World}
@[go_sem] theorem jumps_normal : jumps J Q .normal a w = Q .normal a w := rfl
@[go_sem] theorem jumps_exit (id : Nat) : jumps J Q (.exit id) a w = Q (.exit id) a w := rfl
@[go_sem] theorem jumps_ret : jumps J Q .ret a w = Q .ret a w := rfl
@[go_sem] theorem jumps_panic (ch : List PanicEntry) : jumps J Q (.panic ch) a w = Q (.panic ch) a w := rfl
@[go_sem] theorem jumps_goto (l : Nat) : jumps J Q (.goto l) a w = J l a w := rfl
end

/-- The run from label l of scope c ends in Q. -/
def JumpTo (P : Program) (c : Code) (Q : Exit → Act → World → Prop) (l : Nat) (a : Act) (w : World) : Prop :=
  ∃ rest, findLabel c l = some rest ∧ ∀ (b : Frame) (k : List Item) (cs : List Frame), ∃ e a' w', Q e a' w' ∧ Arrives P (lone (b.at a (.code rest :: .inScope c :: k)) cs w) b k cs e a' w'

section
variable {P : Program} {a : Act} {w : World} {Q : Exit → Act → World → Prop}
theorem jumpTo_intro {c rest : Code} {l : Nat} (hf : findLabel c l = some rest) (h : rest.wp P (jumps (JumpTo P c Q) Q) a w) : JumpTo P c Q l a w := by
  refine ⟨rest, hf, fun b k cs => ?_⟩
  obtain ⟨e, a₁, w₁, hq, harr⟩ := h b (.inScope c :: k) cs
  cases e with
  | normal => exact ⟨.normal, a₁, w₁, hq, Steps.trans harr (.one step_inScope)⟩
  | exit id => exact ⟨.exit id, a₁, w₁, hq, fun k' hk => harr k' (by simp [exitTo, hk])⟩
  | goto l' =>
    obtain ⟨rest', hf', hrun⟩ := hq
    have hg : gotoIn l' (.inScope c :: k) = some (.code rest' :: .inScope c :: k) := by simp [gotoIn, hf']
    obtain ⟨e₂, a₂, w₂, hq₂, harr₂⟩ := hrun b k cs
    exact ⟨e₂, a₂, w₂, hq₂, .of_steps (harr _ hg) harr₂⟩
  | ret => exact ⟨_, a₁, w₁, hq, harr⟩
  | panic ch => exact ⟨_, a₁, w₁, hq, harr⟩
  | outgrown => exact ⟨_, a₁, w₁, hq, harr⟩
theorem wp_scope_all {c : Code} (h : c.wp P (jumps (JumpTo P c Q) Q) a w) : (Code.scope c).wp P Q a w := by
  intro b k cs
  obtain ⟨e, a₁, w₁, hq, harr⟩ := h b (.inScope c :: k) cs
  cases e with
  | normal => exact ⟨.normal, a₁, w₁, hq, .head step_scope (Steps.trans harr (.one step_inScope))⟩
  | exit id => exact ⟨.exit id, a₁, w₁, hq, fun k' hk => .head step_scope (harr k' (by simp [exitTo, hk]))⟩
  | goto l' =>
    obtain ⟨rest', hf', hrun⟩ := hq
    have hg : gotoIn l' (.inScope c :: k) = some (.code rest' :: .inScope c :: k) := by simp [gotoIn, hf']
    obtain ⟨e₂, a₂, w₂, hq₂, harr₂⟩ := hrun b k cs
    exact ⟨e₂, a₂, w₂, hq₂, .of_steps (.head step_scope (harr _ hg)) harr₂⟩
  | ret => exact ⟨_, a₁, w₁, hq, .of_steps (.one step_scope) harr⟩
  | panic ch => exact ⟨_, a₁, w₁, hq, .of_steps (.one step_scope) harr⟩
  | outgrown => exact ⟨_, a₁, w₁, hq, .of_steps (.one step_scope) harr⟩
end
end Go.Proofs.YtnjaeooblfihbaaFmt
