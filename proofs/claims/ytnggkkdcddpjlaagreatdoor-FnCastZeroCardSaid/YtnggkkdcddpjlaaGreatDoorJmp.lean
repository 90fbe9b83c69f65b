/- A scope whose jumps go forward: behind a goto the walk goes on at the label. -/
import Derived.Test.YtnggkkdcddpjlaaGreatDoorRnd
import Derived.ScopeJumps
import Derived.WalkMore
namespace Go.Proofs.YtnggkkdcddpjlaaGreatDoor
set_option linter.unusedVariables false
set_option linter.unusedSimpArgs false
open Go.RowKit
/-- As Q; by a goto: what stands behind the label comes to Q without a further goto. -/
def jumpTo (P : Program) (c : Code) (Q : Exit → Act → World → Prop) : Exit → Act → World → Prop
  | .goto l, a, w => ∃ rest, findLabel c l = some rest ∧ rest.wp P (Exit.noGoto Q) a w
  | e, a, w => Q e a w
theorem wp_scope_forward {P : Program} {a : Act} {w : World} {Q : Exit → Act → World → Prop} {c : Code} (h : c.wp P (jumpTo P c Q) a w) : (Code.scope c).wp P Q a w := by
  intro b k cs
  obtain ⟨e, a₁, w₁, hq, harr⟩ := h b (.inScope c :: k) cs
  cases e with
  | normal => exact ⟨.normal, a₁, w₁, hq, .head step_scope (Steps.trans harr (.one step_inScope))⟩
  | exit id => exact ⟨.exit id, a₁, w₁, hq, fun k' hk => .head step_scope (harr k' (by simp [exitTo, hk]))⟩
  | goto l =>
    obtain ⟨rest, hf, hr⟩ := hq
    have hg : gotoIn l (.inScope c :: k) = some (.code rest :: .inScope c :: k) := by simp [gotoIn, hf]
    obtain ⟨e₂, a₂, w₂, hq₂, harr₂⟩ := hr b (.inScope c :: k) cs
    have hst := Steps.trans (.one step_scope) (harr _ hg)
    cases e₂ with
    | normal => exact ⟨.normal, a₂, w₂, hq₂, Steps.trans hst (Steps.trans harr₂ (.one step_inScope))⟩
    | exit id => exact ⟨.exit id, a₂, w₂, hq₂, fun k' hk => Steps.trans hst (harr₂ k' (by simp [exitTo, hk]))⟩
    | goto l => exact hq₂.elim
    | ret => exact ⟨_, a₂, w₂, hq₂, .of_steps hst harr₂⟩
    | panic ch => exact ⟨_, a₂, w₂, hq₂, .of_steps hst harr₂⟩
    | outgrown => exact ⟨_, a₂, w₂, hq₂, .of_steps hst harr₂⟩
  | ret => exact ⟨_, a₁, w₁, hq, .of_steps (.one step_scope) harr⟩
  | panic ch => exact ⟨_, a₁, w₁, hq, .of_steps (.one step_scope) harr⟩
  | outgrown => exact ⟨_, a₁, w₁, hq, .of_steps (.one step_scope) harr⟩
theorem jumpTo_ret {P : Program} {c : Code} {Q : Exit → Act → World → Prop} {a : Act} {w : World} : jumpTo P c Q .ret a w = Q .ret a w := rfl
theorem jumpTo_goto {P : Program} {c : Code} {Q : Exit → Act → World → Prop} {a : Act} {w : World} (l : Nat) (rest : Code) (hf : findLabel c l = some rest) (h : rest.wp P (Exit.noGoto Q) a w) : jumpTo P c Q (.goto l) a w := ⟨rest, hf, h⟩
end Go.Proofs.YtnggkkdcddpjlaaGreatDoor
