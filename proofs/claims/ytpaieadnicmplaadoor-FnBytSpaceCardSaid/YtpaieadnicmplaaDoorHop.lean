/- A scope whose run jumps ahead, once, to a label: what stands behind the label is walked where the jump is made. -/
import Derived.ScopeJumps
import Derived.WalkKit
namespace Go.Proofs.YtpaieadnicmplaaDoor

def Exit.off (ls : List Nat) (Q : Exit → Act → World → Prop) : Exit → Act → World → Prop
  | .goto l', a, w => l' ∈ ls ∧ Q (.goto l') a w
  | e, a, w => Q e a w
def Exit.hop (P : Program) (l : Nat) (ls : List Nat) (rest : Code) (Q : Exit → Act → World → Prop) : Exit → Act → World → Prop
  | .goto l', a, w => if l' = l then rest.wp P (Exit.off ls Q) a w else l' ∈ ls ∧ Q (.goto l') a w
  | e, a, w => Q e a w
section
variable {P : Program} {a : Act} {w : World} {Q : Exit → Act → World → Prop} {l : Nat} {ls : List Nat} {rest : Code}
theorem inBlock_goto (id l : Nat) : Exit.inBlock id Q (.goto l) a w = Q (.goto l) a w := rfl
theorem then_goto (K : Act → World → Prop) (l : Nat) : Exit.then K Q (.goto l) a w = Q (.goto l) a w := rfl
theorem off_normal : Exit.off ls Q .normal a w = Q .normal a w := rfl
theorem off_exit (id : Nat) : Exit.off ls Q (.exit id) a w = Q (.exit id) a w := rfl
theorem off_ret : Exit.off ls Q .ret a w = Q .ret a w := rfl
theorem off_panic (ch : List PanicEntry) : Exit.off ls Q (.panic ch) a w = Q (.panic ch) a w := rfl
theorem off_goto (l' : Nat) : Exit.off ls Q (.goto l') a w = (l' ∈ ls ∧ Q (.goto l') a w) := rfl
theorem hop_normal : Exit.hop P l ls rest Q .normal a w = Q .normal a w := rfl
theorem hop_exit (id : Nat) : Exit.hop P l ls rest Q (.exit id) a w = Q (.exit id) a w := rfl
theorem hop_ret : Exit.hop P l ls rest Q .ret a w = Q .ret a w := rfl
theorem hop_panic (ch : List PanicEntry) : Exit.hop P l ls rest Q (.panic ch) a w = Q (.panic ch) a w := rfl
theorem hop_goto : Exit.hop P l ls rest Q (.goto l) a w = rest.wp P (Exit.off ls Q) a w := by
  show (if l = l then _ else _) = _
  rw [if_pos rfl]
theorem hop_goto_other (l' : Nat) (h : l' ≠ l) : Exit.hop P l ls rest Q (.goto l') a w = (l' ∈ ls ∧ Q (.goto l') a w) := by
  show (if l' = l then _ else _) = _
  rw [if_neg h]

theorem wp_scope_hop {c : Code} (l : Nat) (ls : List Nat) (hl : (findLabel c l).isSome = true) (hn : ∀ l' ∈ ls, findLabel c l' = none)
    (h : ∀ rest, findLabel c l = some rest → c.wp P (Exit.hop P l ls rest Q) a w) : (Code.scope c).wp P Q a w := by
  obtain ⟨rest, hf⟩ := Option.isSome_iff_exists.1 hl
  have h := h rest hf
  intro b k cs
  have hg : gotoIn l (.inScope c :: k) = some (.code rest :: .inScope c :: k) := by simp [gotoIn, hf]
  have hno : ∀ l' ∈ ls, gotoIn l' (.inScope c :: k) = gotoIn l' k := fun l' hl' => by simp [gotoIn, hn l' hl']
  obtain ⟨e, a₁, w₁, hq, harr⟩ := h b (.inScope c :: k) cs
  cases e with
  | normal => exact ⟨.normal, a₁, w₁, hq, .head step_scope (Steps.trans harr (.one step_inScope))⟩
  | exit id => exact ⟨.exit id, a₁, w₁, hq, fun k' hk => .head step_scope (harr k' (by simp [exitTo, hk]))⟩
  | goto l' =>
    by_cases e : l' = l
    · subst e
      rw [hop_goto] at hq
      obtain ⟨e₂, a₂, w₂, hq₂, harr₂⟩ := hq b (.inScope c :: k) cs
      have hst := Steps.trans (.one step_scope) (harr _ hg)
      cases e₂ with
      | normal => exact ⟨.normal, a₂, w₂, hq₂, Steps.trans hst (Steps.trans harr₂ (.one step_inScope))⟩
      | exit id => exact ⟨.exit id, a₂, w₂, hq₂, fun k' hk => Steps.trans hst (harr₂ k' (by simp [exitTo, hk]))⟩
      | goto l'' =>
        exact ⟨.goto l'', a₂, w₂, hq₂.2, fun k' hk => Steps.trans hst (harr₂ k' (by rw [hno l'' hq₂.1]; exact hk))⟩
      | ret => exact ⟨_, a₂, w₂, hq₂, .of_steps hst harr₂⟩
      | panic ch => exact ⟨_, a₂, w₂, hq₂, .of_steps hst harr₂⟩
      | outgrown => exact ⟨_, a₂, w₂, hq₂, .of_steps hst harr₂⟩
    · rw [hop_goto_other l' e] at hq
      exact ⟨.goto l', a₁, w₁, hq.2, fun k' hk => Steps.trans (.one step_scope) (harr k' (by rw [hno l' hq.1]; exact hk))⟩
  | ret => exact ⟨_, a₁, w₁, hq, .of_steps (.one step_scope) harr⟩
  | panic ch => exact ⟨_, a₁, w₁, hq, .of_steps (.one step_scope) harr⟩
  | outgrown => exact ⟨_, a₁, w₁, hq, .of_steps (.one step_scope) harr⟩
end
end Go.Proofs.YtpaieadnicmplaaDoor
