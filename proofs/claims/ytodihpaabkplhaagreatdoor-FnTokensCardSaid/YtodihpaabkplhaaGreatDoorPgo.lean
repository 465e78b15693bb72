/- A scope with jumps forward to its labels. -/
import Derived.Scope
import Derived.WalkMore
namespace Go.Proofs.YtodihpaabkplhaaGreatDoor

/-- As Q; by a goto to a label: J. -/
def jumps (J : Nat → Act → World → Prop) (Q : Exit → Act → World → Prop) : Exit → Act → World → Prop
  | .goto l, a, w => J l a w
  | e, a, w => Q e a w

theorem wp_scope_labels {P : Program} {c : Code} {Q : Exit → Act → World → Prop} {a : Act} {w : World} (J : Nat → Act → World → Prop) (μ : Nat → Nat)
    (first : c.wp P (jumps J Q) a w)
    (pass : ∀ l a w, J l a w → ∃ rest, findLabel c l = some rest ∧ rest.wp P (jumps (fun l' a' w' => J l' a' w' ∧ μ l' < μ l) Q) a w) : (Code.scope c).wp P Q a w := by
  intro b k cs
  have hg : ∀ l rest, findLabel c l = some rest → gotoIn l (.inScope c :: k) = some (.code rest :: .inScope c :: k) := by
    intro l rest hf
    simp [gotoIn, hf]
  have key : ∀ n l a w, μ l = n → J l a w → ∃ rest, findLabel c l = some rest ∧ ∃ e a' w', Q e a' w' ∧ Arrives P (lone (b.at a (.code rest :: .inScope c :: k)) cs w) b k cs e a' w' := by
    intro n
    induction n using Nat.strongRecOn with
    | _ n ih =>
      intro l a w hn hJ
      obtain ⟨rest, hf, hp⟩ := pass l a w hJ
      refine ⟨rest, hf, ?_⟩
      obtain ⟨e, a₁, w₁, hq, harr⟩ := hp b (.inScope c :: k) cs
      cases e with
      | normal => exact ⟨.normal, a₁, w₁, hq, Steps.trans harr (.one step_inScope)⟩
      | exit id => exact ⟨.exit id, a₁, w₁, hq, fun k' hk => harr k' (by simp [exitTo, hk])⟩
      | goto l' =>
        obtain ⟨hJ', hlt⟩ := hq
        obtain ⟨rest', hf', e₂, a₂, w₂, hq₂, harr₂⟩ := ih _ (by omega) l' a₁ w₁ rfl hJ'
        exact ⟨e₂, a₂, w₂, hq₂, .of_steps (harr _ (hg l' rest' hf')) harr₂⟩
      | ret => exact ⟨_, a₁, w₁, hq, harr⟩
      | panic ch => exact ⟨_, a₁, w₁, hq, harr⟩
      | outgrown => exact ⟨_, a₁, w₁, hq, harr⟩
  obtain ⟨e, a₁, w₁, hq, harr⟩ := first b (.inScope c :: k) cs
  cases e with
  | normal => exact ⟨.normal, a₁, w₁, hq, .head step_scope (Steps.trans harr (.one step_inScope))⟩
  | exit id => exact ⟨.exit id, a₁, w₁, hq, fun k' hk => .head step_scope (harr k' (by simp [exitTo, hk]))⟩
  | goto l' =>
    obtain ⟨rest', hf', e₂, a₂, w₂, hq₂, harr₂⟩ := key _ l' a₁ w₁ rfl hq
    exact ⟨e₂, a₂, w₂, hq₂, .of_steps (.head step_scope (harr _ (hg l' rest' hf'))) harr₂⟩
  | ret => exact ⟨_, a₁, w₁, hq, .of_steps (.one step_scope) harr⟩
  | panic ch => exact ⟨_, a₁, w₁, hq, .of_steps (.one step_scope) harr⟩
  | outgrown => exact ⟨_, a₁, w₁, hq, .of_steps (.one step_scope) harr⟩

/-- Two labels, 1 ahead of 0: a jump goes on behind its label. -/
def J0 (P : Program) (r0 : Code) (Q : Exit → Act → World → Prop) (l : Nat) (a : Act) (w : World) : Prop := l = 0 ∧ r0.wp P (Exit.noGoto Q) a w
def J1 (P : Program) (r0 r1 : Code) (Q : Exit → Act → World → Prop) (l : Nat) (a : Act) (w : World) : Prop := J0 P r0 Q l a w ∨ (l = 1 ∧ r1.wp P (jumps (J0 P r0 Q) Q) a w)
theorem wp_scope_two {P : Program} {c r0 r1 : Code} {Q : Exit → Act → World → Prop} {a : Act} {w : World} (h0 : findLabel c 0 = some r0) (h1 : findLabel c 1 = some r1)
    (first : c.wp P (jumps (J1 P r0 r1 Q) Q) a w) : (Code.scope c).wp P Q a w := by
  refine wp_scope_labels (J1 P r0 r1 Q) id first ?_
  rintro l a w (⟨rfl, h⟩ | ⟨rfl, h⟩)
  · refine ⟨r0, h0, Code.wp_mono ?_ h⟩
    intro e a w he
    cases e <;> first | exact he | exact he.elim
  · refine ⟨r1, h1, Code.wp_mono ?_ h⟩
    intro e a w he
    cases e with
    | goto l =>
      obtain ⟨rfl, he⟩ := he
      exact ⟨Or.inl ⟨rfl, he⟩, Nat.zero_lt_one⟩
    | _ => exact he
end Go.Proofs.YtodihpaabkplhaaGreatDoor
