/- A scope with three labels to which the run jumps ahead only. -/
import Derived.Test.YtmdbnjepajifpaaTrans
import Derived.ScopeJumps
namespace Go.Proofs.Ytmdbnjepajifpaa
open Go.RowKit

def Exit.j1 (J0 : Act → World → Prop) (Q : Exit → Act → World → Prop) : Exit → Act → World → Prop
  | .goto l, a, w => l = 0 ∧ J0 a w
  | e, a, w => Q e a w
def Exit.j3 (J0 J1 J2 : Act → World → Prop) (Q : Exit → Act → World → Prop) : Exit → Act → World → Prop
  | .goto l, a, w => (l = 0 ∧ J0 a w) ∨ (l = 1 ∧ J1 a w) ∨ (l = 2 ∧ J2 a w)
  | e, a, w => Q e a w
section
variable {J0 J1 J2 : Act → World → Prop} {Q : Exit → Act → World → Prop} {a : Act} {w : World}
@[go_sem] theorem j1_0 : Exit.j1 J0 Q (.goto 0) a w = J0 a w := by simp [Exit.j1]
@[go_sem] theorem j1_n : Exit.j1 J0 Q .normal a w = Q .normal a w := rfl
@[go_sem] theorem j1_e (i : Nat) : Exit.j1 J0 Q (.exit i) a w = Q (.exit i) a w := rfl
@[go_sem] theorem j1_r : Exit.j1 J0 Q .ret a w = Q .ret a w := rfl
@[go_sem] theorem j1_p (c : List PanicEntry) : Exit.j1 J0 Q (.panic c) a w = Q (.panic c) a w := rfl
@[go_sem] theorem j3_0 : Exit.j3 J0 J1 J2 Q (.goto 0) a w = J0 a w := by simp [Exit.j3]
@[go_sem] theorem j3_1 : Exit.j3 J0 J1 J2 Q (.goto 1) a w = J1 a w := by simp [Exit.j3]
@[go_sem] theorem j3_2 : Exit.j3 J0 J1 J2 Q (.goto 2) a w = J2 a w := by simp [Exit.j3]
@[go_sem] theorem j3_n : Exit.j3 J0 J1 J2 Q .normal a w = Q .normal a w := rfl
@[go_sem] theorem j3_e (i : Nat) : Exit.j3 J0 J1 J2 Q (.exit i) a w = Q (.exit i) a w := rfl
@[go_sem] theorem j3_r : Exit.j3 J0 J1 J2 Q .ret a w = Q .ret a w := rfl
@[go_sem] theorem j3_p (c : List PanicEntry) : Exit.j3 J0 J1 J2 Q (.panic c) a w = Q (.panic c) a w := rfl
end

theorem j3_i0 {J0 J1 J2 : Act → World → Prop} {Q : Exit → Act → World → Prop} {a : Act} {w : World} (h : J0 a w) : Exit.j3 J0 J1 J2 Q (.goto 0) a w := .inl ⟨rfl, h⟩
theorem j3_i1 {J0 J1 J2 : Act → World → Prop} {Q : Exit → Act → World → Prop} {a : Act} {w : World} (h : J1 a w) : Exit.j3 J0 J1 J2 Q (.goto 1) a w := .inr (.inl ⟨rfl, h⟩)
theorem j3_i2 {J0 J1 J2 : Act → World → Prop} {Q : Exit → Act → World → Prop} {a : Act} {w : World} (h : J2 a w) : Exit.j3 J0 J1 J2 Q (.goto 2) a w := .inr (.inr ⟨rfl, h⟩)
theorem j1_i0 {J0 : Act → World → Prop} {Q : Exit → Act → World → Prop} {a : Act} {w : World} (h : J0 a w) : Exit.j1 J0 Q (.goto 0) a w := ⟨rfl, h⟩

theorem wp_scope3 {P : Program} {c r0 r1 r2 : Code} {Q : Exit → Act → World → Prop} {a : Act} {w : World} (h0 : findLabel c 0 = some r0) (h1 : findLabel c 1 = some r1) (h2 : findLabel c 2 = some r2)
    (h : ∀ J0 J1 J2 : Act → World → Prop, (∀ a w, r0.wp P (Exit.noGoto Q) a w → J0 a w) → (∀ a w, r1.wp P (Exit.j1 J0 Q) a w → J1 a w) → (∀ a w, r2.wp P (Exit.j1 J0 Q) a w → J2 a w) → c.wp P (Exit.j3 J0 J1 J2 Q) a w) :
    (Code.scope c).wp P Q a w := by
  have H := h (fun a w => r0.wp P (Exit.noGoto Q) a w) (fun a w => r1.wp P (Exit.j1 (fun a w => r0.wp P (Exit.noGoto Q) a w) Q) a w) (fun a w => r2.wp P (Exit.j1 (fun a w => r0.wp P (Exit.noGoto Q) a w) Q) a w)
    (fun _ _ h => h) (fun _ _ h => h) (fun _ _ h => h)
  intro b k cs
  have hg : ∀ l r, findLabel c l = some r → gotoIn l (.inScope c :: k) = some (.code r :: .inScope c :: k) := fun l r hf => by simp [gotoIn, hf]
  have k0 : ∀ a w, r0.wp P (Exit.noGoto Q) a w → ∃ e a' w', Q e a' w' ∧ Arrives P (lone (b.at a (.code r0 :: .inScope c :: k)) cs w) b k cs e a' w' := by
    intro a w hr
    obtain ⟨e, a₁, w₁, hq, harr⟩ := hr b (.inScope c :: k) cs
    cases e with
    | normal => exact ⟨.normal, a₁, w₁, hq, Steps.trans harr (.one step_inScope)⟩
    | exit id => exact ⟨.exit id, a₁, w₁, hq, fun k' hk => harr k' (by simp [exitTo, hk])⟩
    | goto l' => exact hq.elim
    | ret => exact ⟨_, a₁, w₁, hq, harr⟩
    | panic ch => exact ⟨_, a₁, w₁, hq, harr⟩
    | outgrown => exact ⟨_, a₁, w₁, hq, harr⟩
  have k1 : ∀ r a w, r.wp P (Exit.j1 (fun a w => r0.wp P (Exit.noGoto Q) a w) Q) a w → ∃ e a' w', Q e a' w' ∧ Arrives P (lone (b.at a (.code r :: .inScope c :: k)) cs w) b k cs e a' w' := by
    intro r a w hr
    obtain ⟨e, a₁, w₁, hq, harr⟩ := hr b (.inScope c :: k) cs
    cases e with
    | normal => exact ⟨.normal, a₁, w₁, hq, Steps.trans harr (.one step_inScope)⟩
    | exit id => exact ⟨.exit id, a₁, w₁, hq, fun k' hk => harr k' (by simp [exitTo, hk])⟩
    | goto l' =>
      obtain ⟨rfl, hq⟩ := hq
      obtain ⟨e₂, a₂, w₂, hq₂, harr₂⟩ := k0 _ _ hq
      exact ⟨e₂, a₂, w₂, hq₂, .of_steps (harr _ (hg 0 r0 h0)) harr₂⟩
    | ret => exact ⟨_, a₁, w₁, hq, harr⟩
    | panic ch => exact ⟨_, a₁, w₁, hq, harr⟩
    | outgrown => exact ⟨_, a₁, w₁, hq, harr⟩
  obtain ⟨e, a₁, w₁, hq, harr⟩ := H b (.inScope c :: k) cs
  cases e with
  | normal => exact ⟨.normal, a₁, w₁, hq, .head step_scope (Steps.trans harr (.one step_inScope))⟩
  | exit id => exact ⟨.exit id, a₁, w₁, hq, fun k' hk => .head step_scope (harr k' (by simp [exitTo, hk]))⟩
  | goto l' =>
    rcases hq with ⟨rfl, hq⟩ | ⟨rfl, hq⟩ | ⟨rfl, hq⟩
    · obtain ⟨e₂, a₂, w₂, hq₂, harr₂⟩ := k0 _ _ hq
      exact ⟨e₂, a₂, w₂, hq₂, .of_steps (.head step_scope (harr _ (hg 0 r0 h0))) harr₂⟩
    · obtain ⟨e₂, a₂, w₂, hq₂, harr₂⟩ := k1 _ _ _ hq
      exact ⟨e₂, a₂, w₂, hq₂, .of_steps (.head step_scope (harr _ (hg 1 r1 h1))) harr₂⟩
    · obtain ⟨e₂, a₂, w₂, hq₂, harr₂⟩ := k1 _ _ _ hq
      exact ⟨e₂, a₂, w₂, hq₂, .of_steps (.head step_scope (harr _ (hg 2 r2 h2))) harr₂⟩
  | ret => exact ⟨_, a₁, w₁, hq, .of_steps (.one step_scope) harr⟩
  | panic ch => exact ⟨_, a₁, w₁, hq, .of_steps (.one step_scope) harr⟩
  | outgrown => exact ⟨_, a₁, w₁, hq, .of_steps (.one step_scope) harr⟩

end Go.Proofs.Ytmdbnjepajifpaa
