/- A scope out of which the run jumps on to labels of its own: what stands behind the label is walked from the jump on. -/
import Derived.ScopeJumps
namespace Go.Proofs.YtlfeolfjlmelpaaGreatDoor
open Go

/-- As Q; by a goto: what stands behind the label, at most n times. -/
def goes (P : Program) (F : Nat → Option Code) : Nat → (Exit → Act → World → Prop) → Exit → Act → World → Prop
  | 0, Q => Exit.noGoto Q
  | n + 1, Q => fun e a w => match e with
    | .goto l => ∃ rest, F l = some rest ∧ rest.wp P (goes P F n Q) a w
    | e => Q e a w
theorem goes_ret {P : Program} {F : Nat → Option Code} {Q : Exit → Act → World → Prop} {n : Nat} {a : Act} {w : World} (h : Q .ret a w) : goes P F n Q .ret a w := by
  cases n with
  | zero => exact h
  | succ n => exact h
theorem goes_goto {P : Program} {F : Nat → Option Code} {Q : Exit → Act → World → Prop} {n l : Nat} {a : Act} {w : World} {rest : Code} (hf : F l = some rest) (h : rest.wp P (goes P F n Q) a w) : goes P F (n + 1) Q (.goto l) a w := ⟨rest, hf, h⟩

theorem wp_scope_goes {P : Program} {c : Code} {a : Act} {w : World} {Q : Exit → Act → World → Prop} (n : Nat) (h : ∀ F : Nat → Option Code, (∀ l, F l = findLabel c l) → c.wp P (goes P F n Q) a w) : (Code.scope c).wp P Q a w := by
  intro b k cs
  have hg : ∀ l rest, findLabel c l = some rest → gotoIn l (.inScope c :: k) = some (.code rest :: .inScope c :: k) := fun l rest hf => by simp [gotoIn, hf]
  have key : ∀ n (d : Code) a w, d.wp P (goes P (fun l => findLabel c l) n Q) a w → ∃ e a' w', Q e a' w' ∧ Arrives P (lone (b.at a (.code d :: .inScope c :: k)) cs w) b k cs e a' w' := by
    intro n
    induction n with
    | zero =>
      intro d a w hd
      obtain ⟨e, a₁, w₁, hq, harr⟩ := hd b (.inScope c :: k) cs
      cases e with
      | normal => exact ⟨.normal, a₁, w₁, hq, Steps.trans harr (.one step_inScope)⟩
      | exit id => exact ⟨.exit id, a₁, w₁, hq, fun k' hk => harr k' (by simp [exitTo, hk])⟩
      | goto l' => exact absurd hq (by simp [goes, Exit.noGoto])
      | ret => exact ⟨_, a₁, w₁, hq, harr⟩
      | panic ch => exact ⟨_, a₁, w₁, hq, harr⟩
      | outgrown => exact ⟨_, a₁, w₁, hq, harr⟩
    | succ n ih =>
      intro d a w hd
      obtain ⟨e, a₁, w₁, hq, harr⟩ := hd b (.inScope c :: k) cs
      cases e with
      | normal => exact ⟨.normal, a₁, w₁, hq, Steps.trans harr (.one step_inScope)⟩
      | exit id => exact ⟨.exit id, a₁, w₁, hq, fun k' hk => harr k' (by simp [exitTo, hk])⟩
      | goto l' =>
        obtain ⟨rest, hf, hw⟩ := hq
        obtain ⟨e₂, a₂, w₂, hq₂, harr₂⟩ := ih rest a₁ w₁ hw
        exact ⟨e₂, a₂, w₂, hq₂, .of_steps (harr _ (hg _ _ hf)) harr₂⟩
      | ret => exact ⟨_, a₁, w₁, hq, harr⟩
      | panic ch => exact ⟨_, a₁, w₁, hq, harr⟩
      | outgrown => exact ⟨_, a₁, w₁, hq, harr⟩
  obtain ⟨e₂, a₂, w₂, hq₂, harr₂⟩ := key n c a w (h _ (fun _ => rfl))
  exact ⟨e₂, a₂, w₂, hq₂, .of_steps (.one step_scope) harr₂⟩
end Go.Proofs.YtlfeolfjlmelpaaGreatDoor
