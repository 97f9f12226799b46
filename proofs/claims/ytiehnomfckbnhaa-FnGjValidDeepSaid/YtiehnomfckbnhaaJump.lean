/- A scope with one label. -/
import Derived.Test.YtiehnomfckbnhaaProg
import Derived.ScopeJumps
import Derived.Lib.Hide
namespace Go.Proofs.Ytiehnomfckbnhaa.J
open Go.RowKit

def jumps (J : Nat → Act → World → Prop) (Q : Exit → Act → World → Prop) : Exit → Act → World → Prop
  | .goto l, a, w => J l a w
  | e, a, w => Q e a w

theorem wp_scope_jumpsN {P : Program} {a : Act} {w : World} {Q : Exit → Act → World → Prop} {c : Code} (J : Nat → Act → World → Prop) (μ : Nat → Act → World → Nat)
    (first : c.wp P (jumps J Q) a w)
    (pass : ∀ l a w, J l a w → ∃ rest, findLabel c l = some rest ∧ rest.wp P (jumps (fun l' a' w' => J l' a' w' ∧ μ l' a' w' < μ l a w) Q) a w) : (Code.scope c).wp P Q a w := by
  intro b k cs
  have key : ∀ n l rest a w, μ l a w = n → J l a w → findLabel c l = some rest → ∃ e a' w', Q e a' w' ∧ Arrives P (lone (b.at a (.code rest :: .inScope c :: k)) cs w) b k cs e a' w' := by
    intro n
    induction n using Nat.strongRecOn with
    | _ n ih =>
      intro l rest a w hn hJ hf
      obtain ⟨rest', hf', hp⟩ := pass l a w hJ
      obtain rfl : rest = rest' := by rw [hf] at hf'; exact Option.some.inj hf'
      obtain ⟨e, a₁, w₁, hq, harr⟩ := hp b (.inScope c :: k) cs
      cases e with
      | normal => exact ⟨.normal, a₁, w₁, hq, Steps.trans harr (.one step_inScope)⟩
      | exit id => exact ⟨.exit id, a₁, w₁, hq, fun k' hk => harr k' (by simp [exitTo, hk])⟩
      | goto l' =>
        obtain ⟨hJ', hlt⟩ := hq
        obtain ⟨rest₂, hf₂, _⟩ := pass l' a₁ w₁ hJ'
        obtain ⟨e₂, a₂, w₂, hq₂, harr₂⟩ := ih _ (by omega) l' rest₂ a₁ w₁ rfl hJ' hf₂
        exact ⟨e₂, a₂, w₂, hq₂, .of_steps (harr _ (by simp [gotoIn, hf₂])) harr₂⟩
      | ret => exact ⟨_, a₁, w₁, hq, harr⟩
      | panic ch => exact ⟨_, a₁, w₁, hq, harr⟩
      | outgrown => exact ⟨_, a₁, w₁, hq, harr⟩
  obtain ⟨e, a₁, w₁, hq, harr⟩ := first b (.inScope c :: k) cs
  cases e with
  | normal => exact ⟨.normal, a₁, w₁, hq, .head step_scope (Steps.trans harr (.one step_inScope))⟩
  | exit id => exact ⟨.exit id, a₁, w₁, hq, fun k' hk => .head step_scope (harr k' (by simp [exitTo, hk]))⟩
  | goto l' =>
    obtain ⟨rest₂, hf₂, _⟩ := pass l' a₁ w₁ hq
    obtain ⟨e₂, a₂, w₂, hq₂, harr₂⟩ := key _ l' rest₂ a₁ w₁ rfl hq hf₂
    exact ⟨e₂, a₂, w₂, hq₂, .of_steps (.head step_scope (harr _ (by simp [gotoIn, hf₂]))) harr₂⟩
  | ret => exact ⟨_, a₁, w₁, hq, .of_steps (.one step_scope) harr⟩
  | panic ch => exact ⟨_, a₁, w₁, hq, .of_steps (.one step_scope) harr⟩
  | outgrown => exact ⟨_, a₁, w₁, hq, .of_steps (.one step_scope) harr⟩

def strOf : Value → Nat | .string s => s.size | _ => 0

theorem wp_scope_label {P : Program} {a : Act} {w : World} {Q : Exit → Act → World → Prop} {b : Code} (J : Act → World → Prop) (μ : Act → World → Nat) (h0 : J a w)
    (pass : ∀ a w, J a w → b.wp P (jumps (fun l' a' w' => l' = 0 ∧ J a' w' ∧ μ a' w' < μ a w) Q) a w) : (Code.scope (.seq (.label 0) b)).wp P Q a w := by
  refine wp_scope_jumpsN (fun l a w => l = 0 ∧ J a w) (fun l a w => μ a w) ?_ ?_
  · refine wp_seq (wp_label ?_)
    refine wp_mono (pass a w h0) ?_
    intro e a' w' h
    cases e with
    | goto l => exact ⟨h.1, h.2.1⟩
    | _ => exact h
  · rintro l a' w' ⟨rfl, hJ⟩
    refine ⟨.seq .skip b, rfl, wp_seq (wp_skip ?_)⟩
    refine wp_mono (pass a' w' hJ) ?_
    intro e a2 w2 h
    cases e with
    | goto l => exact ⟨⟨h.1, h.2.1⟩, h.2.2⟩
    | _ => exact h
end Go.Proofs.Ytiehnomfckbnhaa.J
