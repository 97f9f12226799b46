/- What Escape writes is read back, on lists of bytes. -/
import Derived.Test.YtkmdcckiehbcmaaDoorUnPure
set_option linter.unusedVariables false
namespace Go.Proofs.YtkmdcckiehbcmaaDoor.J
def hx1 (d : Int) : Int := if d < 10 then 48 + d else 87 + d
/-- How a byte is written. -/
def eo (c : Int) : L :=
  if c = 34 ∨ c = 92 then [92, c] else if c = 8 then [92, 98] else if c = 12 then [92, 102] else if c = 10 then [92, 110] else if c = 13 then [92, 114] else if c = 9 then [92, 116]
  else if c < 32 then [92, 117, 48, 48, hx1 (c / 16), hx1 (c % 16)] else [c]
def eos (l : L) : L := l.flatMap eo
theorem eo_len (c : Int) : 1 ≤ (eo c).length ∧ (eo c).length ≤ 6 := by
  unfold eo
  repeat' split
  all_goals simp
theorem eos_len : ∀ l : L, l.length ≤ (eos l).length ∧ (eos l).length ≤ 6 * l.length
  | [] => by simp [eos]
  | c :: t => by
    have h1 := eo_len c
    have h2 := eos_len t
    simp only [eos, List.flatMap_cons, List.length_append, List.length_cons] at *
    omega
theorem eo_byt {c : Int} (h0 : 0 ≤ c) (h1 : c ≤ 255) : ∀ x ∈ eo c, 0 ≤ x ∧ x < 256 := by
  intro x hx
  unfold eo hx1 at hx
  repeat' split at hx
  all_goals (simp at hx; omega)
theorem eos_byt : ∀ {l : L}, (∀ x ∈ l, 0 ≤ x ∧ x ≤ 255) → ∀ x ∈ eos l, 0 ≤ x ∧ x < 256
  | [], _, x, hx => by simp [eos] at hx
  | c :: t, h, x, hx => by
    simp only [eos, List.flatMap_cons, List.mem_append] at hx
    rcases hx with hx | hx
    · exact eo_byt (h c List.mem_cons_self).1 (h c List.mem_cons_self).2 x hx
    · exact eos_byt (fun y hy => h y (List.mem_cons_of_mem _ hy)) x hx
theorem hx1_hex {d : Int} (h0 : 0 ≤ d) (h1 : d ≤ 15) : hex (hx1 d) = true ∧ hv (hx1 d) = d := by
  have : d = 0 ∨ d = 1 ∨ d = 2 ∨ d = 3 ∨ d = 4 ∨ d = 5 ∨ d = 6 ∨ d = 7 ∨ d = 8 ∨ d = 9 ∨ d = 10 ∨ d = 11 ∨ d = 12 ∨ d = 13 ∨ d = 14 ∨ d = 15 := by omega
  rcases this with rfl | rfl | rfl | rfl | rfl | rfl | rfl | rfl | rfl | rfl | rfl | rfl | rfl | rfl | rfl | rfl <;> decide
theorem pu_short {x : Int} (r : L) (h : plainEsc x = true) : pu (92 :: x :: r) = (pu r).map (short x :: ·) := by
  have e : ue (92 :: x :: r) = some (2, [short x]) := by unfold ue; rw [if_neg (by simp)]; simp only [List.getD_cons_succ, List.getD_cons_zero]; rw [if_pos h]
  rw [pu_yes e]; rfl
theorem pu_eo {c : Int} (h0 : 0 ≤ c) (h1 : c ≤ 255) (r : L) : pu (eo c ++ r) = (pu r).map (c :: ·) := by
  unfold eo
  split
  · rename_i h
    rcases h with rfl | rfl
    · exact pu_short r (by decide)
    · exact pu_short r (by decide)
  split
  · rename_i h; subst h; exact pu_short r (by decide)
  split
  · rename_i h; subst h; exact pu_short r (by decide)
  split
  · rename_i h; subst h; exact pu_short r (by decide)
  split
  · rename_i h; subst h; exact pu_short r (by decide)
  split
  · rename_i h; subst h; exact pu_short r (by decide)
  split
  · rename_i h
    obtain ⟨a1, a2⟩ := hx1_hex (d := c / 16) (by omega) (by omega)
    obtain ⟨b1, b2⟩ := hx1_hex (d := c % 16) (by omega) (by omega)
    have hu : unit (92 :: 117 :: 48 :: 48 :: hx1 (c / 16) :: hx1 (c % 16) :: r) = some c := by
      unfold unit
      rw [if_pos ⟨by simp, rfl, rfl, (show hex 48 = true by decide), (show hex 48 = true by decide), a1, b1⟩]
      simp only [List.getD_cons_succ, List.getD_cons_zero, a2, b2]
      rw [show hv 48 = 0 by decide]
      congr 1; omega
    have e : ue (92 :: 117 :: 48 :: 48 :: hx1 (c / 16) :: hx1 (c % 16) :: r) = some (6, [c]) := by
      unfold ue
      rw [if_neg (by simp)]
      simp only [List.getD_cons_succ, List.getD_cons_zero]
      rw [if_neg (by decide), if_pos trivial, hu]
      simp only []
      rw [if_neg (by unfold high; simp; omega)]
      unfold utf8
      rw [if_pos (by omega)]
    show pu (92 :: 117 :: 48 :: 48 :: hx1 (c / 16) :: hx1 (c % 16) :: r) = _
    rw [pu_yes e]; rfl
  · rename_i h1 h2 h3 h4 h5 h6 h7
    exact pu_plain r (fun e => h1 (.inr e))
theorem pu_eos : ∀ {l : L}, (∀ x ∈ l, 0 ≤ x ∧ x ≤ 255) → pu (eos l) = some l
  | [], _ => by simp [eos, pu_nil]
  | c :: t, h => by
    have ih := pu_eos (l := t) (fun y hy => h y (List.mem_cons_of_mem _ hy))
    obtain ⟨h0, h1⟩ := h c List.mem_cons_self
    simp only [eos, List.flatMap_cons] at ih ⊢
    rw [pu_eo h0 h1, ih]; rfl
end Go.Proofs.YtkmdcckiehbcmaaDoor.J
