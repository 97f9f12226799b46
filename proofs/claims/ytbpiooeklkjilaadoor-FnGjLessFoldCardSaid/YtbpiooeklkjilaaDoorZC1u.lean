/- Characters in UTF-8, on lists of bytes. -/
import Derived.Test.YtbpiooeklkjilaaDoorZUnPure
import Derived.Lib.DecodeN
import Derived.Test.YtbpiooeklkjilaaDoorZUnPure
set_option linter.unusedVariables false
namespace Go.Proofs.YtbpiooeklkjilaaDoor.J
open Go.RowKit Go.Proofs.YtbpiooeklkjilaaDoorW.PrintWords Go.Proofs.YtbpiooeklkjilaaDoor.Aid

def cont (b : Int) : Bool := decide (128 ≤ b) && decide (b ≤ 191)
theorem cont_iff {b : Int} : cont b = true ↔ 128 ≤ b ∧ b ≤ 191 := by unfold cont; simp
/-- The character that stands here, and how many bytes it has. -/
def chr (l : L) : Option (Int × Nat) :=
  if l.length = 0 then none
  else if l.getD 0 0 < 128 then some (l.getD 0 0, 1)
  else if 194 ≤ l.getD 0 0 ∧ l.getD 0 0 ≤ 223 then
    (if 2 ≤ l.length ∧ cont (l.getD 1 0) = true then some ((l.getD 0 0 - 192) * 64 + (l.getD 1 0 - 128), 2) else none)
  else if 224 ≤ l.getD 0 0 ∧ l.getD 0 0 ≤ 239 then
    (if 3 ≤ l.length ∧ cont (l.getD 1 0) = true ∧ cont (l.getD 2 0) = true ∧ 2048 ≤ ((l.getD 0 0 - 224) * 64 + (l.getD 1 0 - 128)) * 64 + (l.getD 2 0 - 128) ∧ ¬ (55296 ≤ ((l.getD 0 0 - 224) * 64 + (l.getD 1 0 - 128)) * 64 + (l.getD 2 0 - 128) ∧ ((l.getD 0 0 - 224) * 64 + (l.getD 1 0 - 128)) * 64 + (l.getD 2 0 - 128) ≤ 57343)
     then some (((l.getD 0 0 - 224) * 64 + (l.getD 1 0 - 128)) * 64 + (l.getD 2 0 - 128), 3) else none)
  else if 240 ≤ l.getD 0 0 ∧ l.getD 0 0 ≤ 244 then
    (if 4 ≤ l.length ∧ cont (l.getD 1 0) = true ∧ cont (l.getD 2 0) = true ∧ cont (l.getD 3 0) = true ∧ 65536 ≤ (((l.getD 0 0 - 240) * 64 + (l.getD 1 0 - 128)) * 64 + (l.getD 2 0 - 128)) * 64 + (l.getD 3 0 - 128) ∧ (((l.getD 0 0 - 240) * 64 + (l.getD 1 0 - 128)) * 64 + (l.getD 2 0 - 128)) * 64 + (l.getD 3 0 - 128) ≤ 1114111
     then some ((((l.getD 0 0 - 240) * 64 + (l.getD 1 0 - 128)) * 64 + (l.getD 2 0 - 128)) * 64 + (l.getD 3 0 - 128), 4) else none)
  else none
/-- What a character is: its bytes. -/
theorem chr_some {l : L} {c : Int} {n : Nat} (h : chr l = some (c, n)) : 1 ≤ n ∧ n ≤ 4 ∧ n ≤ l.length ∧ (l.getD 0 0 < 128 ∧ n = 1 ∧ c = l.getD 0 0 ∨ 194 ≤ l.getD 0 0 ∧ 2 ≤ n ∧ 128 ≤ c) ∧ (∀ i, 1 ≤ i → i < n → cont (l.getD i 0) = true) := by
  unfold chr at h
  split at h
  · cases h
  split at h
  · simp only [Option.some.injEq, Prod.mk.injEq] at h
    obtain ⟨rfl, rfl⟩ := h
    exact ⟨by omega, by omega, by omega, .inl ⟨by assumption, rfl, rfl⟩, fun i h1 h2 => by omega⟩
  split at h
  · rename_i g
    split at h
    · rename_i k
      obtain ⟨k1, k2⟩ := k
      have q := cont_iff.1 k2
      simp only [Option.some.injEq, Prod.mk.injEq] at h
      obtain ⟨rfl, rfl⟩ := h
      refine ⟨by omega, by omega, by omega, .inr ⟨by omega, by omega, by omega⟩, fun i h1 h2 => ?_⟩
      obtain rfl : i = 1 := by omega
      exact k2
    · cases h
  split at h
  · rename_i g
    split at h
    · rename_i k
      obtain ⟨k1, k2, k3, k4, k5⟩ := k
      simp only [Option.some.injEq, Prod.mk.injEq] at h
      obtain ⟨rfl, rfl⟩ := h
      refine ⟨by omega, by omega, by omega, .inr ⟨by omega, by omega, by omega⟩, fun i h1 h2 => ?_⟩
      rcases (show i = 1 ∨ i = 2 by omega) with rfl | rfl
      · exact k2
      · exact k3
    · cases h
  split at h
  · rename_i g
    split at h
    · rename_i k
      obtain ⟨k1, k2, k3, k4, k5, k6⟩ := k
      simp only [Option.some.injEq, Prod.mk.injEq] at h
      obtain ⟨rfl, rfl⟩ := h
      refine ⟨by omega, by omega, by omega, .inr ⟨by omega, by omega, by omega⟩, fun i h1 h2 => ?_⟩
      rcases (show i = 1 ∨ i = 2 ∨ i = 3 by omega) with rfl | rfl | rfl
      · exact k2
      · exact k3
      · exact k4
    · cases h
  · cases h
/-- Characters one behind the other. -/
def valid (l : L) : Bool :=
  if l.length = 0 then true else match h : chr l with
    | none => false
    | some (c, n) => valid (l.drop n)
termination_by l.length
decreasing_by have := chr_some h; simp only [List.length_drop]; omega
theorem valid_nil : valid [] = true := by rw [valid]; rfl
theorem valid_none {l : L} (h0 : l.length ≠ 0) (h : chr l = none) : valid l = false := by
  rw [valid, if_neg h0]
  split
  · rfl
  · rename_i e; rw [h] at e; cases e
theorem valid_some {l : L} {c : Int} {n : Nat} (h : chr l = some (c, n)) : valid l = valid (l.drop n) := by
  have hs := chr_some h
  rw [valid, if_neg (by omega)]
  split
  · rename_i e; rw [h] at e; cases e
  · rename_i c' n' e; rw [h] at e; simp only [Option.some.injEq, Prod.mk.injEq] at e; rw [e.2]
end Go.Proofs.YtbpiooeklkjilaaDoor.J
