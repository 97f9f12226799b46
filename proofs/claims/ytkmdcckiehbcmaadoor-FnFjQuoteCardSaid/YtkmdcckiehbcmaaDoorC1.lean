/- Characters in UTF-8, on lists of bytes. -/
import Derived.Test.YtkmdcckiehbcmaaDoorJPure
import Derived.Lib.DecodeN
import Derived.Test.YtkmdcckiehbcmaaDoorQ1
import Derived.Test.YtkmdcckiehbcmaaDoorShelf
set_option linter.unusedVariables false
namespace Go.Proofs.YtkmdcckiehbcmaaDoor.J
open Go.RowKit Go.Proofs.YtkmdcckiehbcmaaDoorW.PrintWords Go.Proofs.YtkmdcckiehbcmaaDoor.Aid

def cont (b : Int) : Bool := decide (128 ≤ b) && decide (b ≤ 191)
theorem cont_iff {b : Int} : cont b = true ↔ 128 ≤ b ∧ b ≤ 191 := by unfold cont; simp
/-- The character that stands here, and how many bytes it has. -/
def chr (l : L) : Option (Int × Nat) :=
  if l.length = 0 then none
  else if l.getD 0 0 < 128 then some (l.getD 0 0, 1)
  else if 194 ≤ l.getD 0 0 ∧ l.getD 0 0 ≤ 223 then
    (if 2 ≤ l.length ∧ cont (l.getD 1 0) = true then some ((l.getD 0 0 - 192) * 64 + (l.getD 1 0 - 128), 2) else none)
  else if 224 ≤ l.getD 0 0 ∧ l.getD 0 0 ≤ 239 then
    (if 3 ≤ l.length ∧ cont (l.getD 1 0) = true ∧ cont (l.getD 2 0) = true ∧ 2048 ≤ ((l.getD 0 0 - 224) * 64 + (l.getD 1 0 - 128)) * 64 + (l.getD 2 0 - 128) ∧ ¬ (55296 ≤ ((l.getD 0 0 - 224) * 64 + (l.getD 1 0 - 128)) * 64 + (l.getD 2 0 - 128) ∧ ((l.getD 0 0 - 224) * 64 + (l.getD 1 0 - 128)) * 64 + (l.getD 2 0 - 128) ≤ 57343)
     then some (((l.getD 0 0 - 224) * 64 + (l.getD 1 0 - 128)) * 64 + (l.getD 2 0 - 128), 3) else none)
  else if 240 ≤ l.getD 0 0 ∧ l.getD 0 0 ≤ 244 then
    (if 4 ≤ l.length ∧ cont (l.getD 1 0) = true ∧ cont (l.getD 2 0) = true ∧ cont (l.getD 3 0) = true ∧ 65536 ≤ (((l.getD 0 0 - 240) * 64 + (l.getD 1 0 - 128)) * 64 + (l.getD 2 0 - 128)) * 64 + (l.getD 3 0 - 128) ∧ (((l.getD 0 0 - 240) * 64 + (l.getD 1 0 - 128)) * 64 + (l.getD 2 0 - 128)) * 64 + (l.getD 3 0 - 128) ≤ 1114111
     then some ((((l.getD 0 0 - 240) * 64 + (l.getD 1 0 - 128)) * 64 + (l.getD 2 0 - 128)) * 64 + (l.getD 3 0 - 128), 4) else none)
  else none
/-- What a character is: its bytes. -/
theorem chr_some {l : L} {c : Int} {n : Nat} (h : chr l = some (c, n)) : 1 ≤ n ∧ n ≤ 4 ∧ n ≤ l.length ∧ (l.getD 0 0 < 128 ∧ n = 1 ∧ c = l.getD 0 0 ∨ 194 ≤ l.getD 0 0 ∧ 2 ≤ n ∧ 128 ≤ c) ∧ (∀ i, 1 ≤ i → i < n → cont (l.getD i 0) = true) := by
  unfold chr at h
  split at h
  · cases h
  split at h
  · simp only [Option.some.injEq, Prod.mk.injEq] at h
    obtain ⟨rfl, rfl⟩ := h
    exact ⟨by omega, by omega, by omega, .inl ⟨by assumption, rfl, rfl⟩, fun i h1 h2 => by omega⟩
  split at h
  · rename_i g
    split at h
    · rename_i k
      obtain ⟨k1, k2⟩ := k
      have q := cont_iff.1 k2
      simp only [Option.some.injEq, Prod.mk.injEq] at h
      obtain ⟨rfl, rfl⟩ := h
      refine ⟨by omega, by omega, by omega, .inr ⟨by omega, by omega, by omega⟩, fun i h1 h2 => ?_⟩
      obtain rfl : i = 1 := by omega
      exact k2
    · cases h
  split at h
  · rename_i g
    split at h
    · rename_i k
      obtain ⟨k1, k2, k3, k4, k5⟩ := k
      simp only [Option.some.injEq, Prod.mk.injEq] at h
      obtain ⟨rfl, rfl⟩ := h
      refine ⟨by omega, by omega, by omega, .inr ⟨by omega, by omega, by omega⟩, fun i h1 h2 => ?_⟩
      rcases (show i = 1 ∨ i = 2 by omega) with rfl | rfl
      · exact k2
      · exact k3
    · cases h
  split at h
  · rename_i g
    split at h
    · rename_i k
      obtain ⟨k1, k2, k3, k4, k5, k6⟩ := k
      simp only [Option.some.injEq, Prod.mk.injEq] at h
      obtain ⟨rfl, rfl⟩ := h
      refine ⟨by omega, by omega, by omega, .inr ⟨by omega, by omega, by omega⟩, fun i h1 h2 => ?_⟩
      rcases (show i = 1 ∨ i = 2 ∨ i = 3 by omega) with rfl | rfl | rfl
      · exact k2
      · exact k3
      · exact k4
    · cases h
  · cases h
/-- It hangs on its own bytes alone. -/
theorem chr_congr {l m : L} {c : Int} {n : Nat} (h : chr l = some (c, n)) (hm : n ≤ m.length) (he : ∀ i, i < n → m.getD i 0 = l.getD i 0) : chr m = some (c, n) := by
  have hs := chr_some h
  have h0 := he 0 (by omega)
  unfold chr at h ⊢
  rw [if_neg (by omega), h0]
  split at h
  · cases h
  split at h
  · rename_i g; rw [if_pos g]; exact h
  rename_i g; rw [if_neg g]
  split at h
  · rename_i g2
    rw [if_pos g2]
    split at h
    · rename_i k
      simp only [Option.some.injEq, Prod.mk.injEq] at h
      obtain ⟨rfl, rfl⟩ := h
      rw [he 1 (by omega), if_pos ⟨hm, k.2⟩]
    · cases h
  rename_i g2; rw [if_neg g2]
  split at h
  · rename_i g3
    rw [if_pos g3]
    split at h
    · rename_i k
      simp only [Option.some.injEq, Prod.mk.injEq] at h
      obtain ⟨rfl, rfl⟩ := h
      rw [he 1 (by omega), he 2 (by omega), if_pos ⟨hm, k.2⟩]
    · cases h
  rename_i g3; rw [if_neg g3]
  split at h
  · rename_i g4
    rw [if_pos g4]
    split at h
    · rename_i k
      simp only [Option.some.injEq, Prod.mk.injEq] at h
      obtain ⟨rfl, rfl⟩ := h
      rw [he 1 (by omega), he 2 (by omega), he 3 (by omega), if_pos ⟨hm, k.2⟩]
    · cases h
  · cases h
theorem chr_take {l r : L} {c : Int} {n : Nat} (h : chr l = some (c, n)) : chr (l.take n ++ r) = some (c, n) := by
  have hs := chr_some h
  have h1 : (l.take n).length = n := by rw [List.length_take]; omega
  refine chr_congr h (by rw [List.length_append]; omega) (fun i hi => ?_)
  rw [List.getD_eq_getElem?_getD, List.getElem?_append_left (by omega), List.getElem?_take_of_lt hi, List.getD_eq_getElem?_getD]
/-- Characters one behind the other. -/
def valid (l : L) : Bool :=
  if l.length = 0 then true else match h : chr l with
    | none => false
    | some (c, n) => valid (l.drop n)
termination_by l.length
decreasing_by have := chr_some h; simp only [List.length_drop]; omega
theorem valid_nil : valid [] = true := by rw [valid]; rfl
theorem valid_none {l : L} (h0 : l.length ≠ 0) (h : chr l = none) : valid l = false := by
  rw [valid, if_neg h0]
  split
  · rfl
  · rename_i e; rw [h] at e; cases e
theorem valid_some {l : L} {c : Int} {n : Nat} (h : chr l = some (c, n)) : valid l = valid (l.drop n) := by
  have hs := chr_some h
  rw [valid, if_neg (by omega)]
  split
  · rename_i e; rw [h] at e; cases e
  · rename_i c' n' e; rw [h] at e; simp only [Option.some.injEq, Prod.mk.injEq] at e; rw [e.2]
theorem valid_cases {l : L} (h : valid l = true) : l = [] ∨ ∃ c n, chr l = some (c, n) ∧ valid (l.drop n) = true := by
  by_cases h0 : l.length = 0
  · exact .inl (List.eq_nil_of_length_eq_zero h0)
  · cases e : chr l with
    | none => rw [valid_none h0 e] at h; cases h
    | some x =>
      obtain ⟨c, n⟩ := x
      rw [valid_some e] at h
      exact .inr ⟨c, n, rfl, h⟩
/-- Two texts whose first characters are the same. -/
theorem chr_inj {l m : L} {c : Int} {n n' : Nat} (hl : ∀ x ∈ l, 0 ≤ x ∧ x ≤ 255) (hm : ∀ x ∈ m, 0 ≤ x ∧ x ≤ 255) (h : chr l = some (c, n)) (k : chr m = some (c, n')) : n = n' ∧ l.take n = m.take n := by
  have key : ∀ {l : L} {c : Int} {n : Nat}, chr l = some (c, n) → l.take n = utf8 c ∧ (utf8 c).length = n := by
    intro l c n h
    have hs := chr_some h
    have tk : ∀ x : L, x.length = n → (∀ i, i < n → x.getD i 0 = l.getD i 0) → l.take n = x := by
      intro x hx he
      apply List.ext_getElem?
      intro i
      by_cases hi : i < n
      · have := he i hi
        rw [List.getElem?_take_of_lt hi, List.getElem?_eq_getElem (by omega), List.getElem?_eq_getElem (by omega)]
        rw [List.getD_eq_getElem?_getD, List.getD_eq_getElem?_getD, List.getElem?_eq_getElem (by omega), List.getElem?_eq_getElem (by omega)] at this
        simpa using this.symm
      · rw [List.getElem?_eq_none (by rw [List.length_take]; omega), List.getElem?_eq_none (by omega)]
    unfold chr at h
    split at h
    · cases h
    split at h
    · simp only [Option.some.injEq, Prod.mk.injEq] at h
      obtain ⟨rfl, rfl⟩ := h
      have e : utf8 (l.getD 0 0) = [l.getD 0 0] := by unfold utf8; rw [if_pos (by assumption)]
      rw [e]
      exact ⟨tk _ rfl (fun i hi => by obtain rfl : i = 0 := by omega
                                      rfl), rfl⟩
    split at h
    · rename_i g
      split at h
      · rename_i k
        have q := cont_iff.1 k.2
        simp only [Option.some.injEq, Prod.mk.injEq] at h
        obtain ⟨rfl, rfl⟩ := h
        have e : utf8 ((l.getD 0 0 - 192) * 64 + (l.getD 1 0 - 128)) = [l.getD 0 0, l.getD 1 0] := by
          unfold utf8; rw [if_neg (by omega), if_pos (by omega)]
          rw [show 192 + ((l.getD 0 0 - 192) * 64 + (l.getD 1 0 - 128)) / 64 = l.getD 0 0 by omega, show 128 + ((l.getD 0 0 - 192) * 64 + (l.getD 1 0 - 128)) % 64 = l.getD 1 0 by omega]
        rw [e]
        refine ⟨tk _ rfl (fun i hi => ?_), rfl⟩
        rcases (show i = 0 ∨ i = 1 by omega) with rfl | rfl <;> rfl
      · cases h
    split at h
    · rename_i g
      split at h
      · rename_i k
        obtain ⟨k1, k2, k3, k4, k5⟩ := k
        have q := cont_iff.1 k2
        have q2 := cont_iff.1 k3
        simp only [Option.some.injEq, Prod.mk.injEq] at h
        obtain ⟨rfl, rfl⟩ := h
        generalize hc : ((l.getD 0 0 - 224) * 64 + (l.getD 1 0 - 128)) * 64 + (l.getD 2 0 - 128) = c at *
        have e : utf8 c = [l.getD 0 0, l.getD 1 0, l.getD 2 0] := by
          unfold utf8; rw [if_neg (by omega), if_neg (by omega), if_neg (by unfold high low; simp; omega), if_pos (by omega)]
          rw [show 224 + c / 4096 = l.getD 0 0 by omega, show 128 + c / 64 % 64 = l.getD 1 0 by omega, show 128 + c % 64 = l.getD 2 0 by omega]
        rw [e]
        refine ⟨tk _ rfl (fun i hi => ?_), rfl⟩
        rcases (show i = 0 ∨ i = 1 ∨ i = 2 by omega) with rfl | rfl | rfl <;> rfl
      · cases h
    split at h
    · rename_i g
      split at h
      · rename_i k
        obtain ⟨k1, k2, k3, k4, k5, k6⟩ := k
        have q := cont_iff.1 k2
        have q2 := cont_iff.1 k3
        have q3 := cont_iff.1 k4
        simp only [Option.some.injEq, Prod.mk.injEq] at h
        obtain ⟨rfl, rfl⟩ := h
        generalize hc : (((l.getD 0 0 - 240) * 64 + (l.getD 1 0 - 128)) * 64 + (l.getD 2 0 - 128)) * 64 + (l.getD 3 0 - 128) = c at *
        have e : utf8 c = [l.getD 0 0, l.getD 1 0, l.getD 2 0, l.getD 3 0] := by
          unfold utf8; rw [if_neg (by omega), if_neg (by omega), if_neg (by unfold high low; simp; omega), if_neg (by omega)]
          rw [show 240 + c / 262144 = l.getD 0 0 by omega, show 128 + c / 4096 % 64 = l.getD 1 0 by omega, show 128 + c / 64 % 64 = l.getD 2 0 by omega, show 128 + c % 64 = l.getD 3 0 by omega]
        rw [e]
        refine ⟨tk _ rfl (fun i hi => ?_), rfl⟩
        rcases (show i = 0 ∨ i = 1 ∨ i = 2 ∨ i = 3 by omega) with rfl | rfl | rfl | rfl <;> rfl
      · cases h
    · cases h
  obtain ⟨a1, a2⟩ := key h
  obtain ⟨b1, b2⟩ := key k
  obtain rfl : n = n' := by omega
  exact ⟨rfl, by rw [a1, b1]⟩
end Go.Proofs.YtkmdcckiehbcmaaDoor.J
