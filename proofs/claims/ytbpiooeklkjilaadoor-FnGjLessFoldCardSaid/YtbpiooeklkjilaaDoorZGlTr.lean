/- Where a string that the reference writes ends: the backslashes ahead of a quotation mark. Plain Lean. -/
import Derived.Test.YtbpiooeklkjilaaDoorZGlPure
set_option linter.unusedVariables false
set_option linter.unusedSimpArgs false
namespace Go.Proofs.YtbpiooeklkjilaaDoor.Gl
open Go.RowKit Go.Proofs.YtbpiooeklkjilaaDoorW.PrintWords Go.Proofs.YtbpiooeklkjilaaDoor.Aid Go.Proofs.YtbpiooeklkjilaaDoor.J

/-- Ahead of a quotation mark that stands inside an odd number of backslashes stands. -/
theorem tr_q : ∀ (x u v l : L), (∀ c ∈ x, 0 ≤ c ∧ c < 256) → tr l % 2 = 0 → qs x = u ++ 34 :: v → tr (l ++ u) % 2 = 1 := by
  intro x
  induction x with
  | nil => intro u v l _ _ h; rw [qs_nil] at h; simp at h
  | cons c t ih =>
    intro u v l hb hl h
    have hb' : ∀ c ∈ t, 0 ≤ c ∧ c < 256 := fun y hy => hb y (List.mem_cons_of_mem _ hy)
    have hl' : tr (l ++ qz c) % 2 = 0 := by rcases tr_qz l c with e | e <;> omega
    rw [qs_cons, List.append_eq_append_iff] at h
    rcases h with ⟨a, h1, h2⟩ | ⟨a, h1, h2⟩
    · rw [h1, ← List.append_assoc]
      exact ih a v (l ++ qz c) hb' hl' h2
    · cases a with
      | nil =>
        rw [List.nil_append] at h2
        rw [List.append_nil] at h1
        have := ih [] v (l ++ qz c) hb' hl' h2.symm
        rwa [List.append_nil, h1] at this
      | cons d a =>
        rw [List.cons_append, List.cons.injEq] at h2
        obtain ⟨rfl, h2⟩ := h2
        have hc := hb c List.mem_cons_self
        have hk := qz_kind c
        generalize qz c = z at hk h1
        cases hk with
        | plain p1 p2 p3 =>
          cases u with
          | nil => simp at h1; omega
          | cons u0 u => simp at h1
        | two y p1 p2 =>
          cases u with
          | nil => simp at h1
          | cons u0 u =>
            simp only [List.cons_append, List.cons.injEq] at h1
            obtain ⟨rfl, h1⟩ := h1
            cases u with
            | nil => rw [tr_bs]; omega
            | cons u1 u => simp at h1
        | hex p1 =>
          exfalso
          have hm : (34 : Int) ∈ ([92, 117, 48, 48, 48 + c / 16, hx (c % 16)] : L) := by rw [h1]; simp
          simp only [List.mem_cons, List.not_mem_nil, or_false] at hm
          unfold hx at hm
          split at hm <;> omega
theorem tr_end {x : L} : tr (qs x) % 2 = 0 := by have := tr_even [] rfl x; rwa [List.nil_append] at this
theorem tr_take_bs (l : L) (k : Nat) (h : k < l.length) (hc : l.getD k 0 = 92) : tr (l.take (k + 1)) = tr (l.take k) + 1 := by
  rw [List.take_add_one, List.getElem?_eq_getElem h]
  rw [List.getD_eq_getElem?_getD, List.getElem?_eq_getElem h] at hc
  simp only [Option.getD_some] at hc
  rw [hc]
  exact tr_bs _
theorem tr_take_no (l : L) (k : Nat) (h : k < l.length) (hc : l.getD k 0 ≠ 92) : tr (l.take (k + 1)) = 0 := by
  rw [List.take_add_one, List.getElem?_eq_getElem h]
  rw [List.getD_eq_getElem?_getD, List.getElem?_eq_getElem h] at hc
  simp only [Option.getD_some] at hc
  exact tr_no _ hc
theorem take_split (l : L) (k : Nat) (h : k < l.length) : l = l.take k ++ l.getD k 0 :: l.drop (k + 1) := by
  rw [List.getD_eq_getElem?_getD, List.getElem?_eq_getElem h, Option.getD_some, ← List.drop_eq_getElem_cons h, List.take_append_drop]
/-- The mark at place k inside: an odd number of backslashes ahead. -/
theorem tr_in {x : L} (hb : ∀ c ∈ x, 0 ≤ c ∧ c < 256) (k : Nat) (h : k < (qs x).length) (hc : (qs x).getD k 0 = 34) : tr ((qs x).take k) % 2 = 1 := by
  have h1 := take_split (qs x) k h
  rw [hc] at h1
  have := tr_q x _ _ [] hb rfl h1
  rwa [List.nil_append] at this
end Go.Proofs.YtbpiooeklkjilaaDoor.Gl
