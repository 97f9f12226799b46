/- What fastjson writes of a plain string, on lists of bytes. -/
import Derived.Test.YtkmdcckiehbcmaaDoorSsPure
set_option linter.unusedVariables false
namespace Go.Proofs.YtkmdcckiehbcmaaDoor.J

/-- A byte as strconv quotes it. -/
def qz (c : Int) : L := if c = 34 then [92, 34] else if c = 92 then [92, 92] else if c = 8 then [92, 98] else if c = 12 then [92, 102] else if c = 10 then [92, 110] else if c = 13 then [92, 114] else if c = 9 then [92, 116] else [c]
def qs (l : L) : L := l.flatMap qz
theorem qs_nil : qs [] = [] := rfl
theorem qs_cons (c : Int) (t : L) : qs (c :: t) = qz c ++ qs t := rfl
theorem qs_append (a b : L) : qs (a ++ b) = qs a ++ qs b := by simp [qs]
/-- No byte to escape; bytes that have an escape of a letter. -/
def pl1 (c : Int) : Bool := decide (32 ≤ c) && !(c == 34) && !(c == 92)
def pl2 (c : Int) : Bool := (decide (32 ≤ c) && decide (c ≤ 126)) || c == 8 || c == 9 || c == 10 || c == 12 || c == 13
theorem pl1_qz {c : Int} (h : pl1 c = true) : qz c = [c] := by
  unfold pl1 at h
  simp only [Bool.and_eq_true, decide_eq_true_eq, Bool.not_eq_true', beq_eq_false_iff_ne] at h
  obtain ⟨⟨h1, h2⟩, h3⟩ := h
  unfold qz
  rw [if_neg h2, if_neg h3, if_neg (by omega), if_neg (by omega), if_neg (by omega), if_neg (by omega), if_neg (by omega)]
theorem pl1_qs {l : L} (h : l.all pl1 = true) : qs l = l := by
  induction l with
  | nil => rfl
  | cons c t ih =>
    rw [List.all_cons, Bool.and_eq_true] at h
    rw [qs_cons, pl1_qz h.1, ih h.2]; rfl
theorem st_qz {c : Int} (hb : 0 ≤ c ∧ c < 256) (h : pl1 c = true ∨ pl2 c = true) : St (qz c) [c] := by
  unfold qz
  by_cases h1 : c = 34
  · rw [if_pos h1, h1]; exact St.esc1 (x := 34) rfl (by omega)
  rw [if_neg h1]
  by_cases h2 : c = 92
  · rw [if_pos h2, h2]; exact St.esc1 (x := 92) rfl (by omega)
  rw [if_neg h2]
  by_cases h3 : c = 8
  · rw [if_pos h3, h3]; exact St.esc1 (x := 98) rfl (by omega)
  rw [if_neg h3]
  by_cases h4 : c = 12
  · rw [if_pos h4, h4]; exact St.esc1 (x := 102) rfl (by omega)
  rw [if_neg h4]
  by_cases h5 : c = 10
  · rw [if_pos h5, h5]; exact St.esc1 (x := 110) rfl (by omega)
  rw [if_neg h5]
  by_cases h6 : c = 13
  · rw [if_pos h6, h6]; exact St.esc1 (x := 114) rfl (by omega)
  rw [if_neg h6]
  by_cases h7 : c = 9
  · rw [if_pos h7, h7]; exact St.esc1 (x := 116) rfl (by omega)
  rw [if_neg h7]
  refine St.one ⟨?_, by omega, h1, h2⟩
  rcases h with h | h
  · unfold pl1 at h
    simp only [Bool.and_eq_true, decide_eq_true_eq] at h
    exact h.1.1
  · unfold pl2 at h
    simp only [Bool.or_eq_true, Bool.and_eq_true, decide_eq_true_eq, beq_iff_eq] at h
    omega
theorem st_qs : ∀ {l : L}, (∀ x ∈ l, 0 ≤ x ∧ x < 256) → l.all pl1 = true ∨ l.all pl2 = true → St (qs l) l
  | [], _, _ => St.nil
  | c :: t, hb, h => by
    rw [List.all_cons, List.all_cons, Bool.and_eq_true, Bool.and_eq_true] at h
    exact (st_qz (hb c List.mem_cons_self) (h.elim (fun h => .inl h.1) (fun h => .inr h.1))).app (st_qs (fun x hx => hb x (List.mem_cons_of_mem _ hx)) (h.elim (fun h => .inl h.2) (fun h => .inr h.2)))
theorem qz_byt {c : Int} (h : 0 ≤ c ∧ c < 256) : ∀ x ∈ qz c, 0 ≤ x ∧ x < 256 := by
  intro x hx
  unfold qz at hx
  repeat' split at hx
  all_goals (simp at hx; omega)
theorem qs_byt : ∀ {l : L}, (∀ x ∈ l, 0 ≤ x ∧ x < 256) → ∀ x ∈ qs l, 0 ≤ x ∧ x < 256 := by
  intro l h x hx
  obtain ⟨c, hc, hx⟩ := List.mem_flatMap.1 hx
  exact qz_byt (h c hc) x hx
theorem qz_len (c : Int) : 1 ≤ (qz c).length ∧ (qz c).length ≤ 2 := by
  unfold qz
  repeat' split
  all_goals simp
theorem qs_len : ∀ l : L, l.length ≤ (qs l).length ∧ (qs l).length ≤ 2 * l.length
  | [] => by simp [qs]
  | c :: t => by
    have h1 := qz_len c
    have h2 := qs_len t
    rw [qs_cons, List.length_append, List.length_cons]
    omega
end Go.Proofs.YtkmdcckiehbcmaaDoor.J
