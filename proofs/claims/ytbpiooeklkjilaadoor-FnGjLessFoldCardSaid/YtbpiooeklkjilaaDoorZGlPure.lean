/- A string between quotation marks as the reference writes it: where it ends and what stands in it. Plain Lean. -/
import Derived.Test.YtbpiooeklkjilaaDoorZUnPure
set_option linter.unusedVariables false
set_option linter.unusedSimpArgs false
namespace Go.Proofs.YtbpiooeklkjilaaDoor.Gl
open Go.RowKit Go.Proofs.YtbpiooeklkjilaaDoorW.PrintWords Go.Proofs.YtbpiooeklkjilaaDoor.Aid Go.Proofs.YtbpiooeklkjilaaDoor.J

def hx (d : Int) : Int := if d < 10 then 48 + d else 87 + d
/-- How a byte is written. -/
def qz (c : Int) : L := if c = 34 then [92, 34] else if c = 92 then [92, 92] else if c = 8 then [92, 98] else if c = 12 then [92, 102] else if c = 10 then [92, 110] else if c = 13 then [92, 114] else if c = 9 then [92, 116] else if c < 32 then [92, 117, 48, 48, 48 + c / 16, hx (c % 16)] else [c]
def qs (l : L) : L := l.flatMap qz
theorem qs_nil : qs [] = [] := rfl
theorem qs_cons (c : Int) (t : L) : qs (c :: t) = qz c ++ qs t := rfl
theorem qs_append (a b : L) : qs (a ++ b) = qs a ++ qs b := by simp [qs]
theorem qs_snoc (a : L) (c : Int) : qs (a ++ [c]) = qs a ++ qz c := by rw [qs_append, qs_cons, qs_nil, List.append_nil]
/-- A byte is written as it is, or by a letter behind a backslash, or by four digits. -/
inductive Qk (c : Int) : L → Prop
  | plain : 32 ≤ c → c ≠ 34 → c ≠ 92 → Qk c [c]
  | two (x : Int) : (x = 34 ∨ x = 92 ∨ 98 ≤ x ∧ x ≤ 116) → x ≠ 117 → Qk c [92, x]
  | hex : c < 32 → Qk c [92, 117, 48, 48, 48 + c / 16, hx (c % 16)]
theorem qz_kind (c : Int) : Qk c (qz c) := by
  unfold qz
  repeat' split
  all_goals first
    | exact .two _ (by omega) (by omega)
    | exact .hex (by omega)
    | exact .plain (by omega) (by omega) (by omega)
theorem qz_len (c : Int) : 1 ≤ (qz c).length ∧ (qz c).length ≤ 6 := by
  have h := qz_kind c
  generalize qz c = z at h ⊢
  cases h <;> simp
theorem qs_len : ∀ l : L, l.length ≤ (qs l).length ∧ (qs l).length ≤ 6 * l.length
  | [] => by rw [qs_nil]; simp
  | c :: l => by
    have h1 := qz_len c
    have h2 := qs_len l
    rw [qs_cons, List.length_append, List.length_cons]; omega
theorem qz_byt {c : Int} (h : 0 ≤ c ∧ c < 256) : ∀ x ∈ qz c, 0 ≤ x ∧ x < 256 := by
  unfold qz hx
  repeat' split
  all_goals
    intro x hx
    simp only [List.mem_cons, List.not_mem_nil, or_false] at hx
    omega
theorem qs_byt : ∀ {l : L}, (∀ x ∈ l, 0 ≤ x ∧ x < 256) → ∀ x ∈ qs l, 0 ≤ x ∧ x < 256
  | [], _, x, hx => by cases hx
  | c :: l, h, x, hx => by
    rw [qs_cons, List.mem_append] at hx
    rcases hx with hx | hx
    · exact qz_byt (h c List.mem_cons_self) x hx
    · exact qs_byt (fun y hy => h y (List.mem_cons_of_mem _ hy)) x hx
/-- How many backslashes stand at the end. -/
def tr (l : L) : Nat := (l.reverse.takeWhile (· == 92)).length
theorem tr_nil : tr [] = 0 := rfl
theorem tr_bs (l : L) : tr (l ++ [92]) = tr l + 1 := by
  unfold tr
  rw [List.reverse_append]
  show ((92 :: l.reverse).takeWhile (· == 92)).length = _
  rw [List.takeWhile_cons, if_pos (show ((92 : Int) == 92) = true from rfl), List.length_cons]
theorem tr_no (l : L) {c : Int} (h : c ≠ 92) : tr (l ++ [c]) = 0 := by
  unfold tr
  rw [List.reverse_append]
  show ((c :: l.reverse).takeWhile (· == 92)).length = _
  rw [List.takeWhile_cons, if_neg (by simpa using h), List.length_nil]
theorem tr_qz (l : L) (c : Int) : tr (l ++ qz c) = 0 ∨ tr (l ++ qz c) = tr l + 2 := by
  have two : ∀ x : Int, tr (l ++ [92, x]) = 0 ∨ tr (l ++ [92, x]) = tr l + 2 := fun x => by
    rw [show l ++ [92, x] = (l ++ [92]) ++ [x] by simp]
    by_cases h : x = 92
    · rw [h, tr_bs, tr_bs]; exact .inr rfl
    · rw [tr_no _ h]; exact .inl rfl
  have hk := qz_kind c
  generalize qz c = z at hk ⊢
  cases hk with
  | plain h1 h2 h3 => exact .inl (tr_no _ h3)
  | two x h1 h2 => exact two x
  | hex h =>
    refine .inl ?_
    rw [show l ++ [92, 117, 48, 48, 48 + c / 16, hx (c % 16)] = (l ++ [92, 117, 48, 48, 48 + c / 16]) ++ [hx (c % 16)] by simp]
    refine tr_no _ ?_
    unfold hx; split <;> omega
/-- Behind what is written an even number of backslashes stands. -/
theorem tr_even (l : L) (h : tr l % 2 = 0) : ∀ a : L, tr (l ++ qs a) % 2 = 0 := by
  intro a
  induction a generalizing l with
  | nil => rw [qs_nil, List.append_nil]; exact h
  | cons c a ih =>
    rw [qs_cons, ← List.append_assoc]
    refine ih (l ++ qz c) ?_
    rcases tr_qz l c with e | e <;> omega
end Go.Proofs.YtbpiooeklkjilaaDoor.Gl
