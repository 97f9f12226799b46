/- A backslash ahead of each character; the walk of match over such a pattern. -/
import Derived.Test.YtjpbjbcdobibbaaDoorC2
import Derived.Test.YtjpbjbcdobibbaaDoorPFnMtGuardedx2
import Derived.Deep.LoopGhost
set_option linter.unusedVariables false
set_option linter.unusedSimpArgs false
namespace Go.Proofs.YtjpbjbcdobibbaaDoor.J
open Go.RowKit Go.Proofs.YtjpbjbcdobibbaaDoorW.PrintWords Go.Proofs.YtjpbjbcdobibbaaDoorW.PrintLast Go.Proofs.YtjpbjbcdobibbaaDoorW.PrintMore Go.Proofs.YtjpbjbcdobibbaaDoor.Aid Go.Proofs.YtjpbjbcdobibbaaDoor.PFnMtGuarded

def gd1 (b : Int) : L := if b < 128 ∨ 191 < b then [92, b] else [b]
def gd (l : L) : L := l.flatMap gd1
theorem gd_len : ∀ l : L, l.length ≤ (gd l).length ∧ (gd l).length ≤ 2 * l.length
  | [] => by simp [gd]
  | b :: t => by
    have h := gd_len t
    have h1 : 1 ≤ (gd1 b).length ∧ (gd1 b).length ≤ 2 := by unfold gd1; split <;> simp
    simp only [gd, List.flatMap_cons, List.length_append, List.length_cons] at *
    omega
theorem gd_cont : ∀ l : L, (∀ x ∈ l, cont x = true) → gd l = l
  | [], _ => rfl
  | b :: t, h => by
    have h1 := cont_iff.1 (h b List.mem_cons_self)
    have ih := gd_cont t (fun x hx => h x (List.mem_cons_of_mem _ hx))
    simp only [gd, List.flatMap_cons] at ih ⊢
    rw [ih, show gd1 b = [b] by unfold gd1; rw [if_neg (by omega)]]; rfl
theorem gd_append (a b : L) : gd (a ++ b) = gd a ++ gd b := by simp [gd]
/-- At a character. -/
theorem gd_chr {l : L} {c : Int} {n : Nat} (h : chr l = some (c, n)) : gd l = 92 :: (l.take n ++ gd (l.drop n)) := by
  have hs := chr_some h
  conv => lhs; rw [← List.take_append_drop n l, gd_append]
  have e : gd (l.take n) = 92 :: l.take n := by
    cases l with
    | nil => simp at hs; omega
    | cons b t =>
      obtain ⟨m, rfl⟩ : ∃ m, n = m + 1 := ⟨n - 1, by omega⟩
      rw [List.take_succ_cons]
      have hc : ∀ x ∈ t.take m, cont x = true := by
        intro x hx
        obtain ⟨i, hi, rfl⟩ := List.mem_iff_getElem.1 hx
        rw [List.length_take] at hi
        have := hs.2.2.2.2 (i + 1) (by omega) (by omega)
        rw [List.getD_cons_succ, List.getD_eq_getElem?_getD, List.getElem?_eq_getElem (by omega)] at this
        simpa using this
      have hb : b < 128 ∨ 191 < b := by
        have := hs.2.2.2.1
        simp only [List.getD_cons_zero] at this
        omega
      have e2 := gd_cont _ hc
      simp only [gd, List.flatMap_cons] at e2 ⊢
      rw [e2, show gd1 b = [92, b] by unfold gd1; rw [if_pos hb]]; rfl
  rw [e]; rfl
theorem gd_byt {l : L} (h : ∀ x ∈ l, 0 ≤ x ∧ x ≤ 255) : ∀ x ∈ gd l, 0 ≤ x ∧ x < 256 := by
  intro x hx
  simp only [gd, List.mem_flatMap] at hx
  obtain ⟨b, hb, hx⟩ := hx
  have := h b hb
  unfold gd1 at hx
  split at hx <;> simp at hx <;> omega

theorem mtGuard_f (s : ByteArray) (hs : s.size ≤ 4096) : ∀ (n a : Nat) (acc : L), s.size - a ≤ n → a ≤ s.size → acc.length ≤ 2 * a → laws_mtGuard.l0 (n + 1) s acc a = some (strOfNums (acc ++ gd (from_ s a))) := by
  intro n
  induction n with
  | zero =>
    intro a acc h1 h2 h3
    obtain rfl : a = s.size := by omega
    have e : from_ s s.size = [] := List.eq_nil_of_length_eq_zero (by rw [from_len]; omega)
    simp only [laws_mtGuard.l0]
    rw [if_neg (by omega), e]
    simp [gd]
  | succ n ih =>
    intro a acc h1 h2 h3
    by_cases hlt : a < s.size
    · have e0 : bt s (a : Int) = (from_ s a).getD 0 0 := by have := bt_from s a 0; simpa using this
      have hcons : from_ s a = bt s (a : Int) :: from_ s (a + 1) := by
        have := from_len s a
        have d := from_drop s a 1
        cases h : from_ s a with
        | nil => rw [h] at this; simp at this; omega
        | cons x t =>
          rw [h] at d e0
          rw [e0, ← d]; rfl
      rw [hcons, laws_mtGuard.l0]
      generalize bt s (a : Int) = b at *
      have w1 : wrap64 ((a : Int) + 1) = ((a + 1 : Nat) : Int) := by rw [w64 (by omega) (by omega)]; rfl
      rw [if_pos (show (a : Int) < (s.size : Int) by omega), if_pos (show (0 : Int) ≤ (a : Int) by omega)]
      have fin : ∀ acc' : L, acc'.length ≤ 2 * (a + 1) → acc' ++ gd (from_ s (a + 1)) = acc ++ gd (b :: from_ s (a + 1)) → laws_mtGuard.l0 (n + 1) s acc' ((a + 1 : Nat) : Int) = some (strOfNums (acc ++ gd (b :: from_ s (a + 1)))) := fun acc' g1 g2 => by rw [ih (a + 1) acc' (by omega) (by omega) g1, g2]
      by_cases c1 : b < 128
      · rw [if_pos c1, if_pos (by omega), Option.bind_some, if_pos (by rw [List.length_append, List.length_singleton]; omega), w1]
        refine fin _ (by simp only [List.length_append, List.length_singleton]; omega) ?_
        simp [gd, gd1, c1]
      · rw [if_neg c1]
        by_cases c2 : b > 191
        · rw [if_pos c2, if_pos (by omega), Option.bind_some, if_pos (by rw [List.length_append, List.length_singleton]; omega), w1]
          refine fin _ (by simp only [List.length_append, List.length_singleton]; omega) ?_
          have : 191 < b := c2
          simp [gd, gd1, this]
        · rw [if_neg c2, if_pos (by omega), w1]
          refine fin _ (by simp only [List.length_append, List.length_singleton]; omega) ?_
          have h1 : ¬ (b < 128 ∨ 191 < b) := by omega
          simp [gd, gd1, h1]
    · obtain rfl : a = s.size := by omega
      have e : from_ s s.size = [] := List.eq_nil_of_length_eq_zero (by rw [from_len]; omega)
      simp only [laws_mtGuard.l0]
      rw [if_neg (by omega), e]
      simp [gd]
theorem mtGuard_any (s : ByteArray) (w : World) (hs : s.size ≤ 4096) :
    Calls Tryd.prog 14 #[.string s] w fun e w' => e = .returned (.string (strOfNums (gd (bytesOf s)))) ∧ Below w.heap.size w w' := by
  refine laws_mtGuard.calls (s.size + 1) s _ w ?_
  unfold laws_mtGuard.f
  have := mtGuard_f s hs s.size 0 [] (by omega) (by omega) (by simp)
  simpa [from_] using this
end Go.Proofs.YtjpbjbcdobibbaaDoor.J
