/- Nested arrays: what the reader makes of n opening and m closing brackets. -/
import Derived.Test.YtiehnomfckbnhaaV8
set_option linter.unusedVariables false
set_option linter.unusedSimpArgs false
namespace Go.Proofs.Ytiehnomfckbnhaa.J
def opn (k : Nat) (r : L) : L := List.replicate k 91 ++ r
def cls (k : Nat) : L := List.replicate k 93
theorem opn_succ (k : Nat) (r : L) : opn (k + 1) r = 91 :: opn k r := rfl
theorem opn_zero (r : L) : opn 0 r = r := rfl
theorem cls_succ (k : Nat) : cls (k + 1) = 93 :: cls k := rfl
theorem skip_open (r : L) : skip (91 :: r) = 91 :: r := skip_not r (by decide)
theorem skip_close (r : L) : skip (93 :: r) = 93 :: r := skip_not r (by decide)
theorem arrR_close (N n : Nat) (r : L) : arrR N n (93 :: r) = some r := by
  rw [arrR, arr, skip_close, take_eq]; rfl
theorem arrR_nil (N n : Nat) : arrR N n [] = none := by
  rw [arrR, arr, skip, take]; simp [elems, val_nil]
theorem arrR_in (N n : Nat) (t : L) : arrR N n (91 :: t) = (elems (val N n) (t.length + 2) (91 :: t) []).map (·.2) := by
  rw [arrR, arr, skip_open, take_ne t (by decide)]; rfl
theorem arrR_none {N n : Nat} {t : L} (h : valR N n (91 :: t) = none) : arrR N n (91 :: t) = none := by
  rw [arrR_in, elems_none (valR_none h)]; rfl
theorem arrR_some {N n : Nat} {t r : L} (h : valR N n (91 :: t) = some (93 :: r)) : arrR N n (91 :: t) = some r := by
  obtain ⟨p, hp⟩ := valR_some h
  rw [arrR_in, elems_end hp (by rw [skip_close, take_eq])]; rfl
theorem arrR_end {N n : Nat} {t : L} (h : valR N n (91 :: t) = some []) : arrR N n (91 :: t) = none := by
  obtain ⟨p, hp⟩ := valR_some h
  rw [arrR_in, elems_bad hp rfl rfl]; rfl
theorem nest (N : Nat) (r : L) : ∀ (k n : Nat), k < n → valR N n (opn (k + 1) (cls (k + 1) ++ r)) = some r
  | 0, n + 1, _ => by
    show valR N (n + 1) (91 :: 93 :: r) = some r
    rw [valR_arr, arrR_close]
  | k + 1, n + 1, h => by
    rw [opn_succ, valR_arr]
    have e : cls (k + 1 + 1) ++ r = cls (k + 1) ++ (93 :: r) := by
      unfold cls
      rw [List.replicate_succ' (n := k + 1), List.append_assoc]; rfl
    rw [e]
    have ih := nest N (93 :: r) k n (by omega)
    rw [opn_succ] at ih ⊢
    exact arrR_some ih
theorem open_more (N : Nat) : ∀ (a b n : Nat), b < a → a ≤ n → valR N n (opn a (cls b)) = none
  | a + 1, b, n + 1, h, hn => by
    rw [opn_succ, valR_arr]
    cases a with
    | zero =>
      obtain rfl : b = 0 := by omega
      exact arrR_nil _ _
    | succ a =>
      rw [opn_succ]
      rcases Nat.lt_or_ge b (a + 1) with hb | hb
      · have ih := open_more N (a + 1) b n hb (by omega)
        rw [opn_succ] at ih
        exact arrR_none ih
      · obtain rfl : b = a + 1 := by omega
        have ih := nest N [] a n (by omega)
        rw [opn_succ, List.append_nil] at ih
        exact arrR_end ih
theorem opn_length (k : Nat) (r : L) : (opn k r).length = k + r.length := by simp [opn]
theorem good_nest (k : Nat) : good (opn (k + 1) (cls (k + 1))) = true := by
  have h := nest (opn (k + 1) (cls (k + 1))).length [] k ((opn (k + 1) (cls (k + 1))).length + 1) (by rw [opn_length]; omega)
  rw [List.append_nil] at h
  have e : skip (opn (k + 1) (cls (k + 1))) = opn (k + 1) (cls (k + 1)) := skip_open _
  rw [good_some (r := []) (by rw [e]; exact h)]
  rfl
theorem good_more (k : Nat) : good (opn (k + 1) (cls k)) = false := by
  have e : skip (opn (k + 1) (cls k)) = opn (k + 1) (cls k) := skip_open _
  exact good_none (by rw [e]; exact open_more _ (k + 1) k _ (by omega) (by rw [opn_length]; omega))
theorem good_less (k : Nat) : good (opn k (cls (k + 1))) = false := by
  cases k with
  | zero =>
    show good [93] = false
    exact good_none (by rw [skip_close]; exact valR_bad _ _ _ (by decide) (by decide) (by decide) (by decide) (by decide) (by decide) (by decide))
  | succ k =>
    have e : skip (opn (k + 1) (cls (k + 1 + 1))) = opn (k + 1) (cls (k + 1 + 1)) := skip_open _
    have e2 : cls (k + 1 + 1) = cls (k + 1) ++ [93] := by unfold cls; rw [List.replicate_succ' (n := k + 1)]
    have h := nest (opn (k + 1) (cls (k + 1 + 1))).length [93] k ((opn (k + 1) (cls (k + 1 + 1))).length + 1) (by rw [opn_length]; omega)
    rw [← e2] at h
    rw [good_some (r := [93]) (by rw [e]; exact h)]
    rfl
end Go.Proofs.Ytiehnomfckbnhaa.J
