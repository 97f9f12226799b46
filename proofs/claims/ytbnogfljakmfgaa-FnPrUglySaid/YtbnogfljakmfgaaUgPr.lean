/- The printed ugly gives what Ugly on lists gives. -/
import Derived.Test.YtbnogfljakmfgaaPFnPrUglyx3
import Derived.Test.YtbnogfljakmfgaaUgPure
set_option linter.unusedVariables false
namespace Go.Proofs.Ytbnogfljakmfgaa.J
open Go.RowKit Go.Proofs.YtbnogfljakmfgaaW.PrintWords Go.Proofs.Ytbnogfljakmfgaa.PFnPrUgly

/-- The walk back over n backslashes. -/
theorem back_is (l : List Int) (pre : List Int) (x : Int) (hx : x ≠ 92) (n : Nat) (i : Int) (y : List Int) (hy : y = pre ++ x :: (List.replicate n 92 ++ [34])) (hsz : y.length ≤ 5000) :
    ∀ (m k : Nat), m ≤ n → n - m < k → pretty_ugly.l2 k y l i (y.length - 2 - m) = if n % 2 = 0 then pretty_ugly.l0 (k - (n - m) - 1) y l (wrap64 (i + 1)) else pretty_ugly.l1 (k - (n - m) - 1) y l (wrap64 (i + 1)) := by
  have hlen : y.length = pre.length + n + 2 := by rw [hy]; simp; omega
  intro m
  induction h : n - m generalizing m with
  | zero =>
    intro k hm hk
    obtain ⟨k, rfl⟩ : ∃ q, k = q + 1 := ⟨k - 1, by omega⟩
    have e : rd y ((y.length : Int) - 2 - m) = x := by
      unfold rd
      have : ((y.length : Int) - 2 - m).toNat = pre.length := by omega
      rw [this, hy, List.getD_eq_getElem?_getD, List.getElem?_append_right (Nat.le_refl _), Nat.sub_self]; rfl
    rw [pretty_ugly.l2.eq_def]; simp only
    rw [if_pos (by omega), if_pos (by omega), e, if_neg hx]
    have e1 : wrap64 ((y.length : Int) - 1) = (y.length : Int) - 1 := by unfold wrap64; omega
    have e2 : wrap64 ((y.length : Int) - 2 - m - ((y.length : Int) - 1)) = -1 - m := by unfold wrap64; omega
    rw [e1, e2]
    have e3 : m = n := by omega
    subst e3
    have e4 : Int.tmod (-1 - (m : Int)) 2 = 0 ↔ ¬ m % 2 = 0 := by
      have : (-1 - (m : Int)) = -((m + 1 : Nat) : Int) := by omega
      rw [this, Int.neg_tmod]
      have h2 : Int.tmod ((m + 1 : Nat) : Int) 2 = ((m + 1) % 2 : Nat) := by rw [Int.tmod_eq_emod_of_nonneg (by omega)]; omega
      rw [h2]; omega
    by_cases c : m % 2 = 0
    · rw [if_neg (by rw [e4]; simp [c]), if_pos c]; congr 1
    · rw [if_pos (by rw [e4]; exact c), if_neg c]; congr 1
  | succ d ih =>
    intro k hm hk
    obtain ⟨k, rfl⟩ : ∃ q, k = q + 1 := ⟨k - 1, by omega⟩
    have e : rd y ((y.length : Int) - 2 - m) = 92 := by
      unfold rd
      have e1 : ((y.length : Int) - 2 - m).toNat = pre.length + (n - m) := by omega
      rw [e1, hy, List.getD_eq_getElem?_getD, List.getElem?_append_right (by omega), Nat.add_sub_cancel_left]
      obtain ⟨q, hq⟩ : ∃ q, n - m = q + 1 := ⟨n - m - 1, by omega⟩
      rw [hq, List.getElem?_cons_succ, List.getElem?_append_left (by simp; omega), List.getElem?_replicate, if_pos (by omega)]; rfl
    have e2 : wrap64 ((y.length : Int) - 2 - m - 1) = (y.length : Int) - 2 - ((m + 1 : Nat) : Int) := by unfold wrap64; omega
    rw [pretty_ugly.l2.eq_def]; simp only
    rw [if_pos (by omega), if_pos (by omega), e, if_pos rfl, e2, ih (m + 1) (by omega) k (by omega) (by omega)]
    have e3 : k + 1 - (d + 1) - 1 = k - d - 1 := by omega
    rw [e3]

theorem rd_drop (l : List Int) (i : Nat) (h : i < l.length) : l.drop i = rd l (i : Int) :: l.drop (i + 1) := by
  rw [List.drop_eq_getElem_cons h]
  congr 1
  unfold rd
  rw [Int.toNat_natCast, List.getD_eq_getElem?_getD, List.getElem?_eq_getElem h]; rfl
theorem wrap_succ (i : Nat) (h : i ≤ 5000) : wrap64 ((i : Int) + 1) = ((i + 1 : Nat) : Int) := by unfold wrap64; omega

/-- From a place on, outside a string, inside one. -/
theorem ug_is (l : List Int) (hl : l.length ≤ 4096) : ∀ (d : Nat) (i k : Nat) (x0 : List Int), i ≤ l.length → l.length - i = d → x0.length ≤ i → 5000 * (d + 1) ≤ k →
    pretty_ugly.l0 k x0 l i = some (x0 ++ ugO (l.drop i)) ∧
    (∀ pre x n, x0 = pre ++ x :: List.replicate n 92 → x ≠ 92 → pretty_ugly.l1 k x0 l i = some (x0 ++ ugI (decide (n % 2 = 1)) (l.drop i))) := by
  intro d
  induction d with
  | zero =>
    intro i k x0 hi hd hx hk
    obtain ⟨k, rfl⟩ : ∃ q, k = q + 2 := ⟨k - 2, by omega⟩
    have e : l.drop i = [] := List.drop_eq_nil_of_le (by omega)
    have h0 : ∀ k, pretty_ugly.l0 (k + 1) x0 l i = some x0 := by
      intro k; rw [pretty_ugly.l0.eq_def]; simp only; rw [if_neg (by omega)]
    refine ⟨by rw [e, h0, ugO, List.append_nil], fun pre x n _ _ => ?_⟩
    have e5 : ∀ k, pretty_ugly.l0 (k + 1) x0 l (wrap64 ((i : Int) + 1)) = some x0 := by
      intro k; rw [pretty_ugly.l0.eq_def]; simp only; rw [if_neg (by rw [wrap_succ i (by omega)]; omega)]
    rw [e, pretty_ugly.l1.eq_def]; simp only
    rw [if_neg (by omega), e5, ugI, List.append_nil]
  | succ d ih =>
    intro i k x0 hi hd hx hk
    obtain ⟨k, rfl⟩ : ∃ q, k = q + 1 := ⟨k - 1, by omega⟩
    have hlt : i < l.length := by omega
    have hw := wrap_succ i (by omega)
    have hdr := rd_drop l i hlt
    refine ⟨?_, fun pre x n hx0 hx92 => ?_⟩
    · rw [pretty_ugly.l0.eq_def]; simp only
      rw [if_pos (by omega), if_pos (by omega), hw, hdr]
      by_cases c : rd l i > 32
      · rw [if_pos c, if_pos (by omega)]
        simp only [Option.bind_some]
        by_cases c2 : rd l (i : Int) = 34
        · rw [if_pos c2]
          have := (ih (i + 1) k (x0 ++ [rd l i]) (by omega) (by omega) (by simp; omega) (by omega)).2 x0 34 0 (by rw [c2]; rfl) (by decide)
          rw [this, ugO, if_neg (by omega), if_pos c2, c2]; simp
        · rw [if_neg c2, (ih (i + 1) k (x0 ++ [rd l i]) (by omega) (by omega) (by simp; omega) (by omega)).1, ugO, if_neg (by omega), if_neg c2]; simp
      · rw [if_neg c, (ih (i + 1) k x0 (by omega) (by omega) (by omega) (by omega)).1, ugO, if_pos (by omega)]
    · rw [pretty_ugly.l1.eq_def]; simp only
      rw [if_pos (by omega), if_pos (by omega), if_pos (by omega), hw, hdr]
      simp only [Option.bind_some]
      by_cases c2 : rd l (i : Int) = 34
      · rw [if_pos c2, c2]
        have hn : n ≤ x0.length := by rw [hx0]; simp; omega
        have hb := back_is l pre x hx92 n (i : Int) (x0 ++ [34]) (by rw [hx0]; simp) (by simp; omega) 0 k (by omega) (by omega)
        have e1 : wrap64 (((x0 ++ [34]).length : Int) - 2) = ((x0 ++ [34]).length : Int) - 2 - ((0 : Nat) : Int) := by
          simp only [List.length_append, List.length_singleton]; unfold wrap64; omega
        rw [e1, hb, hw, ugI, if_pos rfl]
        by_cases c3 : n % 2 = 0
        · rw [if_pos c3, (ih (i + 1) (k - (n - 0) - 1) (x0 ++ [34]) (by omega) (by omega) (by simp; omega) (by omega)).1]
          have : decide (n % 2 = 1) = false := decide_eq_false (by omega)
          rw [this]; simp
        · rw [if_neg c3, (ih (i + 1) (k - (n - 0) - 1) (x0 ++ [34]) (by omega) (by omega) (by simp; omega) (by omega)).2 x0 34 0 rfl (by decide)]
          have : decide (n % 2 = 1) = true := decide_eq_true (by omega)
          rw [this]; simp
      · rw [if_neg c2, ugI, if_neg c2]
        by_cases c3 : rd l (i : Int) = 92
        · rw [if_pos c3, c3, (ih (i + 1) k (x0 ++ [92]) (by omega) (by omega) (by simp; omega) (by omega)).2 pre x (n + 1) (by rw [hx0, List.replicate_succ']; simp) hx92]
          have : decide ((n + 1) % 2 = 1) = !decide (n % 2 = 1) := by
            by_cases q : n % 2 = 1
            · rw [decide_eq_true q, decide_eq_false (by omega)]; rfl
            · rw [decide_eq_false q, decide_eq_true (by omega)]; rfl
          rw [this]; simp
        · rw [if_neg c3, (ih (i + 1) k (x0 ++ [rd l i]) (by omega) (by omega) (by simp; omega) (by omega)).2 x0 (rd l i) 0 rfl c3]; simp
theorem ugly_is (l : List Int) (hl : l.length ≤ 4096) : ∃ k, pretty_ugly.f k [] l = some (ugO l) := by
  refine ⟨5000 * (l.length + 1), ?_⟩
  unfold pretty_ugly.f
  rw [if_pos (by omega)]
  have := (ug_is l hl l.length 0 (5000 * (l.length + 1)) [] (by omega) (by omega) (by simp) (by omega)).1
  simpa using this
end Go.Proofs.Ytbnogfljakmfgaa.J
