/- Several texts in one. -/
import Derived.Test.YtalcjolomigedaaDoorZGg
import Derived.Test.YtalcjolomigedaaDoorZPFnFjIntx2
set_option linter.unusedVariables false
set_option linter.unusedSimpArgs false
namespace Go.Proofs.YtalcjolomigedaaDoor.KC
open Go.RowKit Go.Proofs.YtalcjolomigedaaDoorW.PrintWords Go.Proofs.YtalcjolomigedaaDoorW.PrintLast Go.Proofs.YtalcjolomigedaaDoorW.PrintMore Go.Proofs.YtalcjolomigedaaDoor.Aid Go.Proofs.YtalcjolomigedaaDoor.J Go.Proofs.YtalcjolomigedaaDoor.PFnFjInt

/-- Fuel. -/
theorem up {α : Type} {f : Nat → Option α} (h : ∀ k, LeO (f k) (f (k + 1))) {k : Nat} {r : α} (e : f k = some r) : ∀ {k' : Nat}, k ≤ k' → f k' = some r := by
  intro k' hk
  obtain ⟨d, rfl⟩ : ∃ d, k' = k + d := ⟨k' - k, by omega⟩
  clear hk
  induction d with
  | zero => exact e
  | succ d ih => exact h _ _ ih
theorem w64 {x : Int} (h0 : -1000000000000 ≤ x) (h1 : x ≤ 1000000000000) : wrap64 x = x := by unfold wrap64; omega
theorem bt_from (s : ByteArray) (a i : Nat) : bt s ((a + i : Nat) : Int) = (from_ s a).getD i 0 := by
  have := bytesOf_getD s (a + i)
  unfold from_
  rw [getD_drop', this]
theorem hexD (k : Nat) (c : Int) (h0 : 0 ≤ c) (h1 : c ≤ 255) : spec_hexDigit.f (k + 2) c = some (if hex c = true then (hv c, true) else (0, false)) := by
  have hx : hex c = true ↔ (48 ≤ c ∧ c ≤ 57) ∨ (97 ≤ c ∧ c ≤ 102) ∨ (65 ≤ c ∧ c ≤ 70) := by unfold hex dig; simp; omega
  have hd : dig c = true ↔ 48 ≤ c ∧ c ≤ 57 := by unfold dig; simp
  have j1 : ∀ b, (b = true ↔ 97 ≤ c ∧ c ≤ 102) → ¬ (48 ≤ c ∧ c ≤ 57) → spec_hexDigit.j1 (k + 1) c b = some (if hex c = true then (hv c, true) else (0, false)) := by
    intro b hb hn
    rw [spec_hexDigit.j1]
    by_cases c1 : 97 ≤ c ∧ c ≤ 102
    · rw [if_pos (hb.2 c1), if_pos (hx.2 (.inr (.inl c1)))]
      unfold hv
      rw [if_neg (fun h => hn (hd.1 h)), if_pos c1.1]
      congr 2; omega
    · rw [if_neg (fun h => c1 (hb.1 h))]
      by_cases c2 : 65 ≤ c
      · rw [if_pos c2]
        by_cases c3 : c ≤ 70
        · rw [if_pos c3, if_pos (hx.2 (.inr (.inr ⟨c2, c3⟩)))]
          unfold hv
          rw [if_neg (fun h => hn (hd.1 h)), if_neg (by omega)]
          congr 2; omega
        · rw [if_neg c3, if_neg (fun h => by have := hx.1 h; omega)]
      · rw [if_neg c2, if_neg (fun h => by have := hx.1 h; omega)]
  have j0 : ∀ b, (b = true ↔ 48 ≤ c ∧ c ≤ 57) → spec_hexDigit.j0 (k + 2) c b = some (if hex c = true then (hv c, true) else (0, false)) := by
    intro b hb
    rw [spec_hexDigit.j0]
    by_cases c1 : 48 ≤ c ∧ c ≤ 57
    · rw [if_pos (hb.2 c1), if_pos (hx.2 (.inl c1))]
      unfold hv
      rw [if_pos (hd.2 c1)]
      congr 2; omega
    · rw [if_neg (fun h => c1 (hb.1 h))]
      by_cases c2 : 97 ≤ c
      · rw [if_pos c2]; exact j1 _ (by rw [decide_eq_true_iff]; exact ⟨fun h => ⟨c2, h⟩, fun h => h.2⟩) c1
      · rw [if_neg c2]; exact j1 _ (by constructor; (intro h; cases h); (intro h; omega)) c1
  unfold spec_hexDigit.f
  by_cases c1 : 48 ≤ c
  · rw [if_pos c1]; exact j0 _ (by rw [decide_eq_true_iff]; exact ⟨fun h => ⟨c1, h⟩, fun h => h.2⟩)
  · rw [if_neg c1]; exact j0 _ (by constructor; (intro h; cases h); (intro h; omega))
def uR (l : L) : Int × Bool := match unit l with | some n => (n, true) | none => (0, false)
theorem uR_some {l : L} {n : Int} (h : unit l = some n) : uR l = (n, true) := by unfold uR; rw [h]
theorem uR_none {l : L} (h : unit l = none) : uR l = (0, false) := by unfold uR; rw [h]
theorem unit_l0 (s : ByteArray) (a : Nat) (hs : s.size ≤ 2147483647) (h6 : a + 6 ≤ s.size) (c0 : (from_ s a).getD 0 0 = 92) (c1 : (from_ s a).getD 1 0 = 117) :
    ∀ (m j : Nat), j + m = 4 → (∀ i, i < j → hex ((from_ s a).getD (2 + i) 0) = true) → spec_unit.l0 (m + 3) s (a : Int) (hxs (from_ s a) j) ((a + (2 + j) : Nat) : Int) = some (uR (from_ s a)) := by
  intro m
  induction m with
  | zero =>
    intro j hj hh
    obtain rfl : j = 4 := by omega
    rw [spec_unit.l0, w64 (by omega) (by omega), if_neg (by omega)]
    rw [uR_some (n := hxs (from_ s a) 4)]
    unfold unit
    rw [if_pos ⟨by rw [from_len]; omega, c0, c1, hh 0 (by omega), hh 1 (by omega), hh 2 (by omega), hh 3 (by omega)⟩]
    simp [hxs]
  | succ m ih =>
    intro j hj hh
    have hb := from_byt s a ((from_ s a).getD (2 + j) 0) (by
      rw [List.getD_eq_getElem?_getD, List.getElem?_eq_getElem (by rw [from_len]; omega)]; exact List.getElem_mem _)
    have hr := hxs_range (from_ s a) j hh (by omega)
    have h16 : (16 : Int) ^ j ≤ 4096 := by
      rcases (show j = 0 ∨ j = 1 ∨ j = 2 ∨ j = 3 by omega) with rfl | rfl | rfl | rfl <;> decide
    rw [spec_unit.l0, w64 (x := (a : Int) + 6) (by omega) (by omega), if_pos (by omega), if_pos (by omega), if_pos (by omega), bt_from, show m + 1 + 2 = (m + 1) + 2 from rfl, hexD (m + 1) _ hb.1 hb.2, Option.bind_some]
    by_cases hx : hex ((from_ s a).getD (2 + j) 0) = true
    · have hv2 := hv_range hx
      rw [if_pos hx, if_pos rfl]
      simp only []
      rw [w64 (x := hxs (from_ s a) j * 16) (by omega) (by omega), w64 (x := hxs (from_ s a) j * 16 + hv ((from_ s a).getD (2 + j) 0)) (by omega) (by omega), w64 (x := ((a + (2 + j) : Nat) : Int) + 1) (by omega) (by omega)]
      exact ih (j + 1) (by omega) (fun i hi => by
        by_cases e : i = j
        · rw [e]; exact hx
        · exact hh i (by omega))
    · rw [if_neg hx, if_neg Bool.false_ne_true, uR_none]
      unfold unit
      rw [if_neg]
      rintro ⟨_, _, _, g0, g1, g2, g3⟩
      rcases (show j = 0 ∨ j = 1 ∨ j = 2 ∨ j = 3 by omega) with rfl | rfl | rfl | rfl
      · exact hx g0
      · exact hx g1
      · exact hx g2
      · exact hx g3
theorem unit_f (k : Nat) (s : ByteArray) (a : Nat) (hs : s.size ≤ 2147483647) (ha : a ≤ 3000000000) : spec_unit.f (k + 8) s (a : Int) = some (uR (from_ s a)) := by
  have hl := from_len s a
  have k8 : ∀ {x : Int × Bool} {b : Bool}, spec_unit.j0 8 s (a : Int) b = some x → spec_unit.j0 (k + 8) s (a : Int) b = some x := fun h => up (f := fun k => spec_unit.j0 k s (a : Int) _) (fun k => (spec_unit.mono_l k).1 _ _ _) h (by omega)
  unfold spec_unit.f
  rw [w64 (x := (s.size : Int) - (a : Int)) (by omega) (by omega)]
  by_cases h6 : (s.size : Int) - (a : Int) < 6
  · rw [if_pos h6, uR_none (by unfold unit; rw [if_neg]; rw [hl]; omega)]
    refine k8 ?_
    rw [spec_unit.j0, if_pos rfl]
  have e0 : bt s (a : Int) = (from_ s a).getD 0 0 := by have := bt_from s a 0; simpa using this
  rw [if_neg h6, if_pos (by omega), if_pos (by omega), e0]
  by_cases c0 : (from_ s a).getD 0 0 = 92
  · have e1 : bt s (wrap64 ((a : Int) + 1)) = (from_ s a).getD 1 0 := by rw [w64 (by omega) (by omega)]; exact bt_from s a 1
    rw [if_pos c0, e1, w64 (by omega) (by omega), if_pos (by omega), if_pos (by omega)]
    by_cases c1 : (from_ s a).getD 1 0 = 117
    · rw [show ((from_ s a).getD 1 0 != 117) = false from bne_eq_false_iff_eq.mpr c1]
      refine k8 ?_
      rw [spec_unit.j0, if_neg Bool.false_ne_true, w64 (by omega) (by omega)]
      exact unit_l0 s a hs (by omega) c0 c1 4 0 rfl (fun i hi => by omega)
    · rw [show ((from_ s a).getD 1 0 != 117) = true from bne_iff_ne.mpr c1, uR_none (by unfold unit; rw [if_neg]; exact fun g => c1 g.2.2.1)]
      refine k8 ?_
      rw [spec_unit.j0, if_pos rfl]
  · rw [if_neg c0, uR_none (by unfold unit; rw [if_neg]; exact fun g => c0 g.2.1)]
    refine k8 ?_
    rw [spec_unit.j0, if_pos rfl]
theorem high_f (n : Int) : spec_high.f n = some (high n) := by
  unfold spec_high.f high
  by_cases c : 55296 ≤ n
  · rw [if_pos c, decide_eq_true c, Bool.true_and]
  · rw [if_neg c, decide_eq_false c, Bool.false_and]
theorem low_f (n : Int) : spec_low.f n = some (low n) := by
  unfold spec_low.f low
  by_cases c : 56320 ≤ n
  · rw [if_pos c, decide_eq_true c, Bool.true_and]
  · rw [if_neg c, decide_eq_false c, Bool.false_and]
end Go.Proofs.YtalcjolomigedaaDoor.KC

set_option linter.unusedVariables false
set_option linter.unusedSimpArgs false
namespace Go.Proofs.YtalcjolomigedaaDoor.KC
open Go.RowKit Go.Proofs.YtalcjolomigedaaDoorW.PrintWords Go.Proofs.YtalcjolomigedaaDoorW.PrintLast Go.Proofs.YtalcjolomigedaaDoorW.PrintMore Go.Proofs.YtalcjolomigedaaDoor.Aid Go.Proofs.YtalcjolomigedaaDoor.J Go.Proofs.YtalcjolomigedaaDoor.PFnFjInt

theorem from_cons' (s : ByteArray) (a : Nat) (h : a < s.size) : from_ s a = bt s (a : Int) :: from_ s (a + 1) := by
  have hl : a < (bytesOf s).length := by rw [bytesOf_length]; exact h
  unfold from_
  rw [List.drop_eq_getElem_cons hl]
  congr 1
  have := bytesOf_get? s a h
  rw [List.getElem?_eq_getElem hl] at this
  exact Option.some.inj this
theorem from_past (s : ByteArray) (a : Nat) (h : s.size ≤ a) : from_ s a = [] := List.eq_nil_of_length_eq_zero (by rw [from_len]; omega)
theorem paired_l0 (s : ByteArray) (hs : s.size ≤ 2147483647) : ∀ (m a : Nat), s.size - a ≤ m → a ≤ s.size + 12 → ∃ k, spec_Paired.l0 k s (a : Int) = some (prd (from_ s a)) := by
  intro m
  induction m with
  | zero =>
    intro a h1 h2
    refine ⟨1, ?_⟩
    rw [spec_Paired.l0, if_neg (by omega), from_past s a (by omega), prd_nil]
  | succ m ih =>
    intro a h1 h2
    rcases Nat.lt_or_ge a s.size with ha | ha
    rotate_left 1
    · refine ⟨1, ?_⟩
      rw [spec_Paired.l0, if_neg (by omega), from_past s a ha, prd_nil]
    have hf := from_cons' s a ha
    have hw : ∀ n : Nat, n ≤ 12 → wrap64 ((a : Int) + (n : Int)) = ((a + n : Nat) : Int) := fun n hn => by rw [w64 (by omega) (by omega)]; rfl
    have hw1 : wrap64 ((a : Int) + 1) = ((a + 1 : Nat) : Int) := hw 1 (by omega)
    have hw2 : wrap64 ((a : Int) + 2) = ((a + 2 : Nat) : Int) := hw 2 (by omega)
    have hw6 : wrap64 ((a : Int) + 6) = ((a + 6 : Nat) : Int) := hw 6 (by omega)
    have hw12 : wrap64 ((a : Int) + 12) = ((a + 12 : Nat) : Int) := hw 12 (by omega)
    have mo : ∀ {n : Nat} {x : Bool} {K : Nat}, spec_Paired.l0 K s ((a + n : Nat) : Int) = some x → ∀ k, K ≤ k → spec_Paired.l0 k s ((a + n : Nat) : Int) = some x := fun {n x K} h k hk => up (f := fun k => spec_Paired.l0 k s ((a + n : Nat) : Int)) (fun k => spec_Paired.mono_l k _ _) h hk
    obtain ⟨k1, i1⟩ := ih (a + 1) (by omega) (by omega)
    obtain ⟨k2, i2⟩ := ih (a + 2) (by omega) (by omega)
    obtain ⟨k6, i6⟩ := ih (a + 6) (by omega) (by omega)
    obtain ⟨k12, i12⟩ := ih (a + 12) (by omega) (by omega)
    obtain ⟨K, hK⟩ : ∃ K, K = k1 + k2 + k6 + k12 := ⟨_, rfl⟩
    refine ⟨K + 9, ?_⟩
    obtain ⟨c, hc⟩ : ∃ c, c = bt s (a : Int) := ⟨_, rfl⟩
    rw [← hc] at hf
    rw [spec_Paired.l0, if_pos (by omega), if_pos (by omega), ← hc]
    by_cases h92 : c = 92
    · rw [h92] at hf
      rw [if_pos h92, unit_f K s a hs (by omega), Option.bind_some]
      have d2 : (92 :: from_ s (a + 1)).drop 2 = from_ s (a + 2) := by rw [← hf]; exact from_drop s a 2
      have d6 : (92 :: from_ s (a + 1)).drop 6 = from_ s (a + 6) := by rw [← hf]; exact from_drop s a 6
      have d12 : (92 :: from_ s (a + 1)).drop 12 = from_ s (a + 12) := by rw [← hf]; exact from_drop s a 12
      have hp := prd_esc (from_ s (a + 1))
      rw [← hf] at hp
      cases hu : unit (from_ s a) with
      | none =>
        rw [hu] at hp
        simp only [] at hp
        rw [hf, d2] at hp
        rw [uR_none hu, if_neg Bool.false_ne_true, hw2, hf, hp]
        exact mo i2 _ (by omega)
      | some n =>
        rw [hu] at hp
        simp only [] at hp
        rw [hf, d6, d12] at hp
        rw [uR_some hu, if_pos rfl, high_f, Option.bind_some, hf, hp]
        cases hh : high n with
        | true =>
          rw [if_pos rfl, if_pos rfl, hw6, unit_f K s (a + 6) hs (by omega), Option.bind_some]
          cases hm : unit (from_ s (a + 6)) with
          | none => rw [uR_none hm, if_neg Bool.false_ne_true]
          | some x =>
            rw [uR_some hm, if_pos rfl, low_f, Option.bind_some]
            simp only []
            cases hlw : low x with
            | true => rw [if_pos rfl, if_pos rfl, hw12]; exact mo i12 _ (by omega)
            | false => rw [if_neg Bool.false_ne_true, if_neg Bool.false_ne_true]
        | false =>
          rw [if_neg Bool.false_ne_true, if_neg Bool.false_ne_true, low_f, Option.bind_some]
          cases hlw : low n with
          | true => rw [if_pos rfl, if_pos rfl]
          | false => rw [if_neg Bool.false_ne_true, if_neg Bool.false_ne_true, hw6]; exact mo i6 _ (by omega)
    · rw [if_neg h92, hw1, hf, prd_plain _ h92]
      exact mo i1 _ (by omega)
theorem paired_f (s : ByteArray) (hs : s.size ≤ 2147483647) : ∃ k, spec_Paired.f k s = some (prd (bytesOf s)) := paired_l0 s hs s.size 0 (by omega) (by omega)
theorem Paired_any (s : ByteArray) (hs : s.size ≤ 2147483647) (W : World) : Calls Tryd.prog 30 #[.string s] W fun e w' => e = .returned (.bool (prd (bytesOf s))) ∧ Below W.heap.size W w' := by
  obtain ⟨k, hk⟩ := paired_f s hs
  refine (spec_Paired.calls k s _ W hk).mono ?_
  rintro e w' ⟨h1, h2⟩
  exact ⟨h1, h2.below⟩
end Go.Proofs.YtalcjolomigedaaDoor.KC
