/- The law FnFjUnescapeParts. -/
import Derived.Test.YtkmdcckiehbcmaaDoorFuUb
import Derived.Test.YtkmdcckiehbcmaaDoorFuW
import Derived.Test.YtkmdcckiehbcmaaDoorQ4
set_option linter.unusedVariables false
set_option linter.unusedSimpArgs false
namespace Go.Proofs.YtkmdcckiehbcmaaDoor.KB
open Go.RowKit Go.Proofs.YtkmdcckiehbcmaaDoorW.PrintWords Go.Proofs.YtkmdcckiehbcmaaDoorW.PrintLast Go.Proofs.YtkmdcckiehbcmaaDoorW.PrintMore Go.Proofs.YtkmdcckiehbcmaaDoor.Aid Go.Proofs.YtkmdcckiehbcmaaDoor.J Go.Proofs.YtkmdcckiehbcmaaDoor.PFnFjUnescapeParts

theorem from_cons' (s : ByteArray) (a : Nat) (h : a < s.size) : from_ s a = bt s (a : Int) :: from_ s (a + 1) := by
  have hl : a < (bytesOf s).length := by rw [bytesOf_length]; exact h
  unfold from_
  rw [List.drop_eq_getElem_cons hl]
  congr 1
  have := bytesOf_get? s a h
  rw [List.getElem?_eq_getElem hl] at this
  exact Option.some.inj this
theorem from_past (s : ByteArray) (a : Nat) (h : s.size ≤ a) : from_ s a = [] := List.eq_nil_of_length_eq_zero (by rw [from_len]; omega)
theorem paired_l0 (s : ByteArray) (hs : s.size ≤ 2147483647) : ∀ (m a : Nat), s.size - a ≤ m → a ≤ s.size + 12 → ∃ k, spec_Paired.l0 k s (a : Int) = some (prd (from_ s a)) := by
  intro m
  induction m with
  | zero =>
    intro a h1 h2
    refine ⟨1, ?_⟩
    rw [spec_Paired.l0, if_neg (by omega), from_past s a (by omega), prd_nil]
  | succ m ih =>
    intro a h1 h2
    rcases Nat.lt_or_ge a s.size with ha | ha
    rotate_left 1
    · refine ⟨1, ?_⟩
      rw [spec_Paired.l0, if_neg (by omega), from_past s a ha, prd_nil]
    have hf := from_cons' s a ha
    have hw : ∀ n : Nat, n ≤ 12 → wrap64 ((a : Int) + (n : Int)) = ((a + n : Nat) : Int) := fun n hn => by rw [w64 (by omega) (by omega)]; rfl
    have hw1 : wrap64 ((a : Int) + 1) = ((a + 1 : Nat) : Int) := hw 1 (by omega)
    have hw2 : wrap64 ((a : Int) + 2) = ((a + 2 : Nat) : Int) := hw 2 (by omega)
    have hw6 : wrap64 ((a : Int) + 6) = ((a + 6 : Nat) : Int) := hw 6 (by omega)
    have hw12 : wrap64 ((a : Int) + 12) = ((a + 12 : Nat) : Int) := hw 12 (by omega)
    have mo : ∀ {n : Nat} {x : Bool} {K : Nat}, spec_Paired.l0 K s ((a + n : Nat) : Int) = some x → ∀ k, K ≤ k → spec_Paired.l0 k s ((a + n : Nat) : Int) = some x := fun {n x K} h k hk => up (f := fun k => spec_Paired.l0 k s ((a + n : Nat) : Int)) (fun k => spec_Paired.mono_l k _ _) h hk
    obtain ⟨k1, i1⟩ := ih (a + 1) (by omega) (by omega)
    obtain ⟨k2, i2⟩ := ih (a + 2) (by omega) (by omega)
    obtain ⟨k6, i6⟩ := ih (a + 6) (by omega) (by omega)
    obtain ⟨k12, i12⟩ := ih (a + 12) (by omega) (by omega)
    obtain ⟨K, hK⟩ : ∃ K, K = k1 + k2 + k6 + k12 := ⟨_, rfl⟩
    refine ⟨K + 9, ?_⟩
    obtain ⟨c, hc⟩ : ∃ c, c = bt s (a : Int) := ⟨_, rfl⟩
    rw [← hc] at hf
    rw [spec_Paired.l0, if_pos (by omega), if_pos (by omega), ← hc]
    by_cases h92 : c = 92
    · rw [h92] at hf
      rw [if_pos h92, unit_f K s a hs (by omega), Option.bind_some]
      have d2 : (92 :: from_ s (a + 1)).drop 2 = from_ s (a + 2) := by rw [← hf]; exact from_drop s a 2
      have d6 : (92 :: from_ s (a + 1)).drop 6 = from_ s (a + 6) := by rw [← hf]; exact from_drop s a 6
      have d12 : (92 :: from_ s (a + 1)).drop 12 = from_ s (a + 12) := by rw [← hf]; exact from_drop s a 12
      have hp := prd_esc (from_ s (a + 1))
      rw [← hf] at hp
      cases hu : unit (from_ s a) with
      | none =>
        rw [hu] at hp
        simp only [] at hp
        rw [hf, d2] at hp
        rw [uR_none hu, if_neg Bool.false_ne_true, hw2, hf, hp]
        exact mo i2 _ (by omega)
      | some n =>
        rw [hu] at hp
        simp only [] at hp
        rw [hf, d6, d12] at hp
        rw [uR_some hu, if_pos rfl, high_f, Option.bind_some, hf, hp]
        cases hh : high n with
        | true =>
          rw [if_pos rfl, if_pos rfl, hw6, unit_f K s (a + 6) hs (by omega), Option.bind_some]
          cases hm : unit (from_ s (a + 6)) with
          | none => rw [uR_none hm, if_neg Bool.false_ne_true]
          | some x =>
            rw [uR_some hm, if_pos rfl, low_f, Option.bind_some]
            simp only []
            cases hlw : low x with
            | true => rw [if_pos rfl, if_pos rfl, hw12]; exact mo i12 _ (by omega)
            | false => rw [if_neg Bool.false_ne_true, if_neg Bool.false_ne_true]
        | false =>
          rw [if_neg Bool.false_ne_true, if_neg Bool.false_ne_true, low_f, Option.bind_some]
          cases hlw : low n with
          | true => rw [if_pos rfl, if_pos rfl]
          | false => rw [if_neg Bool.false_ne_true, if_neg Bool.false_ne_true, hw6]; exact mo i6 _ (by omega)
    · rw [if_neg h92, hw1, hf, prd_plain _ h92]
      exact mo i1 _ (by omega)
theorem paired_f (s : ByteArray) (hs : s.size ≤ 2147483647) : ∃ k, spec_Paired.f k s = some (prd (bytesOf s)) := paired_l0 s hs s.size 0 (by omega) (by omega)
theorem un_some {l q : L} (h : unesc l = some q) : wellE l = true := by
  unfold unesc at h
  split at h
  · assumption
  · cases h
def G (s : ByteArray) (r : Option L) (p : Bool) : Prop :=
  (∀ W, Calls Tryd.prog 17 #[.string s] W fun e w' => e = .returned (UEscR r) ∧ Below W.heap.size W w') ∧ ∀ W, Calls Tryd.prog 18 #[.string s] W fun e w' => e = .returned (.bool p) ∧ Below W.heap.size W w'
theorem g_of (s : ByteArray) (hs : s.size ≤ 2147483647) : G s (unesc (bytesOf s)) (prd (bytesOf s)) := by
  refine ⟨fun W => Unescape_any s W hs, fun W => ?_⟩
  obtain ⟨k, hk⟩ := paired_f s hs
  refine (spec_Paired.calls k s _ W hk).mono ?_
  rintro e w' ⟨h1, h2⟩
  exact ⟨h1, h2.below⟩
set_option maxHeartbeats 4000000 in
set_option maxRecDepth 100000 in
theorem law_any (s t : ByteArray) (w : World) (hE : ErrV w) (hs : s.size ≤ 140737488351232) (ht : t.size ≤ 140737488351232) :
    Calls Tryd.prog 5 #[.string s, .string t] w fun e w' => e = .returned (.bool true) ∧ Below w.heap.size w w' := by
  by_cases c1 : 2147483647 < (s.size : Int)
  · have hd : decide (2147483647 < (s.size : Int)) = true := decide_eq_true c1
    clear hE
    go_enter Tryd.func5, Tryd.ntmps5
    go_wp2
    go_ret
    exact ⟨rfl, Below.refl _ _⟩
  have hd1 : decide (2147483647 < (s.size : Int)) = false := decide_eq_false c1
  by_cases c2 : 2147483647 < (t.size : Int)
  · have hd : decide (2147483647 < (t.size : Int)) = true := decide_eq_true c2
    clear hE
    go_enter Tryd.func5, Tryd.ntmps5
    go_wp2
    go_ret
    exact ⟨rfl, Below.refl _ _⟩
  have hd2 : decide (2147483647 < (t.size : Int)) = false := decide_eq_false c2
  have Gs := Lib.hid (g_of s (by omega))
  have Gt := Lib.hid (g_of t (by omega))
  obtain ⟨rs, hrs⟩ : ∃ r, r = unesc (bytesOf s) := ⟨_, rfl⟩
  obtain ⟨rt, hrt⟩ : ∃ r, r = unesc (bytesOf t) := ⟨_, rfl⟩
  obtain ⟨ps, hps⟩ : ∃ p, p = prd (bytesOf s) := ⟨_, rfl⟩
  obtain ⟨pt, hpt⟩ : ∃ p, p = prd (bytesOf t) := ⟨_, rfl⟩
  rw [← hrs, ← hps] at Gs
  rw [← hrt, ← hpt] at Gt
  have HB := Lib.hid (Below.refl w.heap.size w)
  -- the strings
  have big : Hid (rs.isSome = true → rt.isSome = true → ps = true → pt = true → s.size ≤ 2000 → t.size ≤ 2000 → ∃ x y : ByteArray, x.size + y.size ≤ 100000 ∧ (∀ W, Below w.heap.size w W → Calls Tryd.prog 15 #[.string s] W fun e w' => e = .returned (.string x) ∧ Below W.heap.size W w') ∧ (∀ W, Below w.heap.size w W → Calls Tryd.prog 15 #[.string t] W fun e w' => e = .returned (.string y) ∧ Below W.heap.size W w') ∧ (∀ W, Below w.heap.size w W → Calls Tryd.prog 15 #[.string (s ++ t)] W fun e w' => e = .returned (.string (x ++ y)) ∧ Below W.heap.size W w')) := Lib.hid (fun a1 a2 a3 a4 a5 a6 => by
    obtain ⟨qs, e1⟩ := Option.isSome_iff_exists.1 a1
    obtain ⟨qt, e2⟩ := Option.isSome_iff_exists.1 a2
    obtain ⟨f1, f2, f3⟩ := kp_two (bytesOf t) _ (bytesOf s) (Nat.le_refl _) (un_some (hrs.symm.trans e1)) (hps.symm.trans a3)
    obtain ⟨g1, g2, g3⟩ := kp_two [] _ (bytesOf t) (Nat.le_refl _) (un_some (hrt.symm.trans e2)) (hpt.symm.trans a4)
    have l1 := kp_len _ (bytesOf s) (Nat.le_refl _)
    have l2 := kp_len _ (bytesOf t) (Nat.le_refl _)
    rw [bytesOf_length] at l1 l2
    have zz : ∀ l : L, (strOfNums l).size = l.length := fun l => by unfold strOfNums; simp [ByteArray.size]
    refine ⟨strOfNums (kp (bytesOf s)), strOfNums (kp (bytesOf t)), by rw [zz, zz]; omega, fun W hb => FjUnescape_any s W (by omega) f3 (hE.below hb), fun W hb => FjUnescape_any t W (by omega) g3 (hE.below hb), fun W hb => ?_⟩
    have := FjUnescape_any (s ++ t) W (by rw [ByteArray.size_append]; omega) (by rw [bytesOf_append, f2]; exact g3) (hE.below hb)
    rw [bytesOf_append, f1] at this
    have app : strOfNums (kp (bytesOf s) ++ kp (bytesOf t)) = strOfNums (kp (bytesOf s)) ++ strOfNums (kp (bytesOf t)) := by
      refine ba_ext ?_
      unfold strOfNums
      simp
    rw [app] at this
    exact this)
  have HN := Lib.hid (show ∀ W, Below w.heap.size w W → Calls Tryd.prog 15 #[.string ⟨#[92, 110]⟩] W fun e w' => e = .returned (.string ⟨#[10]⟩) ∧ Below W.heap.size W w' from fun W hb => nl_any W (hE.below hb))
  clear hE hrs hrt hps hpt
  have q1 : s.size + t.size ≤ 9223372036854775807 := by omega
  by_cases allok : rs.isSome = true ∧ rt.isSome = true ∧ ps = true ∧ pt = true ∧ s.size ≤ 2000 ∧ t.size ≤ 2000
  · obtain ⟨a1, a2, a3, a4, a5, a6⟩ := allok
    obtain ⟨x, y, hxy, Hx, Hy, Hxy⟩ := big.out a1 a2 a3 a4 a5 a6
    obtain ⟨qs, rfl⟩ := Option.isSome_iff_exists.1 a1
    obtain ⟨qt, rfl⟩ := Option.isSome_iff_exists.1 a2
    subst a3; subst a4
    have hd3 : decide (2000 < (s.size : Int)) = false := decide_eq_false (by omega)
    have hd4 : decide (2000 < (t.size : Int)) = false := decide_eq_false (by omega)
    have q2 : x.size + y.size ≤ 9223372036854775807 := by omega
    replace Hx := Lib.hid Hx
    replace Hy := Lib.hid Hy
    replace Hxy := Lib.hid Hxy
    unfold G at Gs Gt
    dsimp only [UEscR] at Gs Gt
    clear big a1 a2 c1 c2
    go_enter Tryd.func5, Tryd.ntmps5
    go_wp2_with (first
      | (go_at_call_of 17 (Value.string s); refine (Gs.out.1 _).mono ?_; rintro e w1 ⟨rfl, hb⟩; replace HB := Lib.hid (below_step HB.out hb); clear hb)
      | (go_at_call_of 17 (Value.string t); refine (Gt.out.1 _).mono ?_; rintro e w1 ⟨rfl, hb⟩; replace HB := Lib.hid (below_step HB.out hb); clear hb)
      | (go_at_call_of 18 (Value.string s); refine (Gs.out.2 _).mono ?_; rintro e w1 ⟨rfl, hb⟩; replace HB := Lib.hid (below_step HB.out hb); clear hb)
      | (go_at_call_of 18 (Value.string t); refine (Gt.out.2 _).mono ?_; rintro e w1 ⟨rfl, hb⟩; replace HB := Lib.hid (below_step HB.out hb); clear hb)
      | (go_at_call_of 15 (Value.string s); refine (Hx.out _ HB.out).mono ?_; rintro e w1 ⟨rfl, hb⟩; replace HB := Lib.hid (below_step HB.out hb); clear hb)
      | (go_at_call_of 15 (Value.string t); refine (Hy.out _ HB.out).mono ?_; rintro e w1 ⟨rfl, hb⟩; replace HB := Lib.hid (below_step HB.out hb); clear hb)
      | (go_at_call_of 15 (Value.string (s ++ t)); refine (Hxy.out _ HB.out).mono ?_; rintro e w1 ⟨rfl, hb⟩; replace HB := Lib.hid (below_step HB.out hb); clear hb)
      | (go_at_call 15; refine (HN.out _ HB.out).mono ?_; rintro e w1 ⟨rfl, hb⟩; replace HB := Lib.hid (below_step HB.out hb); clear hb))
    go_ret
    exact ⟨by simp, HB.out⟩
  · unfold G at Gs Gt
    clear big HN
    cases rs with
    | none =>
      dsimp only [UEscR] at Gs
      cases rt with
      | none =>
        dsimp only [UEscR] at Gt
        go_enter Tryd.func5, Tryd.ntmps5
        go_wp2_with (first
          | (go_at_call_of 17 (Value.string s); refine (Gs.out.1 _).mono ?_; rintro e w1 ⟨rfl, hb⟩; replace HB := Lib.hid (below_step HB.out hb); clear hb)
          | (go_at_call_of 17 (Value.string t); refine (Gt.out.1 _).mono ?_; rintro e w1 ⟨rfl, hb⟩; replace HB := Lib.hid (below_step HB.out hb); clear hb)
          | (go_at_call_of 18 (Value.string s); refine (Gs.out.2 _).mono ?_; rintro e w1 ⟨rfl, hb⟩; replace HB := Lib.hid (below_step HB.out hb); clear hb)
          | (go_at_call_of 18 (Value.string t); refine (Gt.out.2 _).mono ?_; rintro e w1 ⟨rfl, hb⟩; replace HB := Lib.hid (below_step HB.out hb); clear hb))
        go_ret
        exact ⟨by simp, HB.out⟩
      | some qt =>
        dsimp only [UEscR] at Gt
        go_enter Tryd.func5, Tryd.ntmps5
        go_wp2_with (first
          | (go_at_call_of 17 (Value.string s); refine (Gs.out.1 _).mono ?_; rintro e w1 ⟨rfl, hb⟩; replace HB := Lib.hid (below_step HB.out hb); clear hb)
          | (go_at_call_of 17 (Value.string t); refine (Gt.out.1 _).mono ?_; rintro e w1 ⟨rfl, hb⟩; replace HB := Lib.hid (below_step HB.out hb); clear hb)
          | (go_at_call_of 18 (Value.string s); refine (Gs.out.2 _).mono ?_; rintro e w1 ⟨rfl, hb⟩; replace HB := Lib.hid (below_step HB.out hb); clear hb)
          | (go_at_call_of 18 (Value.string t); refine (Gt.out.2 _).mono ?_; rintro e w1 ⟨rfl, hb⟩; replace HB := Lib.hid (below_step HB.out hb); clear hb))
        go_ret
        exact ⟨by simp, HB.out⟩
    | some qs =>
    dsimp only [UEscR] at Gs
    cases rt with
    | none =>
      dsimp only [UEscR] at Gt
      go_enter Tryd.func5, Tryd.ntmps5
      go_wp2_with (first
        | (go_at_call_of 17 (Value.string s); refine (Gs.out.1 _).mono ?_; rintro e w1 ⟨rfl, hb⟩; replace HB := Lib.hid (below_step HB.out hb); clear hb)
        | (go_at_call_of 17 (Value.string t); refine (Gt.out.1 _).mono ?_; rintro e w1 ⟨rfl, hb⟩; replace HB := Lib.hid (below_step HB.out hb); clear hb)
        | (go_at_call_of 18 (Value.string s); refine (Gs.out.2 _).mono ?_; rintro e w1 ⟨rfl, hb⟩; replace HB := Lib.hid (below_step HB.out hb); clear hb)
        | (go_at_call_of 18 (Value.string t); refine (Gt.out.2 _).mono ?_; rintro e w1 ⟨rfl, hb⟩; replace HB := Lib.hid (below_step HB.out hb); clear hb))
      go_ret
      exact ⟨by simp, HB.out⟩
    | some qt =>
    dsimp only [UEscR] at Gt
    cases ps with
    | false =>
      go_enter Tryd.func5, Tryd.ntmps5
      go_wp2_with (first
        | (go_at_call_of 17 (Value.string s); refine (Gs.out.1 _).mono ?_; rintro e w1 ⟨rfl, hb⟩; replace HB := Lib.hid (below_step HB.out hb); clear hb)
        | (go_at_call_of 17 (Value.string t); refine (Gt.out.1 _).mono ?_; rintro e w1 ⟨rfl, hb⟩; replace HB := Lib.hid (below_step HB.out hb); clear hb)
        | (go_at_call_of 18 (Value.string s); refine (Gs.out.2 _).mono ?_; rintro e w1 ⟨rfl, hb⟩; replace HB := Lib.hid (below_step HB.out hb); clear hb)
        | (go_at_call_of 18 (Value.string t); refine (Gt.out.2 _).mono ?_; rintro e w1 ⟨rfl, hb⟩; replace HB := Lib.hid (below_step HB.out hb); clear hb))
      go_ret
      exact ⟨by simp, HB.out⟩
    | true =>
    cases pt with
    | false =>
      go_enter Tryd.func5, Tryd.ntmps5
      go_wp2_with (first
        | (go_at_call_of 17 (Value.string s); refine (Gs.out.1 _).mono ?_; rintro e w1 ⟨rfl, hb⟩; replace HB := Lib.hid (below_step HB.out hb); clear hb)
        | (go_at_call_of 17 (Value.string t); refine (Gt.out.1 _).mono ?_; rintro e w1 ⟨rfl, hb⟩; replace HB := Lib.hid (below_step HB.out hb); clear hb)
        | (go_at_call_of 18 (Value.string s); refine (Gs.out.2 _).mono ?_; rintro e w1 ⟨rfl, hb⟩; replace HB := Lib.hid (below_step HB.out hb); clear hb)
        | (go_at_call_of 18 (Value.string t); refine (Gt.out.2 _).mono ?_; rintro e w1 ⟨rfl, hb⟩; replace HB := Lib.hid (below_step HB.out hb); clear hb))
      go_ret
      exact ⟨by simp, HB.out⟩
    | true =>
    by_cases c5 : 2000 < (s.size : Int)
    · have hd3 : decide (2000 < (s.size : Int)) = true := decide_eq_true c5
      go_enter Tryd.func5, Tryd.ntmps5
      go_wp2_with (first
        | (go_at_call_of 17 (Value.string s); refine (Gs.out.1 _).mono ?_; rintro e w1 ⟨rfl, hb⟩; replace HB := Lib.hid (below_step HB.out hb); clear hb)
        | (go_at_call_of 17 (Value.string t); refine (Gt.out.1 _).mono ?_; rintro e w1 ⟨rfl, hb⟩; replace HB := Lib.hid (below_step HB.out hb); clear hb)
        | (go_at_call_of 18 (Value.string s); refine (Gs.out.2 _).mono ?_; rintro e w1 ⟨rfl, hb⟩; replace HB := Lib.hid (below_step HB.out hb); clear hb)
        | (go_at_call_of 18 (Value.string t); refine (Gt.out.2 _).mono ?_; rintro e w1 ⟨rfl, hb⟩; replace HB := Lib.hid (below_step HB.out hb); clear hb))
      go_ret
      exact ⟨by simp, HB.out⟩
    have hd3 : decide (2000 < (s.size : Int)) = false := decide_eq_false c5
    by_cases c6 : 2000 < (t.size : Int)
    · have hd4 : decide (2000 < (t.size : Int)) = true := decide_eq_true c6
      go_enter Tryd.func5, Tryd.ntmps5
      go_wp2_with (first
        | (go_at_call_of 17 (Value.string s); refine (Gs.out.1 _).mono ?_; rintro e w1 ⟨rfl, hb⟩; replace HB := Lib.hid (below_step HB.out hb); clear hb)
        | (go_at_call_of 17 (Value.string t); refine (Gt.out.1 _).mono ?_; rintro e w1 ⟨rfl, hb⟩; replace HB := Lib.hid (below_step HB.out hb); clear hb)
        | (go_at_call_of 18 (Value.string s); refine (Gs.out.2 _).mono ?_; rintro e w1 ⟨rfl, hb⟩; replace HB := Lib.hid (below_step HB.out hb); clear hb)
        | (go_at_call_of 18 (Value.string t); refine (Gt.out.2 _).mono ?_; rintro e w1 ⟨rfl, hb⟩; replace HB := Lib.hid (below_step HB.out hb); clear hb))
      go_ret
      exact ⟨by simp, HB.out⟩
    exact absurd ⟨rfl, rfl, rfl, rfl, by omega, by omega⟩ allok
end Go.Proofs.YtkmdcckiehbcmaaDoor.KB
