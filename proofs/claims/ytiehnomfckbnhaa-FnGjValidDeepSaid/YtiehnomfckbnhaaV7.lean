/- The walks of gjson's validany and validpayload. -/
import Derived.Test.YtiehnomfckbnhaaV2
import Derived.Test.YtiehnomfckbnhaaV3
import Derived.Test.YtiehnomfckbnhaaV4
import Derived.Test.YtiehnomfckbnhaaV5
import Derived.Test.YtiehnomfckbnhaaV6
set_option linter.unusedVariables false
set_option linter.unusedSimpArgs false
namespace Go.Proofs.Ytiehnomfckbnhaa.J
open Go.RowKit Go.Proofs.YtiehnomfckbnhaaW.PrintWords Go.Proofs.YtiehnomfckbnhaaW.PrintLast Go.Proofs.YtiehnomfckbnhaaW.PrintMore Go.Proofs.Ytiehnomfckbnhaa.Aid

theorem valR_obj (N n : Nat) (t : L) : valR N (n + 1) (123 :: t) = objR N n t := by
  rw [valR, val, if_pos rfl, objR, Option.map_map]; rfl
theorem valR_arr (N n : Nat) (t : L) : valR N (n + 1) (91 :: t) = arrR N n t := by
  rw [valR, val, if_neg (by decide), if_pos rfl, arrR, Option.map_map]; rfl
theorem map_id {α : Type} {β : Type} (o : Option L) (f : L → β) : ((o.map fun r => (f r, r)).map (·.2)) = o := by cases o <;> rfl
theorem valR_str (N n : Nat) (t : L) : valR N (n + 1) (34 :: t) = str t := by
  rw [valR, val, if_neg (by decide), if_neg (by decide), if_pos rfl]; cases str t <;> rfl
theorem valR_num (N n : Nat) {c : Int} (t : L) (h : c = 45 ∨ dig c = true) : valR N (n + 1) (c :: t) = num (c :: t) := by
  have h1 : c ≠ 123 := by rcases h with rfl | h; decide; intro e; subst e; exact absurd h (by decide)
  have h2 : c ≠ 91 := by rcases h with rfl | h; decide; intro e; subst e; exact absurd h (by decide)
  have h3 : c ≠ 34 := by rcases h with rfl | h; decide; intro e; subst e; exact absurd h (by decide)
  rw [valR, val, if_neg h1, if_neg h2, if_neg h3, if_pos h]; cases num (c :: t) <;> rfl
theorem vword_ne {a c : Int} (ws t : L) (h : a ≠ c) : word (a :: ws) (c :: t) = none := by
  unfold word; rw [if_neg]; intro hp; simp [List.isPrefixOf] at hp; exact h hp.1
theorem vword_eq (a : Int) (ws t : L) : word (a :: ws) (a :: t) = word ws t := by unfold word; simp [List.isPrefixOf]
theorem valR_word (N n : Nat) {c : Int} (t : L) (h1 : c ≠ 123) (h2 : c ≠ 91) (h3 : c ≠ 34) (h4 : ¬ (c = 45 ∨ dig c = true)) : valR N (n + 1) (c :: t) = (word nullW (c :: t)).or ((word falseW (c :: t)).or (word trueW (c :: t))) := by
  rw [valR, val, if_neg h1, if_neg h2, if_neg h3, if_neg h4]
  cases word nullW (c :: t) with
  | some r => rfl
  | none => cases word falseW (c :: t) with
    | some r => rfl
    | none => cases word trueW (c :: t) <;> rfl
theorem valR_null (N n : Nat) (t : L) : valR N (n + 1) (110 :: t) = word [117, 108, 108] t := by
  rw [valR_word N n t (by decide) (by decide) (by decide) (by decide), nullW, falseW, trueW, vword_eq, vword_ne _ _ (by decide), vword_ne _ _ (by decide)]; cases word [117, 108, 108] t <;> rfl
theorem valR_false (N n : Nat) (t : L) : valR N (n + 1) (102 :: t) = word [97, 108, 115, 101] t := by
  rw [valR_word N n t (by decide) (by decide) (by decide) (by decide), nullW, falseW, trueW, vword_eq, vword_ne _ _ (by decide), vword_ne _ _ (by decide)]; cases word [97, 108, 115, 101] t <;> rfl
theorem valR_true (N n : Nat) (t : L) : valR N (n + 1) (116 :: t) = word [114, 117, 101] t := by
  rw [valR_word N n t (by decide) (by decide) (by decide) (by decide), nullW, falseW, trueW, vword_eq, vword_ne _ _ (by decide), vword_ne _ _ (by decide)]; cases word [114, 117, 101] t <;> rfl
theorem valR_bad (N n : Nat) {c : Int} (t : L) (h1 : c ≠ 123) (h2 : c ≠ 91) (h3 : c ≠ 34) (h4 : ¬ (c = 45 ∨ dig c = true)) (h5 : c ≠ 110) (h6 : c ≠ 102) (h7 : c ≠ 116) : valR N (n + 1) (c :: t) = none := by
  rw [valR_word N n t h1 h2 h3 h4, nullW, falseW, trueW, vword_ne _ _ h5.symm, vword_ne _ _ h6.symm, vword_ne _ _ h7.symm]; rfl
theorem dig_cases {c : Int} (h : c = 45 ∨ dig c = true) : c = 45 ∨ c = 48 ∨ c = 49 ∨ c = 50 ∨ c = 51 ∨ c = 52 ∨ c = 53 ∨ c = 54 ∨ c = 55 ∨ c = 56 ∨ c = 57 := by
  rcases h with h | h
  · exact .inl h
  · simp [dig] at h; omega

set_option maxHeartbeats 16000000 in
set_option maxRecDepth 100000 in
theorem any_step (n : Nat) (hv : AnyC n) : AnyC (n + 1) := by
  intro w g c all i l hn h
  have hsm := h.small
  have H := Lib.hid h
  have HV := Lib.hid hv
  obtain ⟨goal, hg⟩ : ∃ z, z = valR all.length (n + 1) (skip l) := ⟨_, rfl⟩
  rw [← hg]
  have HG := Lib.hid hg
  clear h hv hg
  go_enter Try.func24, Try.ntmps24
  go_wp2
  go_loop [1] (fun v => Hid (∃ (i' : Nat) (l' : L), v = .int .i64 (i' : Int) ∧ At w g all i' l' ∧ skip l' = skip l ∧ l'.length ≤ l.length)) (fun v => all.length - (intOf v).toNat)
  case atStart => exact Lib.hid ⟨i, l, rfl, H.out, rfl, Nat.le_refl _⟩
  case round =>
    obtain ⟨i', l', rfl, hA, hs, hlen⟩ := hrel.out
    have HA := Lib.hid hA
    have HS := Lib.hid hs
    clear hrel hA hs
    cases l' with
    | nil =>
      obtain rfl := HA.out.end_
      have HN := Lib.hid (show goal = none by rw [HG.out, ← HS.out, skip, valR, val_nil]; rfl)
      go_wp2
      go_ret2
      exact vp_no HN.out
    | cons d t =>
      have hlt := HA.out.lt
      have hcell := HA.out.cell
      simp only [List.length_cons] at hlen
      by_cases hb : blank d = true
      · have HB := Lib.hid hb
        rcases blank_cases hb with rfl | rfl | rfl | rfl
        all_goals
          clear hb
          go_wp2
          go_round
          case rel => exact Lib.hid ⟨i' + 1, t, by go_num, HA.out.step, by rw [← HS.out, skip_blank t HB.out], by omega⟩
          case measure => simp [intOf]; omega
      · obtain ⟨b1, b2, b3, b4⟩ := blank_not hb
        have HB := Lib.hid (show goal = valR all.length (n + 1) (d :: t) by rw [HG.out, ← HS.out, skip_not t hb])
        clear hb
        by_cases e123 : d = 123
        · subst e123
          clear b1 b2 b3 b4
          have HC := object_any n HV.out w g c all (i' + 1) t (by omega) HA.out.step
          rw [← valR_obj, ← HB.out] at HC
          replace HC := Lib.hid HC
          go_wp2_with fail
          refine HC.out.mono ?_
          cases goal with
          | none =>
            rintro e w' ⟨j, rfl, rfl⟩
            go_wp2
            go_ret2
            exact vp_no rfl
          | some r =>
            rintro e w' ⟨k, hA, rfl, rfl⟩
            have HA9 := Lib.hid hA
            clear hA
            go_wp2
            go_ret2
            exact vp_yes rfl HA9.out rfl
        have f123 : (d == 123) = false := beq_eq_false_iff_ne.mpr e123
        by_cases e91 : d = 91
        · subst e91
          clear b1 b2 b3 b4 f123
          have HC := array_any n HV.out w g c all (i' + 1) t (by omega) HA.out.step
          rw [← valR_arr, ← HB.out] at HC
          replace HC := Lib.hid HC
          go_wp2_with fail
          refine HC.out.mono ?_
          cases goal with
          | none =>
            rintro e w' ⟨j, rfl, rfl⟩
            go_wp2
            go_ret2
            exact vp_no rfl
          | some r =>
            rintro e w' ⟨k, hA, rfl, rfl⟩
            have HA9 := Lib.hid hA
            clear hA
            go_wp2
            go_ret2
            exact vp_yes rfl HA9.out rfl
        have f91 : (d == 91) = false := beq_eq_false_iff_ne.mpr e91
        by_cases e34 : d = 34
        · subst e34
          clear b1 b2 b3 b4 f123 f91
          have HC := string_any w g c all (i' + 1) t HA.out.step
          rw [← valR_str all.length n, ← HB.out] at HC
          replace HC := Lib.hid HC
          go_wp2_with fail
          refine HC.out.mono ?_
          cases goal with
          | none =>
            rintro e w' ⟨j, rfl, rfl⟩
            go_wp2
            go_ret2
            exact vp_no rfl
          | some r =>
            rintro e w' ⟨k, hA, rfl, rfl⟩
            have HA9 := Lib.hid hA
            clear hA
            go_wp2
            go_ret2
            exact vp_yes rfl HA9.out rfl
        have f34 : (d == 34) = false := beq_eq_false_iff_ne.mpr e34
        by_cases e116 : d = 116
        · subst e116
          clear b1 b2 b3 b4 f123 f91 f34
          have HC := vtrue_any w g c all (i' + 1) t HA.out.step
          rw [← valR_true all.length n, ← HB.out] at HC
          replace HC := Lib.hid HC
          go_wp2_with fail
          refine HC.out.mono ?_
          cases goal with
          | none =>
            rintro e w' ⟨j, rfl, rfl⟩
            go_wp2
            go_ret2
            exact vp_no rfl
          | some r =>
            rintro e w' ⟨k, hA, rfl, rfl⟩
            have HA9 := Lib.hid hA
            clear hA
            go_wp2
            go_ret2
            exact vp_yes rfl HA9.out rfl
        have f116 : (d == 116) = false := beq_eq_false_iff_ne.mpr e116
        by_cases e102 : d = 102
        · subst e102
          clear b1 b2 b3 b4 f123 f91 f34 f116
          have HC := vfalse_any w g c all (i' + 1) t HA.out.step
          rw [← valR_false all.length n, ← HB.out] at HC
          replace HC := Lib.hid HC
          go_wp2_with fail
          refine HC.out.mono ?_
          cases goal with
          | none =>
            rintro e w' ⟨j, rfl, rfl⟩
            go_wp2
            go_ret2
            exact vp_no rfl
          | some r =>
            rintro e w' ⟨k, hA, rfl, rfl⟩
            have HA9 := Lib.hid hA
            clear hA
            go_wp2
            go_ret2
            exact vp_yes rfl HA9.out rfl
        have f102 : (d == 102) = false := beq_eq_false_iff_ne.mpr e102
        by_cases e110 : d = 110
        · subst e110
          clear b1 b2 b3 b4 f123 f91 f34 f116 f102
          have HC := vnull_any w g c all (i' + 1) t HA.out.step
          rw [← valR_null all.length n, ← HB.out] at HC
          replace HC := Lib.hid HC
          go_wp2_with fail
          refine HC.out.mono ?_
          cases goal with
          | none =>
            rintro e w' ⟨j, rfl, rfl⟩
            go_wp2
            go_ret2
            exact vp_no rfl
          | some r =>
            rintro e w' ⟨k, hA, rfl, rfl⟩
            have HA9 := Lib.hid hA
            clear hA
            go_wp2
            go_ret2
            exact vp_yes rfl HA9.out rfl
        have f110 : (d == 110) = false := beq_eq_false_iff_ne.mpr e110
        by_cases hd : d = 45 ∨ dig d = true
        · have HC := vnumber_any w g c all i' d t hd HA.out
          rw [← valR_num all.length n t hd, ← HB.out] at HC
          replace HC := Lib.hid HC
          have hd2 := dig_cases hd
          clear hd HB
          rcases hd2 with rfl | rfl | rfl | rfl | rfl | rfl | rfl | rfl | rfl | rfl | rfl
          all_goals
            clear b1 b2 b3 b4 f123 f91 f34 f116 f102 f110 e123 e91 e34 e116 e102 e110
            go_wp2_with fail
            refine HC.out.mono ?_
            cases goal with
            | none =>
              rintro e w' ⟨j, rfl, rfl⟩
              go_wp2
              go_ret2
              exact vp_no rfl
            | some r =>
              rintro e w' ⟨k, hA, rfl, rfl⟩
              have HA9 := Lib.hid hA
              clear hA
              go_wp2
              go_ret2
              exact vp_yes rfl HA9.out rfl
        · have HN := Lib.hid (show goal = none by rw [HB.out, valR_bad all.length n t e123 e91 e34 hd e110 e102 e116])
          have g45 : (d == 45) = false := beq_eq_false_iff_ne.mpr (fun e => hd (by subst e; decide))
          have g48 : (d == 48) = false := beq_eq_false_iff_ne.mpr (fun e => hd (by subst e; decide))
          have g49 : (d == 49) = false := beq_eq_false_iff_ne.mpr (fun e => hd (by subst e; decide))
          have g50 : (d == 50) = false := beq_eq_false_iff_ne.mpr (fun e => hd (by subst e; decide))
          have g51 : (d == 51) = false := beq_eq_false_iff_ne.mpr (fun e => hd (by subst e; decide))
          have g52 : (d == 52) = false := beq_eq_false_iff_ne.mpr (fun e => hd (by subst e; decide))
          have g53 : (d == 53) = false := beq_eq_false_iff_ne.mpr (fun e => hd (by subst e; decide))
          have g54 : (d == 54) = false := beq_eq_false_iff_ne.mpr (fun e => hd (by subst e; decide))
          have g55 : (d == 55) = false := beq_eq_false_iff_ne.mpr (fun e => hd (by subst e; decide))
          have g56 : (d == 56) = false := beq_eq_false_iff_ne.mpr (fun e => hd (by subst e; decide))
          have g57 : (d == 57) = false := beq_eq_false_iff_ne.mpr (fun e => hd (by subst e; decide))
          clear hd e123 e91 e34 e110 e102 e116
          go_wp2
          go_ret2
          exact vp_no HN.out
theorem any_zero : AnyC 0 := fun _ _ _ _ _ l h => absurd h (Nat.not_lt_zero _)
theorem any_any : ∀ n, AnyC n
  | 0 => any_zero
  | n + 1 => any_step n (any_any n)
end Go.Proofs.Ytiehnomfckbnhaa.J
