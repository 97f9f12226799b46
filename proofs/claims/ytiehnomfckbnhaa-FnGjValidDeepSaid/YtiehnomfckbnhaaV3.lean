/- The walk of gjson's validstring. -/
import Derived.Test.YtiehnomfckbnhaaV1
set_option linter.unusedVariables false
set_option linter.unusedSimpArgs false
namespace Go.Proofs.Ytiehnomfckbnhaa.J
open Go.RowKit Go.Proofs.YtiehnomfckbnhaaW.PrintWords Go.Proofs.YtiehnomfckbnhaaW.PrintLast Go.Proofs.YtiehnomfckbnhaaW.PrintMore Go.Proofs.Ytiehnomfckbnhaa.Aid

theorem ishex_any (w : World) (c : Int) : Calls Try.prog 35 #[.int .u8 c] w fun e w' => e = .returned (.bool (hex c)) ∧ w' = w := by
  by_cases a1 : 48 ≤ c <;> by_cases a2 : c ≤ 57 <;> by_cases a3 : 97 ≤ c <;> by_cases a4 : c ≤ 102 <;> by_cases a5 : 65 ≤ c <;> by_cases a6 : c ≤ 70
  all_goals first | (exfalso; omega) | skip
  all_goals
    have E := Lib.hid (show hex c = decide ((48 ≤ c ∧ c ≤ 57) ∨ (97 ≤ c ∧ c ≤ 102) ∨ (65 ≤ c ∧ c ≤ 70)) by simp [hex, dig, Bool.or_assoc])
    go_enter Try.func35, Try.ntmps35
    go_wp2
    go_ret
    exact ⟨by rw [E.out]; simp [a1, a2, a3, a4, a5, a6], rfl⟩
theorem plain_cases {c : Int} (h : plainEsc c = true) : c = 34 ∨ c = 92 ∨ c = 47 ∨ c = 98 ∨ c = 102 ∨ c = 110 ∨ c = 114 ∨ c = 116 := by simpa [plainEsc, or_assoc] using h
theorem plain_not {c : Int} (h : ¬ plainEsc c = true) : (c == 34) = false ∧ (c == 92) = false ∧ (c == 47) = false ∧ (c == 98) = false ∧ (c == 102) = false ∧ (c == 110) = false ∧ (c == 114) = false ∧ (c == 116) = false := by
  simp only [Bool.not_eq_true, plainEsc, Bool.or_eq_false_iff] at h
  obtain ⟨⟨⟨⟨⟨⟨⟨a, b⟩, c⟩, d⟩, e⟩, f⟩, g⟩, h⟩ := h
  exact ⟨a, b, c, d, e, f, g, h⟩

set_option maxHeartbeats 8000000 in
set_option maxRecDepth 100000 in
theorem string_any (w : World) (g c : Nat) (all : L) (i : Nat) (l : L) (h : At w g all i l) :
    Calls Try.prog 28 #[.slice (some ⟨g, 0, none⟩) all.length c, .int .i64 (i : Int)] w (VP w g all (str l)) := by
  have H := Lib.hid h
  have hsm := h.small
  clear h
  go_enter Try.func28, Try.ntmps28
  go_wp2
  go_loop [1] (fun v => Hid (∃ (i' : Nat) (l' : L), v = .int .i64 (i' : Int) ∧ At w g all i' l' ∧ str l' = str l)) (fun v => all.length - (intOf v).toNat)
  case atStart => exact Lib.hid ⟨i, l, rfl, H.out, rfl⟩
  case round =>
    obtain ⟨i', l', rfl, hA, hs⟩ := hrel.out
    have HA := Lib.hid hA
    have HS := Lib.hid hs
    clear hrel hA hs
    cases l' with
    | nil =>
      obtain rfl := HA.out.end_
      go_wp2
      go_ret2
      exact vp_no (by rw [← HS.out, str_nil])
    | cons d t =>
      have hlt := HA.out.lt
      have hcell := HA.out.cell
      by_cases h32 : d < 32
      · have HN := Lib.hid (show str (d :: t) = none by rw [str_cons, if_neg (by omega), if_pos h32])
        go_wp2
        go_ret2
        exact vp_no (by rw [← HS.out, HN.out])
      by_cases h34 : d = 34
      · subst h34
        clear h32
        have HN := Lib.hid (show str (34 :: t) = some t by rw [str_cons, if_pos rfl])
        go_wp2
        go_ret2
        exact vp_yes (by rw [← HS.out, HN.out]) HA.out.step (by omega)
      by_cases h92 : d = 92
      · subst h92
        clear h32 h34
        have HN := Lib.hid (show str (92 :: t) = (esc t).bind str by rw [str_cons, if_neg (by decide), if_neg (by decide), if_pos rfl])
        cases t with
        | nil =>
          have hl := HA.out.step.end_
          have HL := Lib.hid hl
          have hb : ((i' : Int) + 1 == all.length) = true := beq_iff_eq.mpr (by omega)
          clear hl
          go_wp2
          go_ret2
          exact vp_no (by rw [← HS.out, HN.out]; rfl)
        | cons e u =>
          have hlt2 := HA.out.step.lt
          have hcell2 := HA.out.step.cell
          have hb : ((i' : Int) + 1 == all.length) = false := beq_eq_false_iff_ne.mpr (by omega)
          by_cases hp : plainEsc e = true
          · have HX := Lib.hid (show str (92 :: e :: u) = str u by rw [HN.out, esc, if_pos hp]; rfl)
            rcases plain_cases hp with rfl | rfl | rfl | rfl | rfl | rfl | rfl | rfl
            all_goals
              clear hp
              go_wp2
              go_round
              case rel => exact Lib.hid ⟨i' + 2, u, by go_num, HA.out.step.step, by rw [← HS.out, HX.out]⟩
              case measure => simp [intOf]; omega
          · obtain ⟨b1, b2, b3, b4, b5, b6, b7, b8⟩ := plain_not hp
            by_cases h117 : e = 117
            · subst h117
              have HX := Lib.hid (show str (92 :: 117 :: u) = (hexes 4 u).bind str by rw [HN.out, esc, if_neg hp, if_pos rfl])
              clear hp b1 b2 b3 b4 b5 b6 b7 b8
              go_wp2
              go_loop [1, 46] (fun v1 v46 => Hid (∃ (k i2 : Nat) (l2 : L), v1 = .int .i64 (i2 : Int) ∧ v46 = .int .i64 (k : Int) ∧ k ≤ 4 ∧ i' < i2 ∧ At w g all (i2 + 1) l2 ∧ hexes (4 - k) l2 = hexes 4 u)) (fun v1 v46 => 4 - (intOf v46).toNat)
              case atStart => exact Lib.hid ⟨0, i' + 1, u, by go_num, rfl, by omega, by omega, HA.out.step.step, rfl⟩
              case round =>
                obtain ⟨k, i2, l2, rfl, rfl, hk4, hi2, hA2, hx2⟩ := hrel.out
                have HA2 := Lib.hid hA2
                have HX2 := Lib.hid hx2
                clear hrel hA2 hx2
                have hle2 := HA2.out.le
                rcases Nat.lt_or_ge k 4 with hk | hk
                · obtain ⟨m, hm⟩ : ∃ m, 4 - k = m + 1 := ⟨3 - k, by omega⟩
                  have hm' : m = 4 - (k + 1) := by omega
                  replace hm := Lib.hid hm
                  replace hm' := Lib.hid hm'
                  cases l2 with
                  | nil =>
                    have hend := Lib.hid HA2.out.end_
                    have hge : decide ((i2 : Int) + 1 ≥ all.length) = true := decide_eq_true (by have := hend.out; omega)
                    have HN := Lib.hid (show str (92 :: 117 :: u) = none by rw [HX.out, ← HX2.out, hm.out]; rfl)
                    go_wp2
                    go_ret2
                    exact vp_no (by rw [← HS.out, HN.out])
                  | cons x r =>
                    have hlt3 := HA2.out.lt
                    have hcell3 := HA2.out.cell
                    have hge : decide ((i2 : Int) + 1 ≥ all.length) = false := decide_eq_false (by omega)
                    by_cases hh : hex x = true
                    · have HH := Lib.hid (show hexes (4 - (k + 1)) r = hexes 4 u by rw [← HX2.out, hm.out, hexes, if_pos hh, hm'.out])
                      have hix := Lib.hid (ishex_any w x)
                      go_wp2_with (go_at_call 35; refine hix.out.mono ?_; rintro e w' ⟨rfl, rfl⟩)
                      go_round
                      case rel => exact Lib.hid ⟨k + 1, i2 + 1, r, by go_num, by go_num, by omega, by omega, HA2.out.step, HH.out⟩
                      case measure => simp [intOf]; omega
                    · have HN := Lib.hid (show str (92 :: 117 :: u) = none by rw [HX.out, ← HX2.out, hm.out, hexes, if_neg hh]; rfl)
                      have hh' : hex x = false := by simpa using hh
                      clear hh
                      have hix := Lib.hid (ishex_any w x)
                      go_wp2_with (go_at_call 35; refine hix.out.mono ?_; rintro e w' ⟨rfl, rfl⟩)
                      go_ret2
                      exact vp_no (by rw [← HS.out, HN.out])
                · obtain rfl : k = 4 := by omega
                  have HN := Lib.hid (show str (92 :: 117 :: u) = str l2 by rw [HX.out, ← HX2.out]; rfl)
                  go_wp2
                  go_round
                  case rel => exact Lib.hid ⟨i2 + 1, l2, by go_num, HA2.out, by rw [← HS.out, HN.out]⟩
                  case measure => simp [intOf]; omega
            · have HX := Lib.hid (show str (92 :: e :: u) = none by rw [HN.out, esc, if_neg hp, if_neg h117]; rfl)
              have b9 : (e == 117) = false := beq_eq_false_iff_ne.mpr h117
              clear hp h117
              go_wp2
              go_ret2
              exact vp_no (by rw [← HS.out, HX.out])
      · have HX := Lib.hid (show str (d :: t) = str t by rw [str_cons, if_neg h34, if_neg h32, if_neg h92])
        have a1 : (d == 34) = false := beq_eq_false_iff_ne.mpr h34
        have a2 : (d == 92) = false := beq_eq_false_iff_ne.mpr h92
        clear h34 h92
        go_wp2
        go_round
        case rel => exact Lib.hid ⟨i' + 1, t, by go_num, HA.out.step, by rw [← HS.out, HX.out]⟩
        case measure => simp [intOf]; omega
end Go.Proofs.Ytiehnomfckbnhaa.J
