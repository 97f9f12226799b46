/- The walk of gjson's validnumber. -/
import Derived.Test.YtiehnomfckbnhaaV1
import Derived.Deep.CutRange
set_option linter.unusedVariables false
set_option linter.unusedSimpArgs false
namespace Go.Proofs.Ytiehnomfckbnhaa.J
open Go.RowKit Go.Proofs.YtiehnomfckbnhaaW.PrintWords Go.Proofs.YtiehnomfckbnhaaW.PrintLast Go.Proofs.YtiehnomfckbnhaaW.PrintMore Go.Proofs.Ytiehnomfckbnhaa.Aid

theorem dig_yes {c : Int} (h1 : 48 ≤ c) (h2 : c ≤ 57) : dig c = true := by simp [dig, h1, h2]
theorem dig_no {c : Int} (h : c < 48 ∨ 57 < c) : dig c = false := by simp [dig]; omega
theorem dig_split (c : Int) : (48 ≤ c ∧ c ≤ 57 ∧ dig c = true) ∨ (c < 48 ∧ dig c = false) ∨ (48 ≤ c ∧ 57 < c ∧ dig c = false) := by
  by_cases h1 : 48 ≤ c
  · by_cases h2 : c ≤ 57
    · exact .inl ⟨h1, h2, dig_yes h1 h2⟩
    · exact .inr (.inr ⟨h1, by omega, dig_no (by omega)⟩)
  · exact .inr (.inl ⟨by omega, dig_no (by omega)⟩)
theorem digs_yes {c : Int} (t : L) (h : dig c = true) : digs (c :: t) = digs t := by rw [digs, if_pos h]
theorem digs_no {c : Int} (t : L) (h : dig c = false) : digs (c :: t) = c :: t := by rw [digs, if_neg (by rw [h]; simp)]
theorem digits_yes {c : Int} (t : L) (h : dig c = true) : digits (c :: t) = some (digs t) := by rw [digits, if_pos h]
theorem digits_no {c : Int} (t : L) (h : dig c = false) : digits (c :: t) = none := by rw [digits, if_neg (by rw [h]; simp)]

set_option maxHeartbeats 8000000 in
set_option maxRecDepth 100000 in
theorem vnumber_any (w : World) (g c : Nat) (all : L) (i : Nat) (x : Int) (t : L) (hx : x = 45 ∨ dig x = true) (h : At w g all i (x :: t)) :
    Calls Try.prog 29 #[.slice (some ⟨g, 0, none⟩) all.length c, .int .i64 ((i : Int) + 1)] w (VP w g all (num (x :: t))) := by
  have hsm := h.small
  have hlt := h.lt
  have hcell := h.cell
  have HA := Lib.hid h
  clear h
  obtain ⟨goal, hg⟩ : ∃ z, z = num (x :: t) := ⟨_, rfl⟩
  rw [← hg]
  have HG := Lib.hid hg
  clear hg
  go_enter Try.func29, Try.ntmps29
  go_upto_if 12 with (fail)
  go_cut [1] from 6 to 31 (fun v1 wx => wx = w ∧ Hid (∃ (i1 : Nat) (y : Int) (t1 : L), v1 = .int .i64 (i1 : Int) ∧ At w g all i1 (y :: t1) ∧ dig y = true ∧ (whole (y :: t1)).bind frac = goal))
  case first =>
    by_cases h45 : x = 45
    · subst h45
      cases t with
      | nil =>
        have hend := Lib.hid HA.out.step.end_
        have hb : ((i : Int) + 1 == all.length) = true := beq_iff_eq.mpr (by have := hend.out; omega)
        have HN := Lib.hid (show goal = none by rw [HG.out]; rfl)
        clear hx
        go_wp2
        go_ret2
        exact vp_no HN.out
      | cons y t1 =>
        have hlt1 := HA.out.step.lt
        have hcell1 := HA.out.step.cell
        have hb : ((i : Int) + 1 == all.length) = false := beq_eq_false_iff_ne.mpr (by omega)
        clear hx
        have HW := Lib.hid (show goal = (whole (y :: t1)).bind frac by rw [HG.out]; rfl)
        rcases dig_split y with ⟨y1, y2, y3⟩ | ⟨y1, y3⟩ | ⟨y1, y2, y3⟩
        · have HY := Lib.hid y3
          clear y3
          go_wp2
          go_meet
          case rel => exact ⟨rfl, Lib.hid ⟨i + 1, y, t1, by first | rfl | go_num, HA.out.step, HY.out, HW.out.symm⟩⟩
        all_goals
          have HN := Lib.hid (show goal = none by rw [HW.out, whole, take_ne t1 (by omega), digits_no t1 y3]; rfl)
          clear y3
          go_wp2
          go_ret2
          exact vp_no HN.out
    · have hx' : dig x = true := hx.resolve_left h45
      have HX := Lib.hid hx'
      have HW := Lib.hid (show goal = (whole (x :: t)).bind frac by rw [HG.out, num, opt, take_ne t h45]; rfl)
      have b0 : (x == 45) = false := beq_eq_false_iff_ne.mpr h45
      clear hx hx' h45
      go_wp2
      go_meet
      case rel => exact ⟨rfl, Lib.hid ⟨i, x, t, rfl, HA.out, HX.out, HW.out.symm⟩⟩
  case rest =>
  obtain ⟨rfl, hc⟩ := hcut
  clear HA HG hlt hcell hx
  obtain ⟨i1, y, t1, rfl, hA1, hy, hgl⟩ := hc.out
  clear hc
  have hlt1 := hA1.lt
  have hcell1 := hA1.cell
  have hb1 : ((i1 : Int) == all.length) = false := beq_eq_false_iff_ne.mpr (by omega)
  have HA1 := Lib.hid hA1
  have HY := Lib.hid hy
  have HG1 := Lib.hid hgl
  clear hA1 hy hgl
  go_upto_if 42 with (fail)
  go_cut [1] from 33 to 62 (fun v1 wx => wx = wc ∧ Hid (∃ (i1 : Nat) (l1 : L), v1 = .int .i64 (i1 : Int) ∧ At wc g all i1 l1 ∧ frac l1 = goal))
  case first =>
    by_cases h48 : y = 48
    · subst h48
      go_wp2
      go_meet
      case rel => exact ⟨rfl, Lib.hid ⟨i1 + 1, t1, by first | rfl | go_num, HA1.out.step, HG1.out⟩⟩
    · have b0 : (y == 48) = false := beq_eq_false_iff_ne.mpr h48
      have HW := Lib.hid (show frac (digs (y :: t1)) = goal by rw [← HG1.out, whole, take_ne t1 h48, digits_yes t1 HY.out, digs_yes t1 HY.out]; rfl)
      clear h48
      go_wp2
      go_loop [1] (fun v => Hid (∃ (i9 : Nat) (l9 : L), v = .int .i64 (i9 : Int) ∧ At wc g all i9 l9 ∧ digs l9 = digs (y :: t1))) (fun v => all.length - (intOf v).toNat)
      case atStart => exact Lib.hid ⟨i1, y :: t1, by first | rfl | go_num, HA1.out, rfl⟩
      case round =>
        obtain ⟨i9, l9, rfl, hA9, hd9⟩ := hrel.out
        have HA9 := Lib.hid hA9
        have HD9 := Lib.hid hd9
        clear hrel hA9 hd9
        cases l9 with
        | nil =>
          obtain rfl := HA9.out.end_
          have HF := Lib.hid (show digs (y :: t1) = [] from HD9.out.symm.trans rfl)
          go_wp2
          go_meet
          case rel => exact ⟨rfl, Lib.hid ⟨_, _, by first | rfl | go_num, HA9.out, by rw [← HF.out]; exact HW.out⟩⟩
        | cons y9 r9 =>
          have hlt9 := HA9.out.lt
          have hcell9 := HA9.out.cell
          rcases dig_split y9 with ⟨y1, y2, y3⟩ | ⟨y1, y3⟩ | ⟨y1, y2, y3⟩
          · have HY9 := Lib.hid y3
            clear y3
            go_wp2
            go_round
            case rel => exact Lib.hid ⟨i9 + 1, r9, by go_num, HA9.out.step, by rw [← HD9.out, digs_yes r9 HY9.out]⟩
            case measure => simp [intOf]; omega
          · have HF := Lib.hid (show digs (y :: t1) = y9 :: r9 by rw [← HD9.out, digs_no r9 y3])
            clear y3
            go_wp2
            go_meet
            case rel => exact ⟨rfl, Lib.hid ⟨_, _, by first | rfl | go_num, HA9.out, by rw [← HF.out]; exact HW.out⟩⟩
          · have HF := Lib.hid (show digs (y :: t1) = y9 :: r9 by rw [← HD9.out, digs_no r9 y3])
            clear y3
            go_wp2
            go_meet
            case rel => exact ⟨rfl, Lib.hid ⟨_, _, by first | rfl | go_num, HA9.out, by rw [← HF.out]; exact HW.out⟩⟩
  case rest =>
  obtain ⟨rfl, hc⟩ := hcut
  clear HA1 HG1 HY hlt1 hcell1 hb1
  obtain ⟨i2, l2, rfl, hA2, hg2⟩ := hc.out
  clear hc
  have HA := Lib.hid hA2
  have HG := Lib.hid hg2
  clear hA2 hg2
  rename_i wc'
  cases l2 with
  | nil =>
    have hend := Lib.hid HA.out.end_
    have hb : ((i2 : Int) == all.length) = true := beq_iff_eq.mpr (by have := hend.out; omega)
    have HN := Lib.hid (show goal = some [] by rw [← HG.out]; rfl)
    go_wp2
    go_ret2
    exact vp_yes HN.out HA.out rfl
  | cons y t2 =>
  have hlt := HA.out.lt
  have hcell := HA.out.cell
  have hb : ((i2 : Int) == all.length) = false := beq_eq_false_iff_ne.mpr (by omega)
  go_upto_if 72 with (fail)
  go_cut [1] from 63 to 112 (fun v1 wx => wx = wc ∧ Hid (∃ (i1 : Nat) (l1 : L), v1 = .int .i64 (i1 : Int) ∧ At wc g all i1 l1 ∧ expo l1 = goal))
  case first =>
    by_cases h46 : y = 46
    · subst h46
      have HW := Lib.hid (show (digits t2).bind expo = goal by rw [← HG.out, frac, take_eq])
      cases t2 with
      | nil =>
        have hend := Lib.hid HA.out.step.end_
        have hb2 : ((i2 : Int) + 1 == all.length) = true := beq_iff_eq.mpr (by have := hend.out; omega)
        have HN := Lib.hid (show goal = none by rw [← HW.out]; rfl)
        go_wp2
        go_ret2
        exact vp_no HN.out
      | cons z t3 =>
        have hlt3 := HA.out.step.lt
        have hcell3 := HA.out.step.cell
        have hb2 : ((i2 : Int) + 1 == all.length) = false := beq_eq_false_iff_ne.mpr (by omega)
        rcases dig_split z with ⟨z1, z2, z3⟩ | ⟨z1, z3⟩ | ⟨z1, z2, z3⟩
        · have HX := Lib.hid (show expo (digs t3) = goal by rw [← HW.out, digits_yes t3 z3]; rfl)
          clear z3
          go_wp2
          go_loop [1] (fun v => Hid (∃ (i9 : Nat) (l9 : L), v = .int .i64 (i9 : Int) ∧ At wc g all i9 l9 ∧ digs l9 = digs (t3))) (fun v => all.length - (intOf v).toNat)
          case atStart => exact Lib.hid ⟨i2 + 2, t3, by first | rfl | go_num, HA.out.step.step, rfl⟩
          case round =>
            obtain ⟨i9, l9, rfl, hA9, hd9⟩ := hrel.out
            have HA9 := Lib.hid hA9
            have HD9 := Lib.hid hd9
            clear hrel hA9 hd9
            cases l9 with
            | nil =>
              obtain rfl := HA9.out.end_
              have HF := Lib.hid (show digs (t3) = [] from HD9.out.symm.trans rfl)
              go_wp2
              go_meet
              case rel => exact ⟨rfl, Lib.hid ⟨_, _, by first | rfl | go_num, HA9.out, by rw [← HF.out]; exact HX.out⟩⟩
            | cons y9 r9 =>
              have hlt9 := HA9.out.lt
              have hcell9 := HA9.out.cell
              rcases dig_split y9 with ⟨y1, y2, y3⟩ | ⟨y1, y3⟩ | ⟨y1, y2, y3⟩
              · have HY9 := Lib.hid y3
                clear y3
                go_wp2
                go_round
                case rel => exact Lib.hid ⟨i9 + 1, r9, by go_num, HA9.out.step, by rw [← HD9.out, digs_yes r9 HY9.out]⟩
                case measure => simp [intOf]; omega
              · have HF := Lib.hid (show digs (t3) = y9 :: r9 by rw [← HD9.out, digs_no r9 y3])
                clear y3
                go_wp2
                go_meet
                case rel => exact ⟨rfl, Lib.hid ⟨_, _, by first | rfl | go_num, HA9.out, by rw [← HF.out]; exact HX.out⟩⟩
              · have HF := Lib.hid (show digs (t3) = y9 :: r9 by rw [← HD9.out, digs_no r9 y3])
                clear y3
                go_wp2
                go_meet
                case rel => exact ⟨rfl, Lib.hid ⟨_, _, by first | rfl | go_num, HA9.out, by rw [← HF.out]; exact HX.out⟩⟩
        all_goals
          have HN := Lib.hid (show goal = none by rw [← HW.out, digits_no t3 z3]; rfl)
          clear z3
          go_wp2
          go_ret2
          exact vp_no HN.out
    · have b0 : (y == 46) = false := beq_eq_false_iff_ne.mpr h46
      have HX := Lib.hid (show expo (y :: t2) = goal by rw [← HG.out, frac, take_ne t2 h46])
      clear h46
      go_wp2
      go_meet
      case rel => exact ⟨rfl, Lib.hid ⟨i2, y :: t2, rfl, HA.out, HX.out⟩⟩
  case rest =>
  obtain ⟨rfl, hc⟩ := hcut
  clear HA HG hlt hcell hb
  obtain ⟨i3, l3, rfl, hA3, hg3⟩ := hc.out
  clear hc
  have HA := Lib.hid hA3
  have HG := Lib.hid hg3
  clear hA3 hg3
  cases l3 with
  | nil =>
    have hend := Lib.hid HA.out.end_
    have hb : ((i3 : Int) == all.length) = true := beq_iff_eq.mpr (by have := hend.out; omega)
    have HN := Lib.hid (show goal = some [] by rw [← HG.out]; rfl)
    go_wp2
    go_ret2
    exact vp_yes HN.out HA.out rfl
  | cons y t2 =>
  have hlt := HA.out.lt
  have hcell := HA.out.cell
  have hb : ((i3 : Int) == all.length) = false := beq_eq_false_iff_ne.mpr (by omega)
  by_cases he : y = 101 ∨ y = 69
  · have HW := Lib.hid (show expTail t2 = goal by
      rw [← HG.out, expo]
      rcases he with rfl | rfl
      · rw [take_eq]
      · rw [take_ne t2 (by decide), take_eq])
    rcases he with rfl | rfl
    all_goals
      cases t2 with
      | nil =>
        have hend := Lib.hid HA.out.step.end_
        have hb2 : ((i3 : Int) + 1 == all.length) = true := beq_iff_eq.mpr (by have := hend.out; omega)
        have HN := Lib.hid (show goal = none by rw [← HW.out]; rfl)
        go_wp2
        go_ret2
        exact vp_no HN.out
      | cons z t3 =>
        have hlt3 := HA.out.step.lt
        have hcell3 := HA.out.step.cell
        have hb2 : ((i3 : Int) + 1 == all.length) = false := beq_eq_false_iff_ne.mpr (by omega)
        by_cases h43 : z = 43
        · subst h43
          have HX0 := Lib.hid (show digits t3 = goal by rw [← HW.out, expTail, take_eq])
          cases t3 with
          | nil =>
            have hend := Lib.hid HA.out.step.step.end_
            have hbq : ((i3 : Int) + 2 == all.length) = true := beq_iff_eq.mpr (by have := hend.out; omega)
            have HN := Lib.hid (show goal = none by rw [← HX0.out]; rfl)
            go_wp2
            go_ret2
            exact vp_no HN.out
          | cons u t4 =>
            have hltq := (HA.out.step.step).lt
            have hcellq := (HA.out.step.step).cell
            have hbq : ((i3 : Int) + 2 == all.length) = false := beq_eq_false_iff_ne.mpr (by omega)
            rcases dig_split u with ⟨u1, u2, u3⟩ | ⟨u1, u3⟩ | ⟨u1, u2, u3⟩
            · have HX := Lib.hid (show goal = some (digs t4) by rw [← HX0.out, digits_yes t4 u3])
              clear u3
              go_wp2
              go_loop [1] (fun v => Hid (∃ (i9 : Nat) (l9 : L), v = .int .i64 (i9 : Int) ∧ At wc g all i9 l9 ∧ digs l9 = digs (t4))) (fun v => all.length - (intOf v).toNat)
              case atStart => exact Lib.hid ⟨i3 + 3, t4, by first | rfl | go_num, (HA.out.step.step).step, rfl⟩
              case round =>
                obtain ⟨i9, l9, rfl, hA9, hd9⟩ := hrel.out
                have HA9 := Lib.hid hA9
                have HD9 := Lib.hid hd9
                clear hrel hA9 hd9
                cases l9 with
                | nil =>
                  obtain rfl := HA9.out.end_
                  have HF := Lib.hid (show digs (t4) = [] from HD9.out.symm.trans rfl)
                  go_wp2
                  go_ret2
                  exact vp_yes (by rw [HX.out, HF.out]) HA9.out (by omega)
                | cons y9 r9 =>
                  have hlt9 := HA9.out.lt
                  have hcell9 := HA9.out.cell
                  rcases dig_split y9 with ⟨y1, y2, y3⟩ | ⟨y1, y3⟩ | ⟨y1, y2, y3⟩
                  · have HY9 := Lib.hid y3
                    clear y3
                    go_wp2
                    go_round
                    case rel => exact Lib.hid ⟨i9 + 1, r9, by go_num, HA9.out.step, by rw [← HD9.out, digs_yes r9 HY9.out]⟩
                    case measure => simp [intOf]; omega
                  · have HF := Lib.hid (show digs (t4) = y9 :: r9 by rw [← HD9.out, digs_no r9 y3])
                    clear y3
                    go_wp2
                    go_ret2
                    exact vp_yes (by rw [HX.out, HF.out]) HA9.out (by omega)
                  · have HF := Lib.hid (show digs (t4) = y9 :: r9 by rw [← HD9.out, digs_no r9 y3])
                    clear y3
                    go_wp2
                    go_ret2
                    exact vp_yes (by rw [HX.out, HF.out]) HA9.out (by omega)
            all_goals
              have HN := Lib.hid (show goal = none by rw [← HX0.out, digits_no t4 u3])
              clear u3
              go_wp2
              go_ret2
              exact vp_no HN.out
        by_cases h45 : z = 45
        · subst h45
          clear h43
          have HX0 := Lib.hid (show digits t3 = goal by rw [← HW.out, expTail, take_ne t3 (by decide), opt, take_eq]; rfl)
          cases t3 with
          | nil =>
            have hend := Lib.hid HA.out.step.step.end_
            have hbq : ((i3 : Int) + 2 == all.length) = true := beq_iff_eq.mpr (by have := hend.out; omega)
            have HN := Lib.hid (show goal = none by rw [← HX0.out]; rfl)
            go_wp2
            go_ret2
            exact vp_no HN.out
          | cons u t4 =>
            have hltq := (HA.out.step.step).lt
            have hcellq := (HA.out.step.step).cell
            have hbq : ((i3 : Int) + 2 == all.length) = false := beq_eq_false_iff_ne.mpr (by omega)
            rcases dig_split u with ⟨u1, u2, u3⟩ | ⟨u1, u3⟩ | ⟨u1, u2, u3⟩
            · have HX := Lib.hid (show goal = some (digs t4) by rw [← HX0.out, digits_yes t4 u3])
              clear u3
              go_wp2
              go_loop [1] (fun v => Hid (∃ (i9 : Nat) (l9 : L), v = .int .i64 (i9 : Int) ∧ At wc g all i9 l9 ∧ digs l9 = digs (t4))) (fun v => all.length - (intOf v).toNat)
              case atStart => exact Lib.hid ⟨i3 + 3, t4, by first | rfl | go_num, (HA.out.step.step).step, rfl⟩
              case round =>
                obtain ⟨i9, l9, rfl, hA9, hd9⟩ := hrel.out
                have HA9 := Lib.hid hA9
                have HD9 := Lib.hid hd9
                clear hrel hA9 hd9
                cases l9 with
                | nil =>
                  obtain rfl := HA9.out.end_
                  have HF := Lib.hid (show digs (t4) = [] from HD9.out.symm.trans rfl)
                  go_wp2
                  go_ret2
                  exact vp_yes (by rw [HX.out, HF.out]) HA9.out (by omega)
                | cons y9 r9 =>
                  have hlt9 := HA9.out.lt
                  have hcell9 := HA9.out.cell
                  rcases dig_split y9 with ⟨y1, y2, y3⟩ | ⟨y1, y3⟩ | ⟨y1, y2, y3⟩
                  · have HY9 := Lib.hid y3
                    clear y3
                    go_wp2
                    go_round
                    case rel => exact Lib.hid ⟨i9 + 1, r9, by go_num, HA9.out.step, by rw [← HD9.out, digs_yes r9 HY9.out]⟩
                    case measure => simp [intOf]; omega
                  · have HF := Lib.hid (show digs (t4) = y9 :: r9 by rw [← HD9.out, digs_no r9 y3])
                    clear y3
                    go_wp2
                    go_ret2
                    exact vp_yes (by rw [HX.out, HF.out]) HA9.out (by omega)
                  · have HF := Lib.hid (show digs (t4) = y9 :: r9 by rw [← HD9.out, digs_no r9 y3])
                    clear y3
                    go_wp2
                    go_ret2
                    exact vp_yes (by rw [HX.out, HF.out]) HA9.out (by omega)
            all_goals
              have HN := Lib.hid (show goal = none by rw [← HX0.out, digits_no t4 u3])
              clear u3
              go_wp2
              go_ret2
              exact vp_no HN.out
        · have b1 : (z == 43) = false := beq_eq_false_iff_ne.mpr h43
          have b2 : (z == 45) = false := beq_eq_false_iff_ne.mpr h45
          have HX0 := Lib.hid (show digits (z :: t3) = goal by rw [← HW.out, expTail, take_ne t3 h43, opt, take_ne t3 h45]; rfl)
          clear h43 h45
          have hltq := (HA.out.step).lt
          have hcellq := (HA.out.step).cell
          have hbq : ((i3 : Int) + 1 == all.length) = false := beq_eq_false_iff_ne.mpr (by omega)
          rcases dig_split z with ⟨u1, u2, u3⟩ | ⟨u1, u3⟩ | ⟨u1, u2, u3⟩
          · have HX := Lib.hid (show goal = some (digs t3) by rw [← HX0.out, digits_yes t3 u3])
            clear u3
            go_wp2
            go_loop [1] (fun v => Hid (∃ (i9 : Nat) (l9 : L), v = .int .i64 (i9 : Int) ∧ At wc g all i9 l9 ∧ digs l9 = digs (t3))) (fun v => all.length - (intOf v).toNat)
            case atStart => exact Lib.hid ⟨i3 + 2, t3, by first | rfl | go_num, (HA.out.step).step, rfl⟩
            case round =>
              obtain ⟨i9, l9, rfl, hA9, hd9⟩ := hrel.out
              have HA9 := Lib.hid hA9
              have HD9 := Lib.hid hd9
              clear hrel hA9 hd9
              cases l9 with
              | nil =>
                obtain rfl := HA9.out.end_
                have HF := Lib.hid (show digs (t3) = [] from HD9.out.symm.trans rfl)
                go_wp2
                go_ret2
                exact vp_yes (by rw [HX.out, HF.out]) HA9.out (by omega)
              | cons y9 r9 =>
                have hlt9 := HA9.out.lt
                have hcell9 := HA9.out.cell
                rcases dig_split y9 with ⟨y1, y2, y3⟩ | ⟨y1, y3⟩ | ⟨y1, y2, y3⟩
                · have HY9 := Lib.hid y3
                  clear y3
                  go_wp2
                  go_round
                  case rel => exact Lib.hid ⟨i9 + 1, r9, by go_num, HA9.out.step, by rw [← HD9.out, digs_yes r9 HY9.out]⟩
                  case measure => simp [intOf]; omega
                · have HF := Lib.hid (show digs (t3) = y9 :: r9 by rw [← HD9.out, digs_no r9 y3])
                  clear y3
                  go_wp2
                  go_ret2
                  exact vp_yes (by rw [HX.out, HF.out]) HA9.out (by omega)
                · have HF := Lib.hid (show digs (t3) = y9 :: r9 by rw [← HD9.out, digs_no r9 y3])
                  clear y3
                  go_wp2
                  go_ret2
                  exact vp_yes (by rw [HX.out, HF.out]) HA9.out (by omega)
          all_goals
            have HN := Lib.hid (show goal = none by rw [← HX0.out, digits_no t3 u3])
            clear u3
            go_wp2
            go_ret2
            exact vp_no HN.out
  · obtain ⟨n1, n2⟩ := not_or.1 he
    have b1 : (y == 101) = false := beq_eq_false_iff_ne.mpr n1
    have b2 : (y == 69) = false := beq_eq_false_iff_ne.mpr n2
    have HN := Lib.hid (show goal = some (y :: t2) by rw [← HG.out, expo, take_ne t2 n1, take_ne t2 n2])
    clear he n1 n2
    go_wp2
    go_ret2
    exact vp_yes HN.out HA.out rfl
end Go.Proofs.Ytiehnomfckbnhaa.J
