/- The walks of gjson's validator: words. -/
import Derived.Test.YtiehnomfckbnhaaV1
set_option linter.unusedVariables false
set_option linter.unusedSimpArgs false
namespace Go.Proofs.Ytiehnomfckbnhaa.J
open Go.RowKit Go.Proofs.YtiehnomfckbnhaaW.PrintWords Go.Proofs.YtiehnomfckbnhaaW.PrintLast Go.Proofs.YtiehnomfckbnhaaW.PrintMore Go.Proofs.Ytiehnomfckbnhaa.Aid

set_option maxHeartbeats 8000000 in
set_option maxRecDepth 100000 in
theorem vtrue_any (w : World) (g c : Nat) (all : L) (i : Nat) (l : L) (h : At w g all i l) :
    Calls Try.prog 30 #[.slice (some ⟨g, 0, none⟩) all.length c, .int .i64 (i : Int)] w (VP w g all (word [114, 117, 101] l)) := by
  have hl := h.len
  have hsm := h.small
  by_cases hn : l.length < 3
  · have HN := Lib.hid (show word [114, 117, 101] l = none by
      unfold word
      rw [if_neg]
      intro hp
      have := (List.isPrefixOf_iff_prefix.1 hp).length_le
      simp only [List.length_cons, List.length_nil] at this
      omega)
    clear h
    go_enter Try.func30, Try.ntmps30
    go_wp2
    go_ret2
    exact vp_no HN.out
  · obtain ⟨x0, x1, x2, t, rfl⟩ : ∃ x0 x1 x2 t, l = x0 :: x1 :: x2 :: t := by
      match l, hn with
      | [], h => exact absurd (by simp only [List.length_cons, List.length_nil]; omega) h
      | [x0], h => exact absurd (by simp only [List.length_cons, List.length_nil]; omega) h
      | [x0, x1], h => exact absurd (by simp only [List.length_cons, List.length_nil]; omega) h
      | x0 :: x1 :: x2 :: t, _ => exact ⟨x0, x1, x2, t, rfl⟩
    clear hn
    simp only [List.length_cons] at hl
    have c0 := h.cell
    have h0 := h.step
    have c1 := h0.cell
    have h1 := h0.step
    have c2 := h1.cell
    have h2 := h1.step
    have HE := Lib.hid h2
    clear h h0 h1 h2
    have HW := Lib.hid (show word [114, 117, 101] (x0 :: x1 :: x2 :: t) = if 114 = x0 ∧ 117 = x1 ∧ 101 = x2 then some t else none by unfold word; simp [List.isPrefixOf, and_assoc])
    by_cases e0 : x0 = 114
    · subst e0
      by_cases e1 : x1 = 117
      · subst e1
        by_cases e2 : x2 = 101
        · subst e2
          go_enter Try.func30, Try.ntmps30
          go_wp2
          go_ret2
          exact vp_yes (by rw [HW.out]; simp) HE.out (by omega)
        · have b2 : (x2 == 101) = false := beq_eq_false_iff_ne.mpr e2
          have E2 := Lib.hid e2
          clear e2
          go_enter Try.func30, Try.ntmps30
          go_wp2
          go_ret2
          exact vp_no (by rw [HW.out, if_neg (fun h => E2.out h.2.2.symm)])
      · have b1 : (x1 == 117) = false := beq_eq_false_iff_ne.mpr e1
        have E1 := Lib.hid e1
        clear e1
        go_enter Try.func30, Try.ntmps30
        go_wp2
        go_ret2
        exact vp_no (by rw [HW.out, if_neg (fun h => E1.out h.2.1.symm)])
    · have b0 : (x0 == 114) = false := beq_eq_false_iff_ne.mpr e0
      have E0 := Lib.hid e0
      clear e0
      go_enter Try.func30, Try.ntmps30
      go_wp2
      go_ret2
      exact vp_no (by rw [HW.out, if_neg (fun h => E0.out h.1.symm)])

set_option maxHeartbeats 8000000 in
set_option maxRecDepth 100000 in
theorem vfalse_any (w : World) (g c : Nat) (all : L) (i : Nat) (l : L) (h : At w g all i l) :
    Calls Try.prog 31 #[.slice (some ⟨g, 0, none⟩) all.length c, .int .i64 (i : Int)] w (VP w g all (word [97, 108, 115, 101] l)) := by
  have hl := h.len
  have hsm := h.small
  by_cases hn : l.length < 4
  · have HN := Lib.hid (show word [97, 108, 115, 101] l = none by
      unfold word
      rw [if_neg]
      intro hp
      have := (List.isPrefixOf_iff_prefix.1 hp).length_le
      simp only [List.length_cons, List.length_nil] at this
      omega)
    clear h
    go_enter Try.func31, Try.ntmps31
    go_wp2
    go_ret2
    exact vp_no HN.out
  · obtain ⟨x0, x1, x2, x3, t, rfl⟩ : ∃ x0 x1 x2 x3 t, l = x0 :: x1 :: x2 :: x3 :: t := by
      match l, hn with
      | [], h => exact absurd (by simp only [List.length_cons, List.length_nil]; omega) h
      | [x0], h => exact absurd (by simp only [List.length_cons, List.length_nil]; omega) h
      | [x0, x1], h => exact absurd (by simp only [List.length_cons, List.length_nil]; omega) h
      | [x0, x1, x2], h => exact absurd (by simp only [List.length_cons, List.length_nil]; omega) h
      | x0 :: x1 :: x2 :: x3 :: t, _ => exact ⟨x0, x1, x2, x3, t, rfl⟩
    clear hn
    simp only [List.length_cons] at hl
    have c0 := h.cell
    have h0 := h.step
    have c1 := h0.cell
    have h1 := h0.step
    have c2 := h1.cell
    have h2 := h1.step
    have c3 := h2.cell
    have h3 := h2.step
    have HE := Lib.hid h3
    clear h h0 h1 h2 h3
    have HW := Lib.hid (show word [97, 108, 115, 101] (x0 :: x1 :: x2 :: x3 :: t) = if 97 = x0 ∧ 108 = x1 ∧ 115 = x2 ∧ 101 = x3 then some t else none by unfold word; simp [List.isPrefixOf, and_assoc])
    by_cases e0 : x0 = 97
    · subst e0
      by_cases e1 : x1 = 108
      · subst e1
        by_cases e2 : x2 = 115
        · subst e2
          by_cases e3 : x3 = 101
          · subst e3
            go_enter Try.func31, Try.ntmps31
            go_wp2
            go_ret2
            exact vp_yes (by rw [HW.out]; simp) HE.out (by omega)
          · have b3 : (x3 == 101) = false := beq_eq_false_iff_ne.mpr e3
            have E3 := Lib.hid e3
            clear e3
            go_enter Try.func31, Try.ntmps31
            go_wp2
            go_ret2
            exact vp_no (by rw [HW.out, if_neg (fun h => E3.out h.2.2.2.symm)])
        · have b2 : (x2 == 115) = false := beq_eq_false_iff_ne.mpr e2
          have E2 := Lib.hid e2
          clear e2
          go_enter Try.func31, Try.ntmps31
          go_wp2
          go_ret2
          exact vp_no (by rw [HW.out, if_neg (fun h => E2.out h.2.2.1.symm)])
      · have b1 : (x1 == 108) = false := beq_eq_false_iff_ne.mpr e1
        have E1 := Lib.hid e1
        clear e1
        go_enter Try.func31, Try.ntmps31
        go_wp2
        go_ret2
        exact vp_no (by rw [HW.out, if_neg (fun h => E1.out h.2.1.symm)])
    · have b0 : (x0 == 97) = false := beq_eq_false_iff_ne.mpr e0
      have E0 := Lib.hid e0
      clear e0
      go_enter Try.func31, Try.ntmps31
      go_wp2
      go_ret2
      exact vp_no (by rw [HW.out, if_neg (fun h => E0.out h.1.symm)])

set_option maxHeartbeats 8000000 in
set_option maxRecDepth 100000 in
theorem vnull_any (w : World) (g c : Nat) (all : L) (i : Nat) (l : L) (h : At w g all i l) :
    Calls Try.prog 32 #[.slice (some ⟨g, 0, none⟩) all.length c, .int .i64 (i : Int)] w (VP w g all (word [117, 108, 108] l)) := by
  have hl := h.len
  have hsm := h.small
  by_cases hn : l.length < 3
  · have HN := Lib.hid (show word [117, 108, 108] l = none by
      unfold word
      rw [if_neg]
      intro hp
      have := (List.isPrefixOf_iff_prefix.1 hp).length_le
      simp only [List.length_cons, List.length_nil] at this
      omega)
    clear h
    go_enter Try.func32, Try.ntmps32
    go_wp2
    go_ret2
    exact vp_no HN.out
  · obtain ⟨x0, x1, x2, t, rfl⟩ : ∃ x0 x1 x2 t, l = x0 :: x1 :: x2 :: t := by
      match l, hn with
      | [], h => exact absurd (by simp only [List.length_cons, List.length_nil]; omega) h
      | [x0], h => exact absurd (by simp only [List.length_cons, List.length_nil]; omega) h
      | [x0, x1], h => exact absurd (by simp only [List.length_cons, List.length_nil]; omega) h
      | x0 :: x1 :: x2 :: t, _ => exact ⟨x0, x1, x2, t, rfl⟩
    clear hn
    simp only [List.length_cons] at hl
    have c0 := h.cell
    have h0 := h.step
    have c1 := h0.cell
    have h1 := h0.step
    have c2 := h1.cell
    have h2 := h1.step
    have HE := Lib.hid h2
    clear h h0 h1 h2
    have HW := Lib.hid (show word [117, 108, 108] (x0 :: x1 :: x2 :: t) = if 117 = x0 ∧ 108 = x1 ∧ 108 = x2 then some t else none by unfold word; simp [List.isPrefixOf, and_assoc])
    by_cases e0 : x0 = 117
    · subst e0
      by_cases e1 : x1 = 108
      · subst e1
        by_cases e2 : x2 = 108
        · subst e2
          go_enter Try.func32, Try.ntmps32
          go_wp2
          go_ret2
          exact vp_yes (by rw [HW.out]; simp) HE.out (by omega)
        · have b2 : (x2 == 108) = false := beq_eq_false_iff_ne.mpr e2
          have E2 := Lib.hid e2
          clear e2
          go_enter Try.func32, Try.ntmps32
          go_wp2
          go_ret2
          exact vp_no (by rw [HW.out, if_neg (fun h => E2.out h.2.2.symm)])
      · have b1 : (x1 == 108) = false := beq_eq_false_iff_ne.mpr e1
        have E1 := Lib.hid e1
        clear e1
        go_enter Try.func32, Try.ntmps32
        go_wp2
        go_ret2
        exact vp_no (by rw [HW.out, if_neg (fun h => E1.out h.2.1.symm)])
    · have b0 : (x0 == 117) = false := beq_eq_false_iff_ne.mpr e0
      have E0 := Lib.hid e0
      clear e0
      go_enter Try.func32, Try.ntmps32
      go_wp2
      go_ret2
      exact vp_no (by rw [HW.out, if_neg (fun h => E0.out h.1.symm)])

end Go.Proofs.Ytiehnomfckbnhaa.J
