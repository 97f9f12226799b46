/- Texts of this claim, what is not used left out. -/
import Derived.Test.YtbpiooeklkjilaaDoorZPFnGjLessFoldx0
namespace Go.Proofs.YtbpiooeklkjilaaDoor.PFnGjLessFold
open Go.RowKit Go.Proofs.YtbpiooeklkjilaaDoorW.PrintWords Go.Proofs.YtbpiooeklkjilaaDoorW.PrintLast Go.Proofs.YtbpiooeklkjilaaDoorW.PrintMore
attribute [local go_sem] max2_int min2_int max_two min_two max_three min_three max_four min_four   -- for this text's walks alone
set_option linter.unusedVariables false
set_option linter.unusedSimpArgs false

mutual
def gjson_stringLessInsensitive.l0 : Nat → ByteArray → ByteArray → Int → Option (Bool)
  | 0, _, _, _ => none
  | k + 1, x0, x1, x5 => if x5 < (x0.size : Int) then (gjson_stringLessInsensitive.j1 k x0 x1 x5 (decide (x5 < (x1.size : Int)))) else (gjson_stringLessInsensitive.j1 k x0 x1 x5 false)
def gjson_stringLessInsensitive.j1 : Nat → ByteArray → ByteArray → Int → Bool → Option (Bool)
  | 0, _, _, _, _ => none
  | k + 1, x0, x1, x5, x15 => if x15 = true then (if 0 ≤ x5 then (if x5 < (x0.size : Int) then (if (bt x0 x5) ≥ 65 then (gjson_stringLessInsensitive.j2 k x0 x1 x5 (decide ((bt x0 x5) ≤ 90))) else (gjson_stringLessInsensitive.j2 k x0 x1 x5 false)) else (none)) else (none)) else (some (decide ((x0.size : Int) < (x1.size : Int))))
def gjson_stringLessInsensitive.j2 : Nat → ByteArray → ByteArray → Int → Bool → Option (Bool)
  | 0, _, _, _, _ => none
  | k + 1, x0, x1, x5, x27 => if x27 = true then (if 0 ≤ x5 then (if x5 < (x1.size : Int) then (if (bt x1 x5) ≥ 65 then (gjson_stringLessInsensitive.j3 k x0 x1 x5 (decide ((bt x1 x5) ≤ 90))) else (gjson_stringLessInsensitive.j3 k x0 x1 x5 false)) else (none)) else (none)) else (if 0 ≤ x5 then (if x5 < (x1.size : Int) then (if (bt x1 x5) ≥ 65 then (gjson_stringLessInsensitive.j4 k x0 x1 x5 (decide ((bt x1 x5) ≤ 90))) else (gjson_stringLessInsensitive.j4 k x0 x1 x5 false)) else (none)) else (none))
def gjson_stringLessInsensitive.j3 : Nat → ByteArray → ByteArray → Int → Bool → Option (Bool)
  | 0, _, _, _, _ => none
  | k + 1, x0, x1, x5, x37 => if x37 = true then (if 0 ≤ x5 then (if x5 < (x0.size : Int) then (if x5 < (x1.size : Int) then (if (bt x0 x5) < (bt x1 x5) then (some true) else (if (bt x0 x5) > (bt x1 x5) then (some false) else (gjson_stringLessInsensitive.l0 k x0 x1 (wrap64 (x5 + 1))))) else (none)) else (none)) else (none)) else (if 0 ≤ x5 then (if x5 < (x0.size : Int) then (if x5 < (x1.size : Int) then (if (((bt x0 x5) + 32) % 256) < (bt x1 x5) then (some true) else (if (((bt x0 x5) + 32) % 256) > (bt x1 x5) then (some false) else (gjson_stringLessInsensitive.l0 k x0 x1 (wrap64 (x5 + 1))))) else (none)) else (none)) else (none))
def gjson_stringLessInsensitive.j4 : Nat → ByteArray → ByteArray → Int → Bool → Option (Bool)
  | 0, _, _, _, _ => none
  | k + 1, x0, x1, x5, x77 => if x77 = true then (if 0 ≤ x5 then (if x5 < (x0.size : Int) then (if x5 < (x1.size : Int) then (if (bt x0 x5) < (((bt x1 x5) + 32) % 256) then (some true) else (if (bt x0 x5) > (((bt x1 x5) + 32) % 256) then (some false) else (gjson_stringLessInsensitive.l0 k x0 x1 (wrap64 (x5 + 1))))) else (none)) else (none)) else (none)) else (if 0 ≤ x5 then (if x5 < (x0.size : Int) then (if x5 < (x1.size : Int) then (if (bt x0 x5) < (bt x1 x5) then (some true) else (if (bt x0 x5) > (bt x1 x5) then (some false) else (gjson_stringLessInsensitive.l0 k x0 x1 (wrap64 (x5 + 1))))) else (none)) else (none)) else (none))
end
def gjson_stringLessInsensitive.f (k : Nat) (a0 : ByteArray) (a1 : ByteArray) : Option (Bool) := gjson_stringLessInsensitive.l0 k a0 a1 0
theorem gjson_stringLessInsensitive.mono_l : ∀ k, (∀ y0 y1 y2, LeO (gjson_stringLessInsensitive.l0 k y0 y1 y2) (gjson_stringLessInsensitive.l0 (k + 1) y0 y1 y2)) ∧ (∀ y0 y1 y2 y3, LeO (gjson_stringLessInsensitive.j1 k y0 y1 y2 y3) (gjson_stringLessInsensitive.j1 (k + 1) y0 y1 y2 y3)) ∧ (∀ y0 y1 y2 y3, LeO (gjson_stringLessInsensitive.j2 k y0 y1 y2 y3) (gjson_stringLessInsensitive.j2 (k + 1) y0 y1 y2 y3)) ∧ (∀ y0 y1 y2 y3, LeO (gjson_stringLessInsensitive.j3 k y0 y1 y2 y3) (gjson_stringLessInsensitive.j3 (k + 1) y0 y1 y2 y3)) ∧ (∀ y0 y1 y2 y3, LeO (gjson_stringLessInsensitive.j4 k y0 y1 y2 y3) (gjson_stringLessInsensitive.j4 (k + 1) y0 y1 y2 y3))
  | 0 => ⟨fun _ _ _ r h => by simp [gjson_stringLessInsensitive.l0] at h, fun _ _ _ _ r h => by simp [gjson_stringLessInsensitive.j1] at h, fun _ _ _ _ r h => by simp [gjson_stringLessInsensitive.j2] at h, fun _ _ _ _ r h => by simp [gjson_stringLessInsensitive.j3] at h, fun _ _ _ _ r h => by simp [gjson_stringLessInsensitive.j4] at h⟩
  | k + 1 => by
    obtain ⟨ih0, ih1, ih2, ih3, ih4⟩ := gjson_stringLessInsensitive.mono_l k
    refine ⟨?_, ?_, ?_, ?_, ?_⟩
    · intro y0 y1 y2
      unfold gjson_stringLessInsensitive.l0
      repeat' first
      | (with_reducible exact ih0 _ _ _)
      | (with_reducible exact ih1 _ _ _ _)
      | (with_reducible exact ih2 _ _ _ _)
      | (with_reducible exact ih3 _ _ _ _)
      | (with_reducible exact ih4 _ _ _ _)
      | (with_reducible exact LeO.refl _)
      | (with_reducible exact LeO.none _)
      | (with_reducible refine LeO.ite ?_ ?_)
      | (with_reducible refine LeO.bind ?_ (fun _ => ?_))
      | exact ih0 _ _ _
      | exact ih1 _ _ _ _
      | exact ih2 _ _ _ _
      | exact ih3 _ _ _ _
      | exact ih4 _ _ _ _
      | exact LeO.none _
      | refine LeO.ite ?_ ?_
      | refine LeO.bind ?_ (fun _ => ?_)
    · intro y0 y1 y2 y3
      unfold gjson_stringLessInsensitive.j1
      repeat' first
      | (with_reducible exact ih0 _ _ _)
      | (with_reducible exact ih1 _ _ _ _)
      | (with_reducible exact ih2 _ _ _ _)
      | (with_reducible exact ih3 _ _ _ _)
      | (with_reducible exact ih4 _ _ _ _)
      | (with_reducible exact LeO.refl _)
      | (with_reducible exact LeO.none _)
      | (with_reducible refine LeO.ite ?_ ?_)
      | (with_reducible refine LeO.bind ?_ (fun _ => ?_))
      | exact ih0 _ _ _
      | exact ih1 _ _ _ _
      | exact ih2 _ _ _ _
      | exact ih3 _ _ _ _
      | exact ih4 _ _ _ _
      | exact LeO.none _
      | refine LeO.ite ?_ ?_
      | refine LeO.bind ?_ (fun _ => ?_)
    · intro y0 y1 y2 y3
      unfold gjson_stringLessInsensitive.j2
      repeat' first
      | (with_reducible exact ih0 _ _ _)
      | (with_reducible exact ih1 _ _ _ _)
      | (with_reducible exact ih2 _ _ _ _)
      | (with_reducible exact ih3 _ _ _ _)
      | (with_reducible exact ih4 _ _ _ _)
      | (with_reducible exact LeO.refl _)
      | (with_reducible exact LeO.none _)
      | (with_reducible refine LeO.ite ?_ ?_)
      | (with_reducible refine LeO.bind ?_ (fun _ => ?_))
      | exact ih0 _ _ _
      | exact ih1 _ _ _ _
      | exact ih2 _ _ _ _
      | exact ih3 _ _ _ _
      | exact ih4 _ _ _ _
      | exact LeO.none _
      | refine LeO.ite ?_ ?_
      | refine LeO.bind ?_ (fun _ => ?_)
    · intro y0 y1 y2 y3
      unfold gjson_stringLessInsensitive.j3
      repeat' first
      | (with_reducible exact ih0 _ _ _)
      | (with_reducible exact ih1 _ _ _ _)
      | (with_reducible exact ih2 _ _ _ _)
      | (with_reducible exact ih3 _ _ _ _)
      | (with_reducible exact ih4 _ _ _ _)
      | (with_reducible exact LeO.refl _)
      | (with_reducible exact LeO.none _)
      | (with_reducible refine LeO.ite ?_ ?_)
      | (with_reducible refine LeO.bind ?_ (fun _ => ?_))
      | exact ih0 _ _ _
      | exact ih1 _ _ _ _
      | exact ih2 _ _ _ _
      | exact ih3 _ _ _ _
      | exact ih4 _ _ _ _
      | exact LeO.none _
      | refine LeO.ite ?_ ?_
      | refine LeO.bind ?_ (fun _ => ?_)
    · intro y0 y1 y2 y3
      unfold gjson_stringLessInsensitive.j4
      repeat' first
      | (with_reducible exact ih0 _ _ _)
      | (with_reducible exact ih1 _ _ _ _)
      | (with_reducible exact ih2 _ _ _ _)
      | (with_reducible exact ih3 _ _ _ _)
      | (with_reducible exact ih4 _ _ _ _)
      | (with_reducible exact LeO.refl _)
      | (with_reducible exact LeO.none _)
      | (with_reducible refine LeO.ite ?_ ?_)
      | (with_reducible refine LeO.bind ?_ (fun _ => ?_))
      | exact ih0 _ _ _
      | exact ih1 _ _ _ _
      | exact ih2 _ _ _ _
      | exact ih3 _ _ _ _
      | exact ih4 _ _ _ _
      | exact LeO.none _
      | refine LeO.ite ?_ ?_
      | refine LeO.bind ?_ (fun _ => ?_)
theorem gjson_stringLessInsensitive.mono : ∀ a0 a1 k, LeO (gjson_stringLessInsensitive.f k a0 a1) (gjson_stringLessInsensitive.f (k + 1) a0 a1) := by
  intro a0 a1 k
  obtain ⟨ih0, ih1, ih2, ih3, ih4⟩ := gjson_stringLessInsensitive.mono_l k
  unfold gjson_stringLessInsensitive.f
  repeat' first
      | (with_reducible exact ih0 _ _ _)
      | (with_reducible exact ih1 _ _ _ _)
      | (with_reducible exact ih2 _ _ _ _)
      | (with_reducible exact ih3 _ _ _ _)
      | (with_reducible exact ih4 _ _ _ _)
      | (with_reducible exact LeO.refl _)
      | (with_reducible exact LeO.none _)
      | (with_reducible refine LeO.ite ?_ ?_)
      | (with_reducible refine LeO.bind ?_ (fun _ => ?_))
      | exact ih0 _ _ _
      | exact ih1 _ _ _ _
      | exact ih2 _ _ _ _
      | exact ih3 _ _ _ _
      | exact ih4 _ _ _ _
      | exact LeO.none _
      | refine LeO.ite ?_ ?_
      | refine LeO.bind ?_ (fun _ => ?_)
set_option maxHeartbeats 8000000 in
set_option maxRecDepth 100000 in
theorem gjson_stringLessInsensitive.calls (k : Nat) (a0 : ByteArray) (a1 : ByteArray) (r : Bool) (w : World) (h : gjson_stringLessInsensitive.f k a0 a1 = some r) :
    Calls Tryd.prog 19 #[.string a0, .string a1] w fun e w' => e = .returned (.bool r) ∧ Drawn0 w w' := by
  have H : (gjson_stringLessInsensitive.l0 k a0 a1 0) = some r := h
  clear h
  have H' := Aside0.mk H
  clear H
  go_enter Tryd.func19, Tryd.ntmps19
  go_wp2
  repeat (go_quiet (fail); try go_wp2)
  go_loopg [5] k (fun kq v5 w' => ∃ (x5_1 : Int), v5 = .int .i64 x5_1 ∧ Aside0 (gjson_stringLessInsensitive.l0 kq a0 a1 x5_1 = some r) ∧ Aside0 (kq ≤ k) ∧ Drawn0 w w')
  case atStart => exact ⟨(0), (by first | rfl | (simp; done) | (simp [*]; done)), H', ⟨Nat.le_refl _⟩, by repeat (first | exact Drawn0.refl _ | apply Drawn0.step)⟩
  case round =>
    clear H'
    try clear c1
    try clear p2
    obtain ⟨x5_1, rfl, HA, HK1, ⟨m1, rfl⟩⟩ := hrel
    cases gk with
    | zero => exact absurd HA.out (by simp [gjson_stringLessInsensitive.l0])
    | succ k1 =>
      have H := HA.out
      clear HA
      simp only [gjson_stringLessInsensitive.l0] at H
      have HC3 := Aside0.mk H
      clear H
      go_upto_region 2 with (fail)
      repeat (go_quiet (fail); go_upto_region 2 with (fail))
      go_cut [15] (fun v15 wc => ∃ (kq : Nat) (x15_2 : Bool), v15 = .bool x15_2 ∧ Aside0 (gjson_stringLessInsensitive.j1 kq a0 a1 x5_1 x15_2 = some r) ∧ Aside0 (kq ≤ k1) ∧ Drawn0 w wc)
      case first =>
        have H := HC3.out
        clear HC3
        by_cases c4 : x5_1 < (a0.size : Int)
        · rw [if_pos c4] at H
          have c4b0 : decide (x5_1 < (a0.size : Int)) = true := decide_eq_true c4
          clear c4
          (first | rw [c4b0] | (simp only [i64_w, i32_w]; rw [c4b0]) | skip)
          have H' := Aside0.mk H
          clear H
          go_wp2
          repeat (go_quiet (fail); try go_wp2)
          go_meet
          case rel => exact ⟨_, (decide (x5_1 < (a1.size : Int))), (by first | rfl | (simp; done) | (simp [*]; done)), H', ⟨by have := HK1.out; first | omega | exact Nat.le_refl _⟩, by repeat (first | exact Drawn0.refl _ | apply Drawn0.step)⟩
        · rw [if_neg c4] at H
          have c4b0 : decide (x5_1 < (a0.size : Int)) = false := decide_eq_false c4
          clear c4
          (first | rw [c4b0] | (simp only [i64_w, i32_w]; rw [c4b0]) | skip)
          have H' := Aside0.mk H
          clear H
          go_wp2
          repeat (go_quiet (fail); try go_wp2)
          go_meet
          case rel => exact ⟨_, (false), (by first | rfl | (simp; done) | (simp [*]; done)), H', ⟨by have := HK1.out; first | omega | exact Nat.le_refl _⟩, by repeat (first | exact Drawn0.refl _ | apply Drawn0.step)⟩
      case rest =>
        clear HC3
        try clear c1
        try clear p2
        try clear c4
        try clear c4b0
        try clear p2
        obtain ⟨kq, x15_2, rfl, HA, HJ2, ⟨mc2, rfl⟩⟩ := hcut
        cases kq with
        | zero => exact absurd HA.out (by simp [gjson_stringLessInsensitive.j1])
        | succ kj2 =>
          have H := HA.out
          clear HA
          simp only [gjson_stringLessInsensitive.j1] at H
          by_cases c5 : x15_2 = true
          · subst c5
            have H1 : (if 0 ≤ x5_1 then (if x5_1 < (a0.size : Int) then (if (bt a0 x5_1) ≥ 65 then (gjson_stringLessInsensitive.j2 kj2 a0 a1 x5_1 (decide ((bt a0 x5_1) ≤ 90))) else (gjson_stringLessInsensitive.j2 kj2 a0 a1 x5_1 false)) else (none)) else (none)) = some r := by rw [if_pos rfl] at H; exact H
            clear H
            have H := H1
            clear H1
            have HC6 := Aside0.mk H
            clear H
            go_upto_region 4 with (fail)
            repeat (go_quiet (fail); go_upto_region 4 with (fail))
            go_cut [27] (fun v27 wc => ∃ (kq : Nat) (x27_5 : Bool), v27 = .bool x27_5 ∧ Aside0 (gjson_stringLessInsensitive.j2 kq a0 a1 x5_1 x27_5 = some r) ∧ Aside0 (kq ≤ kj2) ∧ Drawn0 w wc)
            case first =>
              have H := HC6.out
              clear HC6
              by_cases c7 : 0 ≤ x5_1
              · rw [if_pos c7] at H
                have c7b0 : decide (0 ≤ x5_1) = true := decide_eq_true c7
                clear c7
                (first | rw [c7b0] | (simp only [i64_w, i32_w]; rw [c7b0]) | skip)
                by_cases c8 : x5_1 < (a0.size : Int)
                · rw [if_pos c8] at H
                  have c8b0 : decide (x5_1 < (a0.size : Int)) = true := decide_eq_true c8
                  clear c8
                  by_cases c10 : (bt a0 x5_1) ≥ 65
                  · rw [if_pos c10] at H
                    have c10b0 : decide (65 ≤ (bt a0 x5_1)) = true := decide_eq_true c10
                    clear c10
                    have H' := Aside0.mk H
                    clear H
                    have p9 : 0 ≤ (x5_1 : Int) := of_decide_eq_true (by first | (with_reducible assumption) | assumption)
                    have q9 : x5_1 < (a0.size : Int) := of_decide_eq_true (by first | (with_reducible assumption) | assumption)
                    have hx9 := bt_at a0 x5_1
                    replace p9 := eq_true p9
                    replace q9 := eq_true q9
                    have p11 : 0 ≤ (x5_1 : Int) := of_decide_eq_true (by first | (with_reducible assumption) | assumption)
                    have q11 : x5_1 < (a0.size : Int) := of_decide_eq_true (by first | (with_reducible assumption) | assumption)
                    have hx11 := bt_at a0 x5_1
                    replace p11 := eq_true p11
                    replace q11 := eq_true q11
                    go_wp2
                    repeat (go_quiet (fail); try go_wp2)
                    go_meet
                    case rel => exact ⟨_, (decide ((bt a0 x5_1) ≤ 90)), (by first | rfl | (simp; done) | (simp [*]; done)), H', ⟨by have := HK1.out; have := HJ2.out; first | omega | exact Nat.le_refl _⟩, by repeat (first | exact Drawn0.refl _ | apply Drawn0.step)⟩
                  · rw [if_neg c10] at H
                    have c10b0 : decide (65 ≤ (bt a0 x5_1)) = false := decide_eq_false c10
                    clear c10
                    have H' := Aside0.mk H
                    clear H
                    have p9 : 0 ≤ (x5_1 : Int) := of_decide_eq_true (by first | (with_reducible assumption) | assumption)
                    have q9 : x5_1 < (a0.size : Int) := of_decide_eq_true (by first | (with_reducible assumption) | assumption)
                    have hx9 := bt_at a0 x5_1
                    replace p9 := eq_true p9
                    replace q9 := eq_true q9
                    go_wp2
                    repeat (go_quiet (fail); try go_wp2)
                    go_meet
                    case rel => exact ⟨_, (false), (by first | rfl | (simp; done) | (simp [*]; done)), H', ⟨by have := HK1.out; have := HJ2.out; first | omega | exact Nat.le_refl _⟩, by repeat (first | exact Drawn0.refl _ | apply Drawn0.step)⟩
                · rw [if_neg c8] at H
                  exact absurd H (by simp)
              · rw [if_neg c7] at H
                exact absurd H (by simp)
            case rest =>
              clear HC6
              try clear c1
              try clear p1
              try clear q1
              try clear hx1
              try clear c2
              try clear p2
              try clear c4
              try clear c4b0
              try clear c5
              try clear c7
              try clear c7b0
              try clear c8
              try clear c8b0
              try clear p9
              try clear q9
              try clear hx9
              try clear c10
              try clear c10b0
              try clear p11
              try clear q11
              try clear hx11
              try clear p11
              try clear p2
              try clear p9
              try clear q11
              try clear q9
              obtain ⟨kq, x27_5, rfl, HA, HJ5, ⟨mc5, rfl⟩⟩ := hcut
              cases kq with
              | zero => exact absurd HA.out (by simp [gjson_stringLessInsensitive.j2])
              | succ kj5 =>
                have H := HA.out
                clear HA
                simp only [gjson_stringLessInsensitive.j2] at H
                by_cases c12 : x27_5 = true
                · subst c12
                  have H1 : (if 0 ≤ x5_1 then (if x5_1 < (a1.size : Int) then (if (bt a1 x5_1) ≥ 65 then (gjson_stringLessInsensitive.j3 kj5 a0 a1 x5_1 (decide ((bt a1 x5_1) ≤ 90))) else (gjson_stringLessInsensitive.j3 kj5 a0 a1 x5_1 false)) else (none)) else (none)) = some r := by rw [if_pos rfl] at H; exact H
                  clear H
                  have H := H1
                  clear H1
                  have HC13 := Aside0.mk H
                  clear H
                  go_upto_region 5 with (fail)
                  repeat (go_quiet (fail); go_upto_region 5 with (fail))
                  go_cut [37] (fun v37 wc => ∃ (kq : Nat) (x37_12 : Bool), v37 = .bool x37_12 ∧ Aside0 (gjson_stringLessInsensitive.j3 kq a0 a1 x5_1 x37_12 = some r) ∧ Aside0 (kq ≤ kj5) ∧ Drawn0 w wc)
                  case first =>
                    have H := HC13.out
                    clear HC13
                    by_cases c14 : 0 ≤ x5_1
                    · rw [if_pos c14] at H
                      have c14b0 : decide (0 ≤ x5_1) = true := decide_eq_true c14
                      clear c14
                      (first | rw [c14b0] | (simp only [i64_w, i32_w]; rw [c14b0]) | skip)
                      by_cases c15 : x5_1 < (a1.size : Int)
                      · rw [if_pos c15] at H
                        have c15b0 : decide (x5_1 < (a1.size : Int)) = true := decide_eq_true c15
                        clear c15
                        by_cases c17 : (bt a1 x5_1) ≥ 65
                        · rw [if_pos c17] at H
                          have c17b0 : decide (65 ≤ (bt a1 x5_1)) = true := decide_eq_true c17
                          clear c17
                          have H' := Aside0.mk H
                          clear H
                          have p16 : 0 ≤ (x5_1 : Int) := of_decide_eq_true (by first | (with_reducible assumption) | assumption)
                          have q16 : x5_1 < (a1.size : Int) := of_decide_eq_true (by first | (with_reducible assumption) | assumption)
                          have hx16 := bt_at a1 x5_1
                          replace p16 := eq_true p16
                          replace q16 := eq_true q16
                          have p18 : 0 ≤ (x5_1 : Int) := of_decide_eq_true (by first | (with_reducible assumption) | assumption)
                          have q18 : x5_1 < (a1.size : Int) := of_decide_eq_true (by first | (with_reducible assumption) | assumption)
                          have hx18 := bt_at a1 x5_1
                          replace p18 := eq_true p18
                          replace q18 := eq_true q18
                          go_wp2
                          repeat (go_quiet (fail); try go_wp2)
                          go_meet
                          case rel => exact ⟨_, (decide ((bt a1 x5_1) ≤ 90)), (by first | rfl | (simp; done) | (simp [*]; done)), H', ⟨by have := HK1.out; have := HJ2.out; have := HJ5.out; first | omega | exact Nat.le_refl _⟩, by repeat (first | exact Drawn0.refl _ | apply Drawn0.step)⟩
                        · rw [if_neg c17] at H
                          have c17b0 : decide (65 ≤ (bt a1 x5_1)) = false := decide_eq_false c17
                          clear c17
                          have H' := Aside0.mk H
                          clear H
                          have p16 : 0 ≤ (x5_1 : Int) := of_decide_eq_true (by first | (with_reducible assumption) | assumption)
                          have q16 : x5_1 < (a1.size : Int) := of_decide_eq_true (by first | (with_reducible assumption) | assumption)
                          have hx16 := bt_at a1 x5_1
                          replace p16 := eq_true p16
                          replace q16 := eq_true q16
                          go_wp2
                          repeat (go_quiet (fail); try go_wp2)
                          go_meet
                          case rel => exact ⟨_, (false), (by first | rfl | (simp; done) | (simp [*]; done)), H', ⟨by have := HK1.out; have := HJ2.out; have := HJ5.out; first | omega | exact Nat.le_refl _⟩, by repeat (first | exact Drawn0.refl _ | apply Drawn0.step)⟩
                      · rw [if_neg c15] at H
                        exact absurd H (by simp)
                    · rw [if_neg c14] at H
                      exact absurd H (by simp)
                  case rest =>
                    clear HC13
                    try clear c1
                    try clear p1
                    try clear q1
                    try clear hx1
                    try clear c2
                    try clear p2
                    try clear c4
                    try clear c4b0
                    try clear c5
                    try clear c7
                    try clear c7b0
                    try clear c8
                    try clear c8b0
                    try clear p9
                    try clear q9
                    try clear hx9
                    try clear c10
                    try clear c10b0
                    try clear p11
                    try clear q11
                    try clear hx11
                    try clear c12
                    try clear c14
                    try clear c14b0
                    try clear c15
                    try clear c15b0
                    try clear p16
                    try clear q16
                    try clear hx16
                    try clear c17
                    try clear c17b0
                    try clear p18
                    try clear q18
                    try clear hx18
                    try clear p1
                    try clear p11
                    try clear p16
                    try clear p18
                    try clear p2
                    try clear p9
                    try clear q1
                    try clear q11
                    try clear q16
                    try clear q18
                    try clear q9
                    obtain ⟨kq, x37_12, rfl, HA, HJ12, ⟨mc12, rfl⟩⟩ := hcut
                    cases kq with
                    | zero => exact absurd HA.out (by simp [gjson_stringLessInsensitive.j3])
                    | succ kj12 =>
                      have H := HA.out
                      clear HA
                      simp only [gjson_stringLessInsensitive.j3] at H
                      by_cases c19 : x37_12 = true
                      · subst c19
                        have H1 : (if 0 ≤ x5_1 then (if x5_1 < (a0.size : Int) then (if x5_1 < (a1.size : Int) then (if (bt a0 x5_1) < (bt a1 x5_1) then (some true) else (if (bt a0 x5_1) > (bt a1 x5_1) then (some false) else (gjson_stringLessInsensitive.l0 kj12 a0 a1 (wrap64 (x5_1 + 1))))) else (none)) else (none)) else (none)) = some r := by rw [if_pos rfl] at H; exact H
                        clear H
                        have H := H1
                        clear H1
                        by_cases c20 : 0 ≤ x5_1
                        · rw [if_pos c20] at H
                          have c20b0 : decide (0 ≤ x5_1) = true := decide_eq_true c20
                          clear c20
                          by_cases c21 : x5_1 < (a0.size : Int)
                          · rw [if_pos c21] at H
                            have c21b0 : decide (x5_1 < (a0.size : Int)) = true := decide_eq_true c21
                            clear c21
                            by_cases c23 : x5_1 < (a1.size : Int)
                            · rw [if_pos c23] at H
                              have c23b0 : decide (x5_1 < (a1.size : Int)) = true := decide_eq_true c23
                              clear c23
                              by_cases c25 : (bt a0 x5_1) < (bt a1 x5_1)
                              · rw [if_pos c25] at H
                                have c25b0 : decide ((bt a0 x5_1) < (bt a1 x5_1)) = true := decide_eq_true c25
                                clear c25
                                obtain rfl := Option.some.inj H
                                have p22 : 0 ≤ (x5_1 : Int) := of_decide_eq_true (by first | (with_reducible assumption) | assumption)
                                have q22 : x5_1 < (a0.size : Int) := of_decide_eq_true (by first | (with_reducible assumption) | assumption)
                                have hx22 := bt_at a0 x5_1
                                replace p22 := eq_true p22
                                replace q22 := eq_true q22
                                have p24 : 0 ≤ (x5_1 : Int) := of_decide_eq_true (by first | (with_reducible assumption) | assumption)
                                have q24 : x5_1 < (a1.size : Int) := of_decide_eq_true (by first | (with_reducible assumption) | assumption)
                                have hx24 := bt_at a1 x5_1
                                replace p24 := eq_true p24
                                replace q24 := eq_true q24
                                go_wp2
                                repeat (go_quiet (fail); try go_wp2)
                                go_ret
                                exact ⟨by first | rfl | (simp; done) | (simp [*]; done), by repeat (first | exact Drawn0.refl _ | apply Drawn0.step)⟩
                              · rw [if_neg c25] at H
                                have c25b0 : decide ((bt a0 x5_1) < (bt a1 x5_1)) = false := decide_eq_false c25
                                clear c25
                                by_cases c28 : (bt a0 x5_1) > (bt a1 x5_1)
                                · rw [if_pos c28] at H
                                  have c28b0 : decide ((bt a1 x5_1) < (bt a0 x5_1)) = true := decide_eq_true c28
                                  clear c28
                                  obtain rfl := Option.some.inj H
                                  have p22 : 0 ≤ (x5_1 : Int) := of_decide_eq_true (by first | (with_reducible assumption) | assumption)
                                  have q22 : x5_1 < (a0.size : Int) := of_decide_eq_true (by first | (with_reducible assumption) | assumption)
                                  have hx22 := bt_at a0 x5_1
                                  replace p22 := eq_true p22
                                  replace q22 := eq_true q22
                                  have p24 : 0 ≤ (x5_1 : Int) := of_decide_eq_true (by first | (with_reducible assumption) | assumption)
                                  have q24 : x5_1 < (a1.size : Int) := of_decide_eq_true (by first | (with_reducible assumption) | assumption)
                                  have hx24 := bt_at a1 x5_1
                                  replace p24 := eq_true p24
                                  replace q24 := eq_true q24
                                  have p26 : 0 ≤ (x5_1 : Int) := of_decide_eq_true (by first | (with_reducible assumption) | assumption)
                                  have q26 : x5_1 < (a0.size : Int) := of_decide_eq_true (by first | (with_reducible assumption) | assumption)
                                  have hx26 := bt_at a0 x5_1
                                  replace p26 := eq_true p26
                                  replace q26 := eq_true q26
                                  have p27 : 0 ≤ (x5_1 : Int) := of_decide_eq_true (by first | (with_reducible assumption) | assumption)
                                  have q27 : x5_1 < (a1.size : Int) := of_decide_eq_true (by first | (with_reducible assumption) | assumption)
                                  have hx27 := bt_at a1 x5_1
                                  replace p27 := eq_true p27
                                  replace q27 := eq_true q27
                                  go_wp2
                                  repeat (go_quiet (fail); try go_wp2)
                                  go_ret
                                  exact ⟨by first | rfl | (simp; done) | (simp [*]; done), by repeat (first | exact Drawn0.refl _ | apply Drawn0.step)⟩
                                · rw [if_neg c28] at H
                                  have c28b0 : decide ((bt a1 x5_1) < (bt a0 x5_1)) = false := decide_eq_false c28
                                  clear c28
                                  have H' := Aside0.mk H
                                  clear H
                                  have p22 : 0 ≤ (x5_1 : Int) := of_decide_eq_true (by first | (with_reducible assumption) | assumption)
                                  have q22 : x5_1 < (a0.size : Int) := of_decide_eq_true (by first | (with_reducible assumption) | assumption)
                                  have hx22 := bt_at a0 x5_1
                                  replace p22 := eq_true p22
                                  replace q22 := eq_true q22
                                  have p24 : 0 ≤ (x5_1 : Int) := of_decide_eq_true (by first | (with_reducible assumption) | assumption)
                                  have q24 : x5_1 < (a1.size : Int) := of_decide_eq_true (by first | (with_reducible assumption) | assumption)
                                  have hx24 := bt_at a1 x5_1
                                  replace p24 := eq_true p24
                                  replace q24 := eq_true q24
                                  have p26 : 0 ≤ (x5_1 : Int) := of_decide_eq_true (by first | (with_reducible assumption) | assumption)
                                  have q26 : x5_1 < (a0.size : Int) := of_decide_eq_true (by first | (with_reducible assumption) | assumption)
                                  have hx26 := bt_at a0 x5_1
                                  replace p26 := eq_true p26
                                  replace q26 := eq_true q26
                                  have p27 : 0 ≤ (x5_1 : Int) := of_decide_eq_true (by first | (with_reducible assumption) | assumption)
                                  have q27 : x5_1 < (a1.size : Int) := of_decide_eq_true (by first | (with_reducible assumption) | assumption)
                                  have hx27 := bt_at a1 x5_1
                                  replace p27 := eq_true p27
                                  replace q27 := eq_true q27
                                  go_wp2
                                  repeat (go_quiet (fail); try go_wp2)
                                  go_roundg kj12
                                  case measure => have := HK1.out; have := HJ2.out; have := HJ5.out; have := HJ12.out; omega
                                  case rel => exact ⟨(wrap64 (x5_1 + 1)), (by first | rfl | (simp; done) | (simp [*]; done)), H', ⟨by have := HK1.out; have := HJ2.out; have := HJ5.out; have := HJ12.out; omega⟩, by repeat (first | exact Drawn0.refl _ | apply Drawn0.step)⟩
                            · rw [if_neg c23] at H
                              exact absurd H (by simp)
                          · rw [if_neg c21] at H
                            exact absurd H (by simp)
                        · rw [if_neg c20] at H
                          exact absurd H (by simp)
                      · replace c19 := Bool.eq_false_iff.mpr c19
                        subst c19
                        have H1 : (if 0 ≤ x5_1 then (if x5_1 < (a0.size : Int) then (if x5_1 < (a1.size : Int) then (if (((bt a0 x5_1) + 32) % 256) < (bt a1 x5_1) then (some true) else (if (((bt a0 x5_1) + 32) % 256) > (bt a1 x5_1) then (some false) else (gjson_stringLessInsensitive.l0 kj12 a0 a1 (wrap64 (x5_1 + 1))))) else (none)) else (none)) else (none)) = some r := by rw [if_neg (show ¬ (false = true) by decide)] at H; exact H
                        clear H
                        have H := H1
                        clear H1
                        by_cases c29 : 0 ≤ x5_1
                        · rw [if_pos c29] at H
                          have c29b0 : decide (0 ≤ x5_1) = true := decide_eq_true c29
                          clear c29
                          by_cases c30 : x5_1 < (a0.size : Int)
                          · rw [if_pos c30] at H
                            have c30b0 : decide (x5_1 < (a0.size : Int)) = true := decide_eq_true c30
                            clear c30
                            by_cases c32 : x5_1 < (a1.size : Int)
                            · rw [if_pos c32] at H
                              have c32b0 : decide (x5_1 < (a1.size : Int)) = true := decide_eq_true c32
                              clear c32
                              by_cases c34 : (((bt a0 x5_1) + 32) % 256) < (bt a1 x5_1)
                              · rw [if_pos c34] at H
                                have c34b0 : decide ((((bt a0 x5_1) + 32) % 256) < (bt a1 x5_1)) = true := decide_eq_true c34
                                clear c34
                                obtain rfl := Option.some.inj H
                                have p31 : 0 ≤ (x5_1 : Int) := of_decide_eq_true (by first | (with_reducible assumption) | assumption)
                                have q31 : x5_1 < (a0.size : Int) := of_decide_eq_true (by first | (with_reducible assumption) | assumption)
                                have hx31 := bt_at a0 x5_1
                                replace p31 := eq_true p31
                                replace q31 := eq_true q31
                                have p33 : 0 ≤ (x5_1 : Int) := of_decide_eq_true (by first | (with_reducible assumption) | assumption)
                                have q33 : x5_1 < (a1.size : Int) := of_decide_eq_true (by first | (with_reducible assumption) | assumption)
                                have hx33 := bt_at a1 x5_1
                                replace p33 := eq_true p33
                                replace q33 := eq_true q33
                                go_wp2
                                repeat (go_quiet (fail); try go_wp2)
                                go_ret
                                exact ⟨by first | rfl | (simp; done) | (simp [*]; done), by repeat (first | exact Drawn0.refl _ | apply Drawn0.step)⟩
                              · rw [if_neg c34] at H
                                have c34b0 : decide ((((bt a0 x5_1) + 32) % 256) < (bt a1 x5_1)) = false := decide_eq_false c34
                                clear c34
                                by_cases c37 : (((bt a0 x5_1) + 32) % 256) > (bt a1 x5_1)
                                · rw [if_pos c37] at H
                                  have c37b0 : decide ((bt a1 x5_1) < (((bt a0 x5_1) + 32) % 256)) = true := decide_eq_true c37
                                  clear c37
                                  obtain rfl := Option.some.inj H
                                  have p31 : 0 ≤ (x5_1 : Int) := of_decide_eq_true (by first | (with_reducible assumption) | assumption)
                                  have q31 : x5_1 < (a0.size : Int) := of_decide_eq_true (by first | (with_reducible assumption) | assumption)
                                  have hx31 := bt_at a0 x5_1
                                  replace p31 := eq_true p31
                                  replace q31 := eq_true q31
                                  have p33 : 0 ≤ (x5_1 : Int) := of_decide_eq_true (by first | (with_reducible assumption) | assumption)
                                  have q33 : x5_1 < (a1.size : Int) := of_decide_eq_true (by first | (with_reducible assumption) | assumption)
                                  have hx33 := bt_at a1 x5_1
                                  replace p33 := eq_true p33
                                  replace q33 := eq_true q33
                                  have p35 : 0 ≤ (x5_1 : Int) := of_decide_eq_true (by first | (with_reducible assumption) | assumption)
                                  have q35 : x5_1 < (a0.size : Int) := of_decide_eq_true (by first | (with_reducible assumption) | assumption)
                                  have hx35 := bt_at a0 x5_1
                                  replace p35 := eq_true p35
                                  replace q35 := eq_true q35
                                  have p36 : 0 ≤ (x5_1 : Int) := of_decide_eq_true (by first | (with_reducible assumption) | assumption)
                                  have q36 : x5_1 < (a1.size : Int) := of_decide_eq_true (by first | (with_reducible assumption) | assumption)
                                  have hx36 := bt_at a1 x5_1
                                  replace p36 := eq_true p36
                                  replace q36 := eq_true q36
                                  go_wp2
                                  repeat (go_quiet (fail); try go_wp2)
                                  go_ret
                                  exact ⟨by first | rfl | (simp; done) | (simp [*]; done), by repeat (first | exact Drawn0.refl _ | apply Drawn0.step)⟩
                                · rw [if_neg c37] at H
                                  have c37b0 : decide ((bt a1 x5_1) < (((bt a0 x5_1) + 32) % 256)) = false := decide_eq_false c37
                                  clear c37
                                  have H' := Aside0.mk H
                                  clear H
                                  have p31 : 0 ≤ (x5_1 : Int) := of_decide_eq_true (by first | (with_reducible assumption) | assumption)
                                  have q31 : x5_1 < (a0.size : Int) := of_decide_eq_true (by first | (with_reducible assumption) | assumption)
                                  have hx31 := bt_at a0 x5_1
                                  replace p31 := eq_true p31
                                  replace q31 := eq_true q31
                                  have p33 : 0 ≤ (x5_1 : Int) := of_decide_eq_true (by first | (with_reducible assumption) | assumption)
                                  have q33 : x5_1 < (a1.size : Int) := of_decide_eq_true (by first | (with_reducible assumption) | assumption)
                                  have hx33 := bt_at a1 x5_1
                                  replace p33 := eq_true p33
                                  replace q33 := eq_true q33
                                  have p35 : 0 ≤ (x5_1 : Int) := of_decide_eq_true (by first | (with_reducible assumption) | assumption)
                                  have q35 : x5_1 < (a0.size : Int) := of_decide_eq_true (by first | (with_reducible assumption) | assumption)
                                  have hx35 := bt_at a0 x5_1
                                  replace p35 := eq_true p35
                                  replace q35 := eq_true q35
                                  have p36 : 0 ≤ (x5_1 : Int) := of_decide_eq_true (by first | (with_reducible assumption) | assumption)
                                  have q36 : x5_1 < (a1.size : Int) := of_decide_eq_true (by first | (with_reducible assumption) | assumption)
                                  have hx36 := bt_at a1 x5_1
                                  replace p36 := eq_true p36
                                  replace q36 := eq_true q36
                                  go_wp2
                                  repeat (go_quiet (fail); try go_wp2)
                                  go_roundg kj12
                                  case measure => have := HK1.out; have := HJ2.out; have := HJ5.out; have := HJ12.out; omega
                                  case rel => exact ⟨(wrap64 (x5_1 + 1)), (by first | rfl | (simp; done) | (simp [*]; done)), H', ⟨by have := HK1.out; have := HJ2.out; have := HJ5.out; have := HJ12.out; omega⟩, by repeat (first | exact Drawn0.refl _ | apply Drawn0.step)⟩
                            · rw [if_neg c32] at H
                              exact absurd H (by simp)
                          · rw [if_neg c30] at H
                            exact absurd H (by simp)
                        · rw [if_neg c29] at H
                          exact absurd H (by simp)
                · replace c12 := Bool.eq_false_iff.mpr c12
                  subst c12
                  have H1 : (if 0 ≤ x5_1 then (if x5_1 < (a1.size : Int) then (if (bt a1 x5_1) ≥ 65 then (gjson_stringLessInsensitive.j4 kj5 a0 a1 x5_1 (decide ((bt a1 x5_1) ≤ 90))) else (gjson_stringLessInsensitive.j4 kj5 a0 a1 x5_1 false)) else (none)) else (none)) = some r := by rw [if_neg (show ¬ (false = true) by decide)] at H; exact H
                  clear H
                  have H := H1
                  clear H1
                  have HC38 := Aside0.mk H
                  clear H
                  go_upto_region 14 with (fail)
                  repeat (go_quiet (fail); go_upto_region 14 with (fail))
                  go_cut [77] (fun v77 wc => ∃ (kq : Nat) (x77_37 : Bool), v77 = .bool x77_37 ∧ Aside0 (gjson_stringLessInsensitive.j4 kq a0 a1 x5_1 x77_37 = some r) ∧ Aside0 (kq ≤ kj5) ∧ Drawn0 w wc)
                  case first =>
                    have H := HC38.out
                    clear HC38
                    by_cases c39 : 0 ≤ x5_1
                    · rw [if_pos c39] at H
                      have c39b0 : decide (0 ≤ x5_1) = true := decide_eq_true c39
                      clear c39
                      (first | rw [c39b0] | (simp only [i64_w, i32_w]; rw [c39b0]) | skip)
                      by_cases c40 : x5_1 < (a1.size : Int)
                      · rw [if_pos c40] at H
                        have c40b0 : decide (x5_1 < (a1.size : Int)) = true := decide_eq_true c40
                        clear c40
                        by_cases c42 : (bt a1 x5_1) ≥ 65
                        · rw [if_pos c42] at H
                          have c42b0 : decide (65 ≤ (bt a1 x5_1)) = true := decide_eq_true c42
                          clear c42
                          have H' := Aside0.mk H
                          clear H
                          have p41 : 0 ≤ (x5_1 : Int) := of_decide_eq_true (by first | (with_reducible assumption) | assumption)
                          have q41 : x5_1 < (a1.size : Int) := of_decide_eq_true (by first | (with_reducible assumption) | assumption)
                          have hx41 := bt_at a1 x5_1
                          replace p41 := eq_true p41
                          replace q41 := eq_true q41
                          have p43 : 0 ≤ (x5_1 : Int) := of_decide_eq_true (by first | (with_reducible assumption) | assumption)
                          have q43 : x5_1 < (a1.size : Int) := of_decide_eq_true (by first | (with_reducible assumption) | assumption)
                          have hx43 := bt_at a1 x5_1
                          replace p43 := eq_true p43
                          replace q43 := eq_true q43
                          go_wp2
                          repeat (go_quiet (fail); try go_wp2)
                          go_meet
                          case rel => exact ⟨_, (decide ((bt a1 x5_1) ≤ 90)), (by first | rfl | (simp; done) | (simp [*]; done)), H', ⟨by have := HK1.out; have := HJ2.out; have := HJ5.out; first | omega | exact Nat.le_refl _⟩, by repeat (first | exact Drawn0.refl _ | apply Drawn0.step)⟩
                        · rw [if_neg c42] at H
                          have c42b0 : decide (65 ≤ (bt a1 x5_1)) = false := decide_eq_false c42
                          clear c42
                          have H' := Aside0.mk H
                          clear H
                          have p41 : 0 ≤ (x5_1 : Int) := of_decide_eq_true (by first | (with_reducible assumption) | assumption)
                          have q41 : x5_1 < (a1.size : Int) := of_decide_eq_true (by first | (with_reducible assumption) | assumption)
                          have hx41 := bt_at a1 x5_1
                          replace p41 := eq_true p41
                          replace q41 := eq_true q41
                          go_wp2
                          repeat (go_quiet (fail); try go_wp2)
                          go_meet
                          case rel => exact ⟨_, (false), (by first | rfl | (simp; done) | (simp [*]; done)), H', ⟨by have := HK1.out; have := HJ2.out; have := HJ5.out; first | omega | exact Nat.le_refl _⟩, by repeat (first | exact Drawn0.refl _ | apply Drawn0.step)⟩
                      · rw [if_neg c40] at H
                        exact absurd H (by simp)
                    · rw [if_neg c39] at H
                      exact absurd H (by simp)
                  case rest =>
                    clear HC38
                    try clear c1
                    try clear p1
                    try clear q1
                    try clear hx1
                    try clear c2
                    try clear p2
                    try clear q2
                    try clear hx2
                    try clear c3
                    try clear p3
                    try clear q3
                    try clear hx3
                    try clear c4
                    try clear c4b0
                    try clear p4
                    try clear q4
                    try clear hx4
                    try clear c5
                    try clear p6
                    try clear c7
                    try clear c7b0
                    try clear c8
                    try clear c8b0
                    try clear p9
                    try clear q9
                    try clear hx9
                    try clear c10
                    try clear c10b0
                    try clear p11
                    try clear q11
                    try clear hx11
                    try clear c12
                    try clear c14
                    try clear c14b0
                    try clear c15
                    try clear c15b0
                    try clear p16
                    try clear q16
                    try clear hx16
                    try clear c17
                    try clear c17b0
                    try clear p18
                    try clear q18
                    try clear hx18
                    try clear c19
                    try clear c20
                    try clear c20b0
                    try clear c21
                    try clear c21b0
                    try clear p22
                    try clear q22
                    try clear hx22
                    try clear c23
                    try clear c23b0
                    try clear p24
                    try clear q24
                    try clear hx24
                    try clear c25
                    try clear c25b0
                    try clear p26
                    try clear q26
                    try clear hx26
                    try clear p27
                    try clear q27
                    try clear hx27
                    try clear c28
                    try clear c28b0
                    try clear c29
                    try clear c29b0
                    try clear c30
                    try clear c30b0
                    try clear p31
                    try clear q31
                    try clear hx31
                    try clear c32
                    try clear c32b0
                    try clear p33
                    try clear q33
                    try clear hx33
                    try clear c34
                    try clear c34b0
                    try clear p35
                    try clear q35
                    try clear hx35
                    try clear p36
                    try clear q36
                    try clear hx36
                    try clear c37
                    try clear c37b0
                    try clear c39
                    try clear c39b0
                    try clear c40
                    try clear c40b0
                    try clear p41
                    try clear q41
                    try clear hx41
                    try clear c42
                    try clear c42b0
                    try clear p43
                    try clear q43
                    try clear hx43
                    try clear p1
                    try clear p11
                    try clear p16
                    try clear p18
                    try clear p2
                    try clear p22
                    try clear p24
                    try clear p26
                    try clear p27
                    try clear p31
                    try clear p33
                    try clear p35
                    try clear p36
                    try clear p41
                    try clear p43
                    try clear p9
                    try clear q1
                    try clear q11
                    try clear q16
                    try clear q18
                    try clear q22
                    try clear q24
                    try clear q26
                    try clear q27
                    try clear q31
                    try clear q33
                    try clear q35
                    try clear q36
                    try clear q41
                    try clear q43
                    try clear q9
                    obtain ⟨kq, x77_37, rfl, HA, HJ37, ⟨mc37, rfl⟩⟩ := hcut
                    cases kq with
                    | zero => exact absurd HA.out (by simp [gjson_stringLessInsensitive.j4])
                    | succ kj37 =>
                      have H := HA.out
                      clear HA
                      simp only [gjson_stringLessInsensitive.j4] at H
                      by_cases c44 : x77_37 = true
                      · subst c44
                        have H1 : (if 0 ≤ x5_1 then (if x5_1 < (a0.size : Int) then (if x5_1 < (a1.size : Int) then (if (bt a0 x5_1) < (((bt a1 x5_1) + 32) % 256) then (some true) else (if (bt a0 x5_1) > (((bt a1 x5_1) + 32) % 256) then (some false) else (gjson_stringLessInsensitive.l0 kj37 a0 a1 (wrap64 (x5_1 + 1))))) else (none)) else (none)) else (none)) = some r := by rw [if_pos rfl] at H; exact H
                        clear H
                        have H := H1
                        clear H1
                        by_cases c45 : 0 ≤ x5_1
                        · rw [if_pos c45] at H
                          have c45b0 : decide (0 ≤ x5_1) = true := decide_eq_true c45
                          clear c45
                          by_cases c46 : x5_1 < (a0.size : Int)
                          · rw [if_pos c46] at H
                            have c46b0 : decide (x5_1 < (a0.size : Int)) = true := decide_eq_true c46
                            clear c46
                            by_cases c48 : x5_1 < (a1.size : Int)
                            · rw [if_pos c48] at H
                              have c48b0 : decide (x5_1 < (a1.size : Int)) = true := decide_eq_true c48
                              clear c48
                              by_cases c50 : (bt a0 x5_1) < (((bt a1 x5_1) + 32) % 256)
                              · rw [if_pos c50] at H
                                have c50b0 : decide ((bt a0 x5_1) < (((bt a1 x5_1) + 32) % 256)) = true := decide_eq_true c50
                                clear c50
                                obtain rfl := Option.some.inj H
                                have p47 : 0 ≤ (x5_1 : Int) := of_decide_eq_true (by first | (with_reducible assumption) | assumption)
                                have q47 : x5_1 < (a0.size : Int) := of_decide_eq_true (by first | (with_reducible assumption) | assumption)
                                have hx47 := bt_at a0 x5_1
                                replace p47 := eq_true p47
                                replace q47 := eq_true q47
                                have p49 : 0 ≤ (x5_1 : Int) := of_decide_eq_true (by first | (with_reducible assumption) | assumption)
                                have q49 : x5_1 < (a1.size : Int) := of_decide_eq_true (by first | (with_reducible assumption) | assumption)
                                have hx49 := bt_at a1 x5_1
                                replace p49 := eq_true p49
                                replace q49 := eq_true q49
                                go_wp2
                                repeat (go_quiet (fail); try go_wp2)
                                go_ret
                                exact ⟨by first | rfl | (simp; done) | (simp [*]; done), by repeat (first | exact Drawn0.refl _ | apply Drawn0.step)⟩
                              · rw [if_neg c50] at H
                                have c50b0 : decide ((bt a0 x5_1) < (((bt a1 x5_1) + 32) % 256)) = false := decide_eq_false c50
                                clear c50
                                by_cases c53 : (bt a0 x5_1) > (((bt a1 x5_1) + 32) % 256)
                                · rw [if_pos c53] at H
                                  have c53b0 : decide ((((bt a1 x5_1) + 32) % 256) < (bt a0 x5_1)) = true := decide_eq_true c53
                                  clear c53
                                  obtain rfl := Option.some.inj H
                                  have p47 : 0 ≤ (x5_1 : Int) := of_decide_eq_true (by first | (with_reducible assumption) | assumption)
                                  have q47 : x5_1 < (a0.size : Int) := of_decide_eq_true (by first | (with_reducible assumption) | assumption)
                                  have hx47 := bt_at a0 x5_1
                                  replace p47 := eq_true p47
                                  replace q47 := eq_true q47
                                  have p49 : 0 ≤ (x5_1 : Int) := of_decide_eq_true (by first | (with_reducible assumption) | assumption)
                                  have q49 : x5_1 < (a1.size : Int) := of_decide_eq_true (by first | (with_reducible assumption) | assumption)
                                  have hx49 := bt_at a1 x5_1
                                  replace p49 := eq_true p49
                                  replace q49 := eq_true q49
                                  have p51 : 0 ≤ (x5_1 : Int) := of_decide_eq_true (by first | (with_reducible assumption) | assumption)
                                  have q51 : x5_1 < (a0.size : Int) := of_decide_eq_true (by first | (with_reducible assumption) | assumption)
                                  have hx51 := bt_at a0 x5_1
                                  replace p51 := eq_true p51
                                  replace q51 := eq_true q51
                                  have p52 : 0 ≤ (x5_1 : Int) := of_decide_eq_true (by first | (with_reducible assumption) | assumption)
                                  have q52 : x5_1 < (a1.size : Int) := of_decide_eq_true (by first | (with_reducible assumption) | assumption)
                                  have hx52 := bt_at a1 x5_1
                                  replace p52 := eq_true p52
                                  replace q52 := eq_true q52
                                  go_wp2
                                  repeat (go_quiet (fail); try go_wp2)
                                  go_ret
                                  exact ⟨by first | rfl | (simp; done) | (simp [*]; done), by repeat (first | exact Drawn0.refl _ | apply Drawn0.step)⟩
                                · rw [if_neg c53] at H
                                  have c53b0 : decide ((((bt a1 x5_1) + 32) % 256) < (bt a0 x5_1)) = false := decide_eq_false c53
                                  clear c53
                                  have H' := Aside0.mk H
                                  clear H
                                  have p47 : 0 ≤ (x5_1 : Int) := of_decide_eq_true (by first | (with_reducible assumption) | assumption)
                                  have q47 : x5_1 < (a0.size : Int) := of_decide_eq_true (by first | (with_reducible assumption) | assumption)
                                  have hx47 := bt_at a0 x5_1
                                  replace p47 := eq_true p47
                                  replace q47 := eq_true q47
                                  have p49 : 0 ≤ (x5_1 : Int) := of_decide_eq_true (by first | (with_reducible assumption) | assumption)
                                  have q49 : x5_1 < (a1.size : Int) := of_decide_eq_true (by first | (with_reducible assumption) | assumption)
                                  have hx49 := bt_at a1 x5_1
                                  replace p49 := eq_true p49
                                  replace q49 := eq_true q49
                                  have p51 : 0 ≤ (x5_1 : Int) := of_decide_eq_true (by first | (with_reducible assumption) | assumption)
                                  have q51 : x5_1 < (a0.size : Int) := of_decide_eq_true (by first | (with_reducible assumption) | assumption)
                                  have hx51 := bt_at a0 x5_1
                                  replace p51 := eq_true p51
                                  replace q51 := eq_true q51
                                  have p52 : 0 ≤ (x5_1 : Int) := of_decide_eq_true (by first | (with_reducible assumption) | assumption)
                                  have q52 : x5_1 < (a1.size : Int) := of_decide_eq_true (by first | (with_reducible assumption) | assumption)
                                  have hx52 := bt_at a1 x5_1
                                  replace p52 := eq_true p52
                                  replace q52 := eq_true q52
                                  go_wp2
                                  repeat (go_quiet (fail); try go_wp2)
                                  go_roundg kj37
                                  case measure => have := HK1.out; have := HJ2.out; have := HJ5.out; have := HJ37.out; omega
                                  case rel => exact ⟨(wrap64 (x5_1 + 1)), (by first | rfl | (simp; done) | (simp [*]; done)), H', ⟨by have := HK1.out; have := HJ2.out; have := HJ5.out; have := HJ37.out; omega⟩, by repeat (first | exact Drawn0.refl _ | apply Drawn0.step)⟩
                            · rw [if_neg c48] at H
                              exact absurd H (by simp)
                          · rw [if_neg c46] at H
                            exact absurd H (by simp)
                        · rw [if_neg c45] at H
                          exact absurd H (by simp)
                      · replace c44 := Bool.eq_false_iff.mpr c44
                        subst c44
                        have H1 : (if 0 ≤ x5_1 then (if x5_1 < (a0.size : Int) then (if x5_1 < (a1.size : Int) then (if (bt a0 x5_1) < (bt a1 x5_1) then (some true) else (if (bt a0 x5_1) > (bt a1 x5_1) then (some false) else (gjson_stringLessInsensitive.l0 kj37 a0 a1 (wrap64 (x5_1 + 1))))) else (none)) else (none)) else (none)) = some r := by rw [if_neg (show ¬ (false = true) by decide)] at H; exact H
                        clear H
                        have H := H1
                        clear H1
                        by_cases c54 : 0 ≤ x5_1
                        · rw [if_pos c54] at H
                          have c54b0 : decide (0 ≤ x5_1) = true := decide_eq_true c54
                          clear c54
                          by_cases c55 : x5_1 < (a0.size : Int)
                          · rw [if_pos c55] at H
                            have c55b0 : decide (x5_1 < (a0.size : Int)) = true := decide_eq_true c55
                            clear c55
                            by_cases c57 : x5_1 < (a1.size : Int)
                            · rw [if_pos c57] at H
                              have c57b0 : decide (x5_1 < (a1.size : Int)) = true := decide_eq_true c57
                              clear c57
                              by_cases c59 : (bt a0 x5_1) < (bt a1 x5_1)
                              · rw [if_pos c59] at H
                                have c59b0 : decide ((bt a0 x5_1) < (bt a1 x5_1)) = true := decide_eq_true c59
                                clear c59
                                obtain rfl := Option.some.inj H
                                have p56 : 0 ≤ (x5_1 : Int) := of_decide_eq_true (by first | (with_reducible assumption) | assumption)
                                have q56 : x5_1 < (a0.size : Int) := of_decide_eq_true (by first | (with_reducible assumption) | assumption)
                                have hx56 := bt_at a0 x5_1
                                replace p56 := eq_true p56
                                replace q56 := eq_true q56
                                have p58 : 0 ≤ (x5_1 : Int) := of_decide_eq_true (by first | (with_reducible assumption) | assumption)
                                have q58 : x5_1 < (a1.size : Int) := of_decide_eq_true (by first | (with_reducible assumption) | assumption)
                                have hx58 := bt_at a1 x5_1
                                replace p58 := eq_true p58
                                replace q58 := eq_true q58
                                go_wp2
                                repeat (go_quiet (fail); try go_wp2)
                                go_ret
                                exact ⟨by first | rfl | (simp; done) | (simp [*]; done), by repeat (first | exact Drawn0.refl _ | apply Drawn0.step)⟩
                              · rw [if_neg c59] at H
                                have c59b0 : decide ((bt a0 x5_1) < (bt a1 x5_1)) = false := decide_eq_false c59
                                clear c59
                                by_cases c62 : (bt a0 x5_1) > (bt a1 x5_1)
                                · rw [if_pos c62] at H
                                  have c62b0 : decide ((bt a1 x5_1) < (bt a0 x5_1)) = true := decide_eq_true c62
                                  clear c62
                                  obtain rfl := Option.some.inj H
                                  have p56 : 0 ≤ (x5_1 : Int) := of_decide_eq_true (by first | (with_reducible assumption) | assumption)
                                  have q56 : x5_1 < (a0.size : Int) := of_decide_eq_true (by first | (with_reducible assumption) | assumption)
                                  have hx56 := bt_at a0 x5_1
                                  replace p56 := eq_true p56
                                  replace q56 := eq_true q56
                                  have p58 : 0 ≤ (x5_1 : Int) := of_decide_eq_true (by first | (with_reducible assumption) | assumption)
                                  have q58 : x5_1 < (a1.size : Int) := of_decide_eq_true (by first | (with_reducible assumption) | assumption)
                                  have hx58 := bt_at a1 x5_1
                                  replace p58 := eq_true p58
                                  replace q58 := eq_true q58
                                  have p60 : 0 ≤ (x5_1 : Int) := of_decide_eq_true (by first | (with_reducible assumption) | assumption)
                                  have q60 : x5_1 < (a0.size : Int) := of_decide_eq_true (by first | (with_reducible assumption) | assumption)
                                  have hx60 := bt_at a0 x5_1
                                  replace p60 := eq_true p60
                                  replace q60 := eq_true q60
                                  have p61 : 0 ≤ (x5_1 : Int) := of_decide_eq_true (by first | (with_reducible assumption) | assumption)
                                  have q61 : x5_1 < (a1.size : Int) := of_decide_eq_true (by first | (with_reducible assumption) | assumption)
                                  have hx61 := bt_at a1 x5_1
                                  replace p61 := eq_true p61
                                  replace q61 := eq_true q61
                                  go_wp2
                                  repeat (go_quiet (fail); try go_wp2)
                                  go_ret
                                  exact ⟨by first | rfl | (simp; done) | (simp [*]; done), by repeat (first | exact Drawn0.refl _ | apply Drawn0.step)⟩
                                · rw [if_neg c62] at H
                                  have c62b0 : decide ((bt a1 x5_1) < (bt a0 x5_1)) = false := decide_eq_false c62
                                  clear c62
                                  have H' := Aside0.mk H
                                  clear H
                                  have p56 : 0 ≤ (x5_1 : Int) := of_decide_eq_true (by first | (with_reducible assumption) | assumption)
                                  have q56 : x5_1 < (a0.size : Int) := of_decide_eq_true (by first | (with_reducible assumption) | assumption)
                                  have hx56 := bt_at a0 x5_1
                                  replace p56 := eq_true p56
                                  replace q56 := eq_true q56
                                  have p58 : 0 ≤ (x5_1 : Int) := of_decide_eq_true (by first | (with_reducible assumption) | assumption)
                                  have q58 : x5_1 < (a1.size : Int) := of_decide_eq_true (by first | (with_reducible assumption) | assumption)
                                  have hx58 := bt_at a1 x5_1
                                  replace p58 := eq_true p58
                                  replace q58 := eq_true q58
                                  have p60 : 0 ≤ (x5_1 : Int) := of_decide_eq_true (by first | (with_reducible assumption) | assumption)
                                  have q60 : x5_1 < (a0.size : Int) := of_decide_eq_true (by first | (with_reducible assumption) | assumption)
                                  have hx60 := bt_at a0 x5_1
                                  replace p60 := eq_true p60
                                  replace q60 := eq_true q60
                                  have p61 : 0 ≤ (x5_1 : Int) := of_decide_eq_true (by first | (with_reducible assumption) | assumption)
                                  have q61 : x5_1 < (a1.size : Int) := of_decide_eq_true (by first | (with_reducible assumption) | assumption)
                                  have hx61 := bt_at a1 x5_1
                                  replace p61 := eq_true p61
                                  replace q61 := eq_true q61
                                  go_wp2
                                  repeat (go_quiet (fail); try go_wp2)
                                  go_roundg kj37
                                  case measure => have := HK1.out; have := HJ2.out; have := HJ5.out; have := HJ37.out; omega
                                  case rel => exact ⟨(wrap64 (x5_1 + 1)), (by first | rfl | (simp; done) | (simp [*]; done)), H', ⟨by have := HK1.out; have := HJ2.out; have := HJ5.out; have := HJ37.out; omega⟩, by repeat (first | exact Drawn0.refl _ | apply Drawn0.step)⟩
                            · rw [if_neg c57] at H
                              exact absurd H (by simp)
                          · rw [if_neg c55] at H
                            exact absurd H (by simp)
                        · rw [if_neg c54] at H
                          exact absurd H (by simp)
          · replace c5 := Bool.eq_false_iff.mpr c5
            subst c5
            have H1 : (some (decide ((a0.size : Int) < (a1.size : Int)))) = some r := by rw [if_neg (show ¬ (false = true) by decide)] at H; exact H
            clear H
            have H := H1
            clear H1
            obtain rfl := Option.some.inj H
            go_wp2
            repeat (go_quiet (fail); try go_wp2)
            go_ret
            exact ⟨by first | rfl | (simp; done) | (simp [*]; done), by repeat (first | exact Drawn0.refl _ | apply Drawn0.step)⟩

end Go.Proofs.YtbpiooeklkjilaaDoor.PFnGjLessFold
