/- splitPossiblePipe, where no byte 123 stands first and no byte 35 behind a dot. -/
import Derived.Test.YtjpbjbcdobibbaaPFnGjSplitPipex0
namespace Go.Proofs.Ytjpbjbcdobibbaa.PFnGjSplitPipe
open Go.RowKit Go.Proofs.YtjpbjbcdobibbaaW.PrintWords Go.Proofs.YtjpbjbcdobibbaaW.PrintLast Go.Proofs.YtjpbjbcdobibbaaW.PrintMore
attribute [local go_sem] max2_int min2_int max_two min_two max_three min_three max_four min_four   -- for this text's walks alone
set_option linter.unusedVariables false
set_option linter.unusedSimpArgs false

/-! ### gjson_splitPossiblePipe: function 11 -/
mutual
def gjson_splitPossiblePipe.j1 : Nat → ByteArray → ByteArray → ByteArray → Bool → Bool → Option (ByteArray × ByteArray × Bool)
  | 0, _, _, _, _, _ => none
  | k + 1, x0, x2, x3, x4, x5 => if x5 = true then (if (x0.size : Int) > 0 then (if 0 < (x0.size : Int) then (gjson_splitPossiblePipe.j2 k x0 x2 x3 x4 ((bt x0 0) == 123)) else (none)) else (gjson_splitPossiblePipe.j2 k x0 x2 x3 x4 false)) else (some (x2, x3, x4))
def gjson_splitPossiblePipe.j2 : Nat → ByteArray → ByteArray → ByteArray → Bool → Bool → Option (ByteArray × ByteArray × Bool)
  | 0, _, _, _, _, _ => none
  | k + 1, x0, x2, x3, x4, x32 => if x32 = true then (none) else (gjson_splitPossiblePipe.l1 k x0 x2 x3 x4 0)
def gjson_splitPossiblePipe.l1 : Nat → ByteArray → ByteArray → ByteArray → Bool → Int → Option (ByteArray × ByteArray × Bool)
  | 0, _, _, _, _, _ => none
  | k + 1, x0, x2, x3, x4, x9 => if x9 < (x0.size : Int) then (if 0 ≤ x9 then (if (bt x0 x9) = 92 then (gjson_splitPossiblePipe.l1 k x0 x2 x3 x4 (wrap64 ((wrap64 (x9 + 1)) + 1))) else (if (bt x0 x9) = 46 then (if x9 = (wrap64 ((x0.size : Int) - 1)) then (some (x2, x3, x4)) else (if 0 ≤ (wrap64 (x9 + 1)) then (if (wrap64 (x9 + 1)) < (x0.size : Int) then (if (bt x0 (wrap64 (x9 + 1))) = 35 then (none) else (gjson_splitPossiblePipe.l1 k x0 x2 x3 x4 (wrap64 (x9 + 1)))) else (none)) else (none))) else (if (bt x0 x9) = 124 then (if x9 ≤ (x0.size : Int) then (if 0 ≤ (wrap64 (x9 + 1)) then (if (wrap64 (x9 + 1)) ≤ (x0.size : Int) then (some (x0.extract 0 (x9 : Int).toNat, x0.extract ((wrap64 (x9 + 1)) : Int).toNat x0.size, true)) else (none)) else (none)) else (none)) else (gjson_splitPossiblePipe.l1 k x0 x2 x3 x4 (wrap64 (x9 + 1)))))) else (none)) else (some (x2, x3, x4))
def gjson_splitPossiblePipe.l0 : Nat → ByteArray → ByteArray → ByteArray → Bool → Bool → Int → Option (ByteArray × ByteArray × Bool)
  | 0, _, _, _, _, _, _ => none
  | k + 1, x0, x2, x3, x4, x5, x6 => if x6 < (x0.size : Int) then (if 0 ≤ x6 then (if (bt x0 x6) = 124 then (gjson_splitPossiblePipe.j1 k x0 x2 x3 x4 true) else (gjson_splitPossiblePipe.l0 k x0 x2 x3 x4 x5 (wrap64 (x6 + 1)))) else (none)) else (gjson_splitPossiblePipe.j1 k x0 x2 x3 x4 x5)
end
def gjson_splitPossiblePipe.f (k : Nat) (a0 : ByteArray) : Option (ByteArray × ByteArray × Bool) := gjson_splitPossiblePipe.l0 k a0 (⟨#[]⟩ : ByteArray) (⟨#[]⟩ : ByteArray) false false 0
theorem gjson_splitPossiblePipe.mono_l : ∀ k, (∀ y0 y1 y2 y3 y4, LeO (gjson_splitPossiblePipe.j1 k y0 y1 y2 y3 y4) (gjson_splitPossiblePipe.j1 (k + 1) y0 y1 y2 y3 y4)) ∧ (∀ y0 y1 y2 y3 y4, LeO (gjson_splitPossiblePipe.j2 k y0 y1 y2 y3 y4) (gjson_splitPossiblePipe.j2 (k + 1) y0 y1 y2 y3 y4)) ∧ (∀ y0 y1 y2 y3 y4, LeO (gjson_splitPossiblePipe.l1 k y0 y1 y2 y3 y4) (gjson_splitPossiblePipe.l1 (k + 1) y0 y1 y2 y3 y4)) ∧ (∀ y0 y1 y2 y3 y4 y5, LeO (gjson_splitPossiblePipe.l0 k y0 y1 y2 y3 y4 y5) (gjson_splitPossiblePipe.l0 (k + 1) y0 y1 y2 y3 y4 y5))
  | 0 => ⟨fun _ _ _ _ _ r h => by simp [gjson_splitPossiblePipe.j1] at h, fun _ _ _ _ _ r h => by simp [gjson_splitPossiblePipe.j2] at h, fun _ _ _ _ _ r h => by simp [gjson_splitPossiblePipe.l1] at h, fun _ _ _ _ _ _ r h => by simp [gjson_splitPossiblePipe.l0] at h⟩
  | k + 1 => by
    obtain ⟨ih0, ih1, ih2, ih3⟩ := gjson_splitPossiblePipe.mono_l k
    refine ⟨?_, ?_, ?_, ?_⟩
    · intro y0 y1 y2 y3 y4
      unfold gjson_splitPossiblePipe.j1
      repeat' first
      | (with_reducible exact ih0 _ _ _ _ _)
      | (with_reducible exact ih1 _ _ _ _ _)
      | (with_reducible exact ih2 _ _ _ _ _)
      | (with_reducible exact ih3 _ _ _ _ _ _)
      | (with_reducible exact LeO.refl _)
      | (with_reducible exact LeO.none _)
      | (with_reducible refine LeO.ite ?_ ?_)
      | (with_reducible refine LeO.bind ?_ (fun _ => ?_))
    · intro y0 y1 y2 y3 y4
      unfold gjson_splitPossiblePipe.j2
      repeat' first
      | (with_reducible exact ih0 _ _ _ _ _)
      | (with_reducible exact ih1 _ _ _ _ _)
      | (with_reducible exact ih2 _ _ _ _ _)
      | (with_reducible exact ih3 _ _ _ _ _ _)
      | (with_reducible exact LeO.refl _)
      | (with_reducible exact LeO.none _)
      | (with_reducible refine LeO.ite ?_ ?_)
      | (with_reducible refine LeO.bind ?_ (fun _ => ?_))
    · intro y0 y1 y2 y3 y4
      unfold gjson_splitPossiblePipe.l1
      repeat' first
      | (with_reducible exact ih0 _ _ _ _ _)
      | (with_reducible exact ih1 _ _ _ _ _)
      | (with_reducible exact ih2 _ _ _ _ _)
      | (with_reducible exact ih3 _ _ _ _ _ _)
      | (with_reducible exact LeO.refl _)
      | (with_reducible exact LeO.none _)
      | (with_reducible refine LeO.ite ?_ ?_)
      | (with_reducible refine LeO.bind ?_ (fun _ => ?_))
    · intro y0 y1 y2 y3 y4 y5
      unfold gjson_splitPossiblePipe.l0
      repeat' first
      | (with_reducible exact ih0 _ _ _ _ _)
      | (with_reducible exact ih1 _ _ _ _ _)
      | (with_reducible exact ih2 _ _ _ _ _)
      | (with_reducible exact ih3 _ _ _ _ _ _)
      | (with_reducible exact LeO.refl _)
      | (with_reducible exact LeO.none _)
      | (with_reducible refine LeO.ite ?_ ?_)
      | (with_reducible refine LeO.bind ?_ (fun _ => ?_))
theorem gjson_splitPossiblePipe.mono : ∀ a0 k, LeO (gjson_splitPossiblePipe.f k a0) (gjson_splitPossiblePipe.f (k + 1) a0) := by
  intro a0 k
  exact (gjson_splitPossiblePipe.mono_l k).2.2.2 _ _ _ _ _ _
set_option maxHeartbeats 8000000 in
set_option maxRecDepth 100000 in
theorem gjson_splitPossiblePipe.calls (k : Nat) (a0 : ByteArray) (r1 : ByteArray) (r2 : ByteArray) (r3 : Bool) (w : World) (h : gjson_splitPossiblePipe.f k a0 = some (r1, r2, r3)) :
    Calls Try.prog 11 #[.string a0] w fun e w' => e = .returned (.tuple #[.string r1, .string r2, .bool r3]) ∧ Drawn0 w w' := by
  have H : (gjson_splitPossiblePipe.l0 k a0 (⟨#[]⟩ : ByteArray) (⟨#[]⟩ : ByteArray) false false 0) = some (r1, r2, r3) := h
  clear h
  have HC2 := Aside0.mk H
  clear H
  go_enter Try.func11, Try.ntmps11
  go_upto_block 0 with (fail)
  repeat (go_quiet (fail); go_upto_block 0 with (fail))
  go_cut [5] (fun v5 wc => ∃ (kq : Nat) (x5_1 : Bool), v5 = .bool x5_1 ∧ Aside0 (gjson_splitPossiblePipe.j1 kq a0 (⟨#[]⟩ : ByteArray) (⟨#[]⟩ : ByteArray) false x5_1 = some (r1, r2, r3)) ∧ Aside0 (kq ≤ k) ∧ Drawn0 w wc)
  case first =>
    have H := HC2.out
    clear HC2
    have H' := Aside0.mk H
    clear H
    go_wp2
    repeat (go_quiet (fail); try go_wp2)
    go_loopg [5, 6] k (fun kq v5 v6 w' => ∃ (x5_1 : Bool) (x6_1 : Int), v5 = .bool x5_1 ∧ v6 = .int .i64 x6_1 ∧ Aside0 (gjson_splitPossiblePipe.l0 kq a0 (⟨#[]⟩ : ByteArray) (⟨#[]⟩ : ByteArray) false x5_1 x6_1 = some (r1, r2, r3)) ∧ Aside0 (kq ≤ k) ∧ Drawn0 w w')
    case atStart => exact ⟨(false), (0), (by first | rfl | (simp; done) | (simp [*]; done)), (by first | rfl | (simp; done) | (simp [*]; done)), H', ⟨Nat.le_refl _⟩, by repeat (first | exact Drawn0.refl _ | apply Drawn0.step)⟩
    case round =>
      clear H'
      try clear c1
      try clear p2
      obtain ⟨x5_1, x6_1, rfl, rfl, HA, HK1, ⟨m1, rfl⟩⟩ := hrel
      cases gk with
      | zero => exact absurd HA.out (by simp [gjson_splitPossiblePipe.l0])
      | succ k1 =>
        have H := HA.out
        clear HA
        simp only [gjson_splitPossiblePipe.l0] at H
        by_cases c3 : x6_1 < (a0.size : Int)
        · rw [if_pos c3] at H
          have c3b0 : decide (x6_1 < (a0.size : Int)) = true := decide_eq_true c3
          clear c3
          (first | rw [c3b0] | (simp only [i64_w, i32_w]; rw [c3b0]) | skip)
          by_cases c4 : 0 ≤ x6_1
          · rw [if_pos c4] at H
            have c4b0 : decide (0 ≤ x6_1) = true := decide_eq_true c4
            clear c4
            by_cases c6 : (bt a0 x6_1) = 124
            · rw [if_pos c6] at H
              have c6b0 : ((bt a0 x6_1) == 124) = true := beq_iff_eq.mpr c6
              have c6b1 : ((bt a0 x6_1) != 124) = false := bne_eq_false_iff_eq.mpr c6
              clear c6
              have H' := Aside0.mk H
              clear H
              have p5 : 0 ≤ (x6_1 : Int) := of_decide_eq_true (by first | (with_reducible assumption) | assumption)
              have q5 : x6_1 < (a0.size : Int) := of_decide_eq_true (by first | (with_reducible assumption) | assumption)
              have hx5 := bt_at a0 x6_1
              replace p5 := eq_true p5
              replace q5 := eq_true q5
              go_wp2
              repeat (go_quiet (fail); try go_wp2)
              go_meet
              case rel => exact ⟨_, (true), (by first | rfl | (simp; done) | (simp [*]; done)), H', ⟨by have := HK1.out; first | omega | exact Nat.le_refl _⟩, by repeat (first | exact Drawn0.refl _ | apply Drawn0.step)⟩
            · rw [if_neg c6] at H
              have c6b0 : ((bt a0 x6_1) == 124) = false := beq_eq_false_iff_ne.mpr c6
              have c6b1 : ((bt a0 x6_1) != 124) = true := bne_iff_ne.mpr c6
              have H' := Aside0.mk H
              clear H
              have p5 : 0 ≤ (x6_1 : Int) := of_decide_eq_true (by first | (with_reducible assumption) | assumption)
              have q5 : x6_1 < (a0.size : Int) := of_decide_eq_true (by first | (with_reducible assumption) | assumption)
              have hx5 := bt_at a0 x6_1
              replace p5 := eq_true p5
              replace q5 := eq_true q5
              go_wp2
              repeat (go_quiet (fail); try go_wp2)
              go_roundg k1
              case measure => have := HK1.out; omega
              case rel => exact ⟨(x5_1), (wrap64 (x6_1 + 1)), (by first | rfl | (simp; done) | (simp [*]; done)), (by first | rfl | (simp; done) | (simp [*]; done)), H', ⟨by have := HK1.out; omega⟩, by repeat (first | exact Drawn0.refl _ | apply Drawn0.step)⟩
          · rw [if_neg c4] at H
            exact absurd H (by simp)
        · rw [if_neg c3] at H
          have c3b0 : decide (x6_1 < (a0.size : Int)) = false := decide_eq_false c3
          clear c3
          (first | rw [c3b0] | (simp only [i64_w, i32_w]; rw [c3b0]) | skip)
          have H' := Aside0.mk H
          clear H
          go_wp2
          repeat (go_quiet (fail); try go_wp2)
          go_meet
          case rel => exact ⟨_, (x5_1), (by first | rfl | (simp; done) | (simp [*]; done)), H', ⟨by have := HK1.out; first | omega | exact Nat.le_refl _⟩, by repeat (first | exact Drawn0.refl _ | apply Drawn0.step)⟩
  case rest =>
    clear HC2
    try clear c1
    try clear p2
    try clear c3
    try clear c3b0
    try clear c4
    try clear c4b0
    try clear p5
    try clear q5
    try clear hx5
    try clear c6
    try clear c6b0
    try clear c6b1
    try clear p6
    try clear p2
    try clear p5
    try clear q5
    obtain ⟨kq, x5_1, rfl, HA, HJ1, ⟨mc1, rfl⟩⟩ := hcut
    cases kq with
    | zero => exact absurd HA.out (by simp [gjson_splitPossiblePipe.j1])
    | succ kj1 =>
      have H := HA.out
      clear HA
      simp only [gjson_splitPossiblePipe.j1] at H
      by_cases c7 : x5_1 = true
      · subst c7
        have H1 : (if (a0.size : Int) > 0 then (if 0 < (a0.size : Int) then (gjson_splitPossiblePipe.j2 kj1 a0 (⟨#[]⟩ : ByteArray) (⟨#[]⟩ : ByteArray) false ((bt a0 0) == 123)) else (none)) else (gjson_splitPossiblePipe.j2 kj1 a0 (⟨#[]⟩ : ByteArray) (⟨#[]⟩ : ByteArray) false false)) = some (r1, r2, r3) := by rw [if_pos rfl] at H; exact H
        clear H
        have H := H1
        clear H1
        have HC8 := Aside0.mk H
        clear H
        go_upto_region 8 with (fail)
        repeat (go_quiet (fail); go_upto_region 8 with (fail))
        go_cut [32] (fun v32 wc => ∃ (kq : Nat) (x32_7 : Bool), v32 = .bool x32_7 ∧ Aside0 (gjson_splitPossiblePipe.j2 kq a0 (⟨#[]⟩ : ByteArray) (⟨#[]⟩ : ByteArray) false x32_7 = some (r1, r2, r3)) ∧ Aside0 (kq ≤ kj1) ∧ Drawn0 w wc)
        case first =>
          have H := HC8.out
          clear HC8
          by_cases c9 : (a0.size : Int) > 0
          · rw [if_pos c9] at H
            have c9b0 : decide (0 < (a0.size : Int)) = true := decide_eq_true c9
            have c9b1 : decide (0 < a0.size) = true := decide_eq_true (by omega)
            clear c9
            (first | rw [c9b0] | (simp only [i64_w, i32_w]; rw [c9b0]) | skip)
            by_cases c10 : 0 < (a0.size : Int)
            · rw [if_pos c10] at H
              have c10b0 : decide (0 < (a0.size : Int)) = true := decide_eq_true c10
              have c10b1 : decide (0 < a0.size) = true := decide_eq_true (by omega)
              clear c10
              have H' := Aside0.mk H
              clear H
              have p11 : 0 ≤ (0 : Int) := (by omega)
              have q11 : 0 < a0.size := (by have : (0 : Int) < (a0.size : Int) := of_decide_eq_true (by first | (with_reducible assumption) | assumption); omega)
              have hx11 : ∀ h : 0 < a0.size, ((a0[0]'h).toNat : Int) = bt a0 0 := bt_at a0 0
              clear p11
              have qi11 : (0 < (a0.size : Int)) = True := eq_true (of_decide_eq_true (by first | (with_reducible assumption) | assumption))
              replace q11 := eq_true q11
              go_wp2
              repeat (go_quiet (fail); try go_wp2)
              go_meet
              case rel => exact ⟨_, (((bt a0 0) == 123)), (by first | rfl | (simp; done) | (simp [*]; done)), H', ⟨by have := HJ1.out; first | omega | exact Nat.le_refl _⟩, by repeat (first | exact Drawn0.refl _ | apply Drawn0.step)⟩
            · rw [if_neg c10] at H
              exact absurd H (by simp)
          · rw [if_neg c9] at H
            have c9b0 : decide (0 < (a0.size : Int)) = false := decide_eq_false c9
            have c9b1 : decide (0 < a0.size) = false := decide_eq_false (by omega)
            clear c9
            (first | rw [c9b0] | (simp only [i64_w, i32_w]; rw [c9b0]) | skip)
            have H' := Aside0.mk H
            clear H
            go_wp2
            repeat (go_quiet (fail); try go_wp2)
            go_meet
            case rel => exact ⟨_, (false), (by first | rfl | (simp; done) | (simp [*]; done)), H', ⟨by have := HJ1.out; first | omega | exact Nat.le_refl _⟩, by repeat (first | exact Drawn0.refl _ | apply Drawn0.step)⟩
        case rest =>
          clear HC8
          try clear c1
          try clear p1
          try clear q1
          try clear hx1
          try clear qi1
          try clear p2
          try clear c3
          try clear c3b0
          try clear c4
          try clear c4b0
          try clear p5
          try clear q5
          try clear hx5
          try clear c6
          try clear c6b0
          try clear c6b1
          try clear p6
          try clear c7
          try clear c9
          try clear c9b0
          try clear c9b1
          try clear c10
          try clear c10b0
          try clear c10b1
          try clear c11
          try clear p11
          try clear q11
          try clear hx11
          try clear qi11
          try clear p11
          try clear p2
          try clear p5
          try clear p6
          try clear q11
          try clear q5
          obtain ⟨kq, x32_7, rfl, HA, HJ7, ⟨mc7, rfl⟩⟩ := hcut
          cases kq with
          | zero => exact absurd HA.out (by simp [gjson_splitPossiblePipe.j2])
          | succ kj7 =>
            have H := HA.out
            clear HA
            simp only [gjson_splitPossiblePipe.j2] at H
            by_cases c12 : x32_7 = true
            · subst c12; rw [if_pos rfl] at H; cases H
            · replace c12 := Bool.eq_false_iff.mpr c12
              subst c12
              have H1 : (gjson_splitPossiblePipe.l1 kj7 a0 (⟨#[]⟩ : ByteArray) (⟨#[]⟩ : ByteArray) false 0) = some (r1, r2, r3) := by rw [if_neg (show ¬ (false = true) by decide)] at H; exact H
              clear H
              have H := H1
              clear H1
              have H' := Aside0.mk H
              clear H
              go_wp2
              repeat (go_quiet (fail); try go_wp2)
              go_loopg [2, 3, 4, 9] kj7 (fun kq v2 v3 v4 v9 w' => ∃ (x2_3 : ByteArray) (x3_3 : ByteArray) (x4_3 : Bool) (x9_3 : Int), v2 = .string x2_3 ∧ v3 = .string x3_3 ∧ v4 = .bool x4_3 ∧ v9 = .int .i64 x9_3 ∧ Aside0 (gjson_splitPossiblePipe.l1 kq a0 x2_3 x3_3 x4_3 x9_3 = some (r1, r2, r3)) ∧ Aside0 (kq ≤ kj7) ∧ Drawn0 w w')
              case atStart => exact ⟨((⟨#[]⟩ : ByteArray)), ((⟨#[]⟩ : ByteArray)), (false), (0), (by first | rfl | (simp; done) | (simp [*]; done)), (by first | rfl | (simp; done) | (simp [*]; done)), (by first | rfl | (simp; done) | (simp [*]; done)), (by first | rfl | (simp; done) | (simp [*]; done)), H', ⟨Nat.le_refl _⟩, by repeat (first | exact Drawn0.refl _ | apply Drawn0.step)⟩
              case round =>
                clear H'
                try clear c1
                try clear p1
                try clear q1
                try clear hx1
                try clear qi1
                try clear c2
                try clear p2
                try clear q2
                try clear hx2
                try clear qi2
                try clear c3
                try clear c3b0
                try clear c4
                try clear c4b0
                try clear p5
                try clear q5
                try clear hx5
                try clear c6
                try clear c6b0
                try clear c6b1
                try clear p6
                try clear c7
                try clear c9
                try clear c9b0
                try clear c9b1
                try clear c10
                try clear c10b0
                try clear c10b1
                try clear c11
                try clear p11
                try clear q11
                try clear hx11
                try clear qi11
                try clear c12
                try clear c13
                try clear c13b0
                try clear c13b1
                try clear c15
                try clear c15b0
                try clear c17
                try clear c17b0
                try clear c17b1
                try clear c18
                try clear c18b0
                try clear c18b1
                try clear c19
                try clear c19b0
                try clear c19b1
                try clear c20
                try clear c20b0
                try clear c20b1
                try clear c21
                try clear c21b0
                try clear c21b1
                try clear p22
                try clear q22
                try clear hx22
                try clear qi22
                try clear c23
                try clear c23b0
                try clear c23b1
                try clear c24
                try clear c24b0
                try clear c24b1
                try clear p1
                try clear p11
                try clear p2
                try clear p22
                try clear p5
                try clear p6
                try clear q1
                try clear q11
                try clear q22
                try clear q5
                obtain ⟨x2_3, x3_3, x4_3, x9_3, rfl, rfl, rfl, rfl, HA, HK3, ⟨m3, rfl⟩⟩ := hrel
                cases gk with
                | zero => exact absurd HA.out (by simp [gjson_splitPossiblePipe.l1])
                | succ k3 =>
                  have H := HA.out
                  clear HA
                  simp only [gjson_splitPossiblePipe.l1] at H
                  by_cases c25 : x9_3 < (a0.size : Int)
                  · rw [if_pos c25] at H
                    have c25b0 : decide (x9_3 < (a0.size : Int)) = true := decide_eq_true c25
                    clear c25
                    by_cases c26 : 0 ≤ x9_3
                    · rw [if_pos c26] at H
                      have c26b0 : decide (0 ≤ x9_3) = true := decide_eq_true c26
                      clear c26
                      by_cases c28 : (bt a0 x9_3) = 92
                      · rw [if_pos c28] at H
                        have c28b0 : ((bt a0 x9_3) == 92) = true := beq_iff_eq.mpr c28
                        have c28b1 : ((bt a0 x9_3) != 92) = false := bne_eq_false_iff_eq.mpr c28
                        clear c28
                        have H' := Aside0.mk H
                        clear H
                        have p27 : 0 ≤ (x9_3 : Int) := of_decide_eq_true (by first | (with_reducible assumption) | assumption)
                        have q27 : x9_3 < (a0.size : Int) := of_decide_eq_true (by first | (with_reducible assumption) | assumption)
                        have hx27 := bt_at a0 x9_3
                        replace p27 := eq_true p27
                        replace q27 := eq_true q27
                        go_wp2
                        repeat (go_quiet (fail); try go_wp2)
                        go_roundg k3
                        case measure => have := HJ1.out; have := HJ7.out; have := HK3.out; omega
                        case rel => exact ⟨(x2_3), (x3_3), (x4_3), (wrap64 ((wrap64 (x9_3 + 1)) + 1)), (by first | rfl | (simp; done) | (simp [*]; done)), (by first | rfl | (simp; done) | (simp [*]; done)), (by first | rfl | (simp; done) | (simp [*]; done)), (by first | rfl | (simp; done) | (simp [*]; done)), H', ⟨by have := HJ1.out; have := HJ7.out; have := HK3.out; omega⟩, by repeat (first | exact Drawn0.refl _ | apply Drawn0.step)⟩
                      · rw [if_neg c28] at H
                        have c28b0 : ((bt a0 x9_3) == 92) = false := beq_eq_false_iff_ne.mpr c28
                        have c28b1 : ((bt a0 x9_3) != 92) = true := bne_iff_ne.mpr c28
                        by_cases c30 : (bt a0 x9_3) = 46
                        · rw [if_pos c30] at H
                          have c30b0 : ((bt a0 x9_3) == 46) = true := beq_iff_eq.mpr c30
                          have c30b1 : ((bt a0 x9_3) != 46) = false := bne_eq_false_iff_eq.mpr c30
                          clear c30
                          by_cases c31 : x9_3 = (wrap64 ((a0.size : Int) - 1))
                          · rw [if_pos c31] at H
                            have c31b0 : (x9_3 == (wrap64 ((a0.size : Int) - 1))) = true := beq_iff_eq.mpr c31
                            have c31b1 : (x9_3 != (wrap64 ((a0.size : Int) - 1))) = false := bne_eq_false_iff_eq.mpr c31
                            clear c31
                            simp only [Option.some.injEq, Prod.mk.injEq] at H
                            obtain ⟨rfl, rfl, rfl⟩ := H
                            have p27 : 0 ≤ (x9_3 : Int) := of_decide_eq_true (by first | (with_reducible assumption) | assumption)
                            have q27 : x9_3 < (a0.size : Int) := of_decide_eq_true (by first | (with_reducible assumption) | assumption)
                            have hx27 := bt_at a0 x9_3
                            replace p27 := eq_true p27
                            replace q27 := eq_true q27
                            have p29 : 0 ≤ (x9_3 : Int) := of_decide_eq_true (by first | (with_reducible assumption) | assumption)
                            have q29 : x9_3 < (a0.size : Int) := of_decide_eq_true (by first | (with_reducible assumption) | assumption)
                            have hx29 := bt_at a0 x9_3
                            replace p29 := eq_true p29
                            replace q29 := eq_true q29
                            go_wp2
                            repeat (go_quiet (fail); try go_wp2)
                            go_ret3
                            exact ⟨by first | rfl | (simp; done) | (simp [*]; done), by repeat (first | exact Drawn0.refl _ | apply Drawn0.step)⟩
                          · rw [if_neg c31] at H
                            have c31b0 : (x9_3 == (wrap64 ((a0.size : Int) - 1))) = false := beq_eq_false_iff_ne.mpr c31
                            have c31b1 : (x9_3 != (wrap64 ((a0.size : Int) - 1))) = true := bne_iff_ne.mpr c31
                            obtain ⟨ji32, hji32⟩ : ∃ j_ : Int, (wrap64 (x9_3 + 1)) = j_ := ⟨_, rfl⟩
                            replace H : (if 0 ≤ (ji32) then (if (ji32) < (a0.size : Int) then (if (bt a0 (ji32)) = 35 then (none) else (gjson_splitPossiblePipe.l1 k3 a0 x2_3 x3_3 x4_3 ji32)) else (none)) else (none)) = some (r1, r2, r3) := by first | (rw [hji32] at H; exact H) | (simp only [hji32] at H ⊢; exact H)
                            have hji32w : (IntKind.i64.wrap (x9_3 + 1)) = ji32 := (i64_w _).trans hji32
                            by_cases c33 : 0 ≤ (ji32)
                            · rw [if_pos c33] at H
                              have c33b0 : decide (0 ≤ (ji32)) = true := decide_eq_true c33
                              clear c33
                              by_cases c34 : (ji32) < (a0.size : Int)
                              · rw [if_pos c34] at H
                                have c34b0 : decide ((ji32) < (a0.size : Int)) = true := decide_eq_true c34
                                clear c34
                                by_cases c36 : (bt a0 (ji32)) = 35
                                · rw [if_pos c36] at H; cases H
                                · rw [if_neg c36] at H
                                  have c36b0 : ((bt a0 (ji32)) == 35) = false := beq_eq_false_iff_ne.mpr c36
                                  have c36b1 : ((bt a0 (ji32)) != 35) = true := bne_iff_ne.mpr c36
                                  have H' := Aside0.mk H
                                  clear H
                                  have p27 : 0 ≤ (x9_3 : Int) := of_decide_eq_true (by first | (with_reducible assumption) | assumption)
                                  have q27 : x9_3 < (a0.size : Int) := of_decide_eq_true (by first | (with_reducible assumption) | assumption)
                                  have hx27 := bt_at a0 x9_3
                                  replace p27 := eq_true p27
                                  replace q27 := eq_true q27
                                  have p29 : 0 ≤ (x9_3 : Int) := of_decide_eq_true (by first | (with_reducible assumption) | assumption)
                                  have q29 : x9_3 < (a0.size : Int) := of_decide_eq_true (by first | (with_reducible assumption) | assumption)
                                  have hx29 := bt_at a0 x9_3
                                  replace p29 := eq_true p29
                                  replace q29 := eq_true q29
                                  have p35 : 0 ≤ ((ji32) : Int) := of_decide_eq_true (by first | (with_reducible assumption) | assumption)
                                  have q35 : (ji32) < (a0.size : Int) := of_decide_eq_true (by first | (with_reducible assumption) | assumption)
                                  have hx35 := bt_at a0 (ji32)
                                  replace p35 := eq_true p35
                                  replace q35 := eq_true q35
                                  go_wp2
                                  repeat (go_quiet (fail); try go_wp2)
                                  go_roundg k3
                                  case measure => have := HJ1.out; have := HJ7.out; have := HK3.out; omega
                                  case rel => exact ⟨(x2_3), (x3_3), (x4_3), (ji32), (by first | rfl | (simp; done) | (simp [*]; done)), (by first | rfl | (simp; done) | (simp [*]; done)), (by first | rfl | (simp; done) | (simp [*]; done)), (by first | rfl | (simp; done) | (simp only [← hji32] <;> (first | rfl | simp)) | (simp [*]; done)), H', ⟨by have := HJ1.out; have := HJ7.out; have := HK3.out; omega⟩, by repeat (first | exact Drawn0.refl _ | apply Drawn0.step)⟩
                              · rw [if_neg c34] at H
                                exact absurd H (by simp)
                            · rw [if_neg c33] at H
                              exact absurd H (by simp)
                        · rw [if_neg c30] at H
                          have c30b0 : ((bt a0 x9_3) == 46) = false := beq_eq_false_iff_ne.mpr c30
                          have c30b1 : ((bt a0 x9_3) != 46) = true := bne_iff_ne.mpr c30
                          by_cases c70 : (bt a0 x9_3) = 124
                          · rw [if_pos c70] at H
                            have c70b0 : ((bt a0 x9_3) == 124) = true := beq_iff_eq.mpr c70
                            have c70b1 : ((bt a0 x9_3) != 124) = false := bne_eq_false_iff_eq.mpr c70
                            clear c70
                            have c71b0 := eq_true (of_decide_eq_true (by first | (with_reducible assumption) | assumption) : 0 ≤ x9_3)
                            by_cases c72 : x9_3 ≤ (a0.size : Int)
                            · rw [if_pos c72] at H
                              have c72b0 := eq_true c72
                              have c72b1 : decide (x9_3 ≤ (a0.size : Int)) = true := decide_eq_true c72
                              clear c72
                              obtain ⟨ji73, hji73⟩ : ∃ j_ : Int, (wrap64 (x9_3 + 1)) = j_ := ⟨_, rfl⟩
                              replace H : (if 0 ≤ (ji73) then (if (ji73) ≤ (a0.size : Int) then (some (a0.extract 0 (x9_3 : Int).toNat, a0.extract ((ji73) : Int).toNat a0.size, true)) else (none)) else (none)) = some (r1, r2, r3) := by first | (rw [hji73] at H; exact H) | (simp only [hji73] at H ⊢; exact H)
                              have hji73w : (IntKind.i64.wrap (x9_3 + 1)) = ji73 := (i64_w _).trans hji73
                              by_cases c74 : 0 ≤ (ji73)
                              · rw [if_pos c74] at H
                                have c74b0 := eq_true c74
                                have c74b1 : decide (0 ≤ (ji73)) = true := decide_eq_true c74
                                clear c74
                                by_cases c75 : (ji73) ≤ (a0.size : Int)
                                · rw [if_pos c75] at H
                                  have c75b0 := eq_true c75
                                  have c75b1 : decide ((ji73) ≤ (a0.size : Int)) = true := decide_eq_true c75
                                  clear c75
                                  simp only [Option.some.injEq, Prod.mk.injEq] at H
                                  obtain ⟨rfl, rfl, rfl⟩ := H
                                  have p27 : 0 ≤ (x9_3 : Int) := of_decide_eq_true (by first | (with_reducible assumption) | assumption)
                                  have q27 : x9_3 < (a0.size : Int) := of_decide_eq_true (by first | (with_reducible assumption) | assumption)
                                  have hx27 := bt_at a0 x9_3
                                  replace p27 := eq_true p27
                                  replace q27 := eq_true q27
                                  have p29 : 0 ≤ (x9_3 : Int) := of_decide_eq_true (by first | (with_reducible assumption) | assumption)
                                  have q29 : x9_3 < (a0.size : Int) := of_decide_eq_true (by first | (with_reducible assumption) | assumption)
                                  have hx29 := bt_at a0 x9_3
                                  replace p29 := eq_true p29
                                  replace q29 := eq_true q29
                                  have p69 : 0 ≤ (x9_3 : Int) := of_decide_eq_true (by first | (with_reducible assumption) | assumption)
                                  have q69 : x9_3 < (a0.size : Int) := of_decide_eq_true (by first | (with_reducible assumption) | assumption)
                                  have hx69 := bt_at a0 x9_3
                                  replace p69 := eq_true p69
                                  replace q69 := eq_true q69
                                  go_wp2
                                  repeat (go_quiet (fail); try go_wp2)
                                  go_ret3
                                  exact ⟨by first | rfl | (simp; done) | (simp only [← hji73] <;> (first | rfl | simp)) | (simp [*]; done), by repeat (first | exact Drawn0.refl _ | apply Drawn0.step)⟩
                                · rw [if_neg c75] at H
                                  exact absurd H (by simp)
                              · rw [if_neg c74] at H
                                exact absurd H (by simp)
                            · rw [if_neg c72] at H
                              exact absurd H (by simp)
                          · rw [if_neg c70] at H
                            have c70b0 : ((bt a0 x9_3) == 124) = false := beq_eq_false_iff_ne.mpr c70
                            have c70b1 : ((bt a0 x9_3) != 124) = true := bne_iff_ne.mpr c70
                            have H' := Aside0.mk H
                            clear H
                            have p27 : 0 ≤ (x9_3 : Int) := of_decide_eq_true (by first | (with_reducible assumption) | assumption)
                            have q27 : x9_3 < (a0.size : Int) := of_decide_eq_true (by first | (with_reducible assumption) | assumption)
                            have hx27 := bt_at a0 x9_3
                            replace p27 := eq_true p27
                            replace q27 := eq_true q27
                            have p29 : 0 ≤ (x9_3 : Int) := of_decide_eq_true (by first | (with_reducible assumption) | assumption)
                            have q29 : x9_3 < (a0.size : Int) := of_decide_eq_true (by first | (with_reducible assumption) | assumption)
                            have hx29 := bt_at a0 x9_3
                            replace p29 := eq_true p29
                            replace q29 := eq_true q29
                            have p69 : 0 ≤ (x9_3 : Int) := of_decide_eq_true (by first | (with_reducible assumption) | assumption)
                            have q69 : x9_3 < (a0.size : Int) := of_decide_eq_true (by first | (with_reducible assumption) | assumption)
                            have hx69 := bt_at a0 x9_3
                            replace p69 := eq_true p69
                            replace q69 := eq_true q69
                            go_wp2
                            repeat (go_quiet (fail); try go_wp2)
                            go_roundg k3
                            case measure => have := HJ1.out; have := HJ7.out; have := HK3.out; omega
                            case rel => exact ⟨(x2_3), (x3_3), (x4_3), (wrap64 (x9_3 + 1)), (by first | rfl | (simp; done) | (simp [*]; done)), (by first | rfl | (simp; done) | (simp [*]; done)), (by first | rfl | (simp; done) | (simp [*]; done)), (by first | rfl | (simp; done) | (simp [*]; done)), H', ⟨by have := HJ1.out; have := HJ7.out; have := HK3.out; omega⟩, by repeat (first | exact Drawn0.refl _ | apply Drawn0.step)⟩
                    · rw [if_neg c26] at H
                      exact absurd H (by simp)
                  · rw [if_neg c25] at H
                    have c25b0 : decide (x9_3 < (a0.size : Int)) = false := decide_eq_false c25
                    clear c25
                    simp only [Option.some.injEq, Prod.mk.injEq] at H
                    obtain ⟨rfl, rfl, rfl⟩ := H
                    go_wp2
                    repeat (go_quiet (fail); try go_wp2)
                    go_ret3
                    exact ⟨by first | rfl | (simp; done) | (simp [*]; done), by repeat (first | exact Drawn0.refl _ | apply Drawn0.step)⟩
      · replace c7 := Bool.eq_false_iff.mpr c7
        subst c7
        have H1 : (some ((⟨#[]⟩ : ByteArray), (⟨#[]⟩ : ByteArray), false)) = some (r1, r2, r3) := by rw [if_neg (show ¬ (false = true) by decide)] at H; exact H
        clear H
        have H := H1
        clear H1
        simp only [Option.some.injEq, Prod.mk.injEq] at H
        obtain ⟨rfl, rfl, rfl⟩ := H
        go_wp2
        repeat (go_quiet (fail); try go_wp2)
        go_ret3
        exact ⟨by first | rfl | (simp; done) | (simp [*]; done), by repeat (first | exact Drawn0.refl _ | apply Drawn0.step)⟩

end Go.Proofs.Ytjpbjbcdobibbaa.PFnGjSplitPipe
