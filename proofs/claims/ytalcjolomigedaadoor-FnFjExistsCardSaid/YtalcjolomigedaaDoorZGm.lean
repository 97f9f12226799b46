/- Several texts in one. -/
import Derived.Test.YtalcjolomigedaaDoorZPFnFjExistsx0
import Derived.Test.YtalcjolomigedaaDoorZGl
import Derived.Test.YtalcjolomigedaaDoorZGe
import Derived.Lib.AtoiAll
import Derived.Test.YtalcjolomigedaaDoorZGd
import Derived.Test.YtalcjolomigedaaDoorZGh
import Derived.Test.YtalcjolomigedaaDoorZGk
namespace Go.Proofs.YtalcjolomigedaaDoor.PFnFjExists
open Go.RowKit Go.Proofs.YtalcjolomigedaaDoorW.PrintWords Go.Proofs.YtalcjolomigedaaDoorW.PrintLast Go.Proofs.YtalcjolomigedaaDoorW.PrintMore
attribute [local go_sem] max2_int min2_int max_two min_two max_three min_three max_four min_four   -- for this text's walks alone
set_option linter.unusedVariables false
set_option linter.unusedSimpArgs false

def laws_zzFits1.l0 : Nat → List ByteArray → Int → Int → Option (Bool)
  | 0, _, _, _ => none
  | k + 1, x8, x9, x10 => if x10 < x9 then (if 0 ≤ x10 then (if x10 < (x8.length : Int) then (if ((rdOf ByteArray.empty x8 x10).size : Int) > 2147483647 then (some false) else (laws_zzFits1.l0 k x8 x9 (wrap64 (x10 + 1)))) else (none)) else (none)) else (some true)
def laws_zzFits1.f (k : Nat) (l0 : List ByteArray) : Option (Bool) := if (l0.length : Int) > 2147483647 then (some false) else (laws_zzFits1.l0 k l0 (l0.length : Int) 0)
theorem laws_zzFits1.mono_l : ∀ k, (∀ y0 y1 y2, LeO (laws_zzFits1.l0 k y0 y1 y2) (laws_zzFits1.l0 (k + 1) y0 y1 y2))
  | 0 => fun _ _ _ r h => by simp [laws_zzFits1.l0] at h
  | k + 1 => by
    have ih0 := laws_zzFits1.mono_l k
    · intro y0 y1 y2
      unfold laws_zzFits1.l0
      repeat' first
      | (with_reducible exact ih0 _ _ _)
      | (with_reducible exact LeO.refl _)
      | (with_reducible exact LeO.none _)
      | (with_reducible refine LeO.ite ?_ ?_)
      | (with_reducible refine LeO.bind ?_ (fun _ => ?_))
      | exact ih0 _ _ _
      | exact LeO.none _
      | refine LeO.ite ?_ ?_
      | refine LeO.bind ?_ (fun _ => ?_)
theorem laws_zzFits1.mono : ∀ a0 k, LeO (laws_zzFits1.f k a0) (laws_zzFits1.f (k + 1) a0) := by
  intro a0 k
  have ih0 := laws_zzFits1.mono_l k
  unfold laws_zzFits1.f
  repeat' first
      | (with_reducible exact ih0 _ _ _)
      | (with_reducible exact LeO.refl _)
      | (with_reducible exact LeO.none _)
      | (with_reducible refine LeO.ite ?_ ?_)
      | (with_reducible refine LeO.bind ?_ (fun _ => ?_))
      | exact ih0 _ _ _
      | exact LeO.none _
      | refine LeO.ite ?_ ?_
      | refine LeO.bind ?_ (fun _ => ?_)
set_option maxHeartbeats 8000000 in
set_option maxRecDepth 100000 in
theorem laws_zzFits1.calls (k : Nat) (A0 : Option Addr) (c0 : Nat) (l0 : List ByteArray) (r : Bool) (w : World) (hr0 : Kd.C Kd.string w A0 l0.length l0) (hc0 : l0.length ≤ c0) (h : laws_zzFits1.f k l0 = some r) :
    Calls Tryd.prog 17 #[.slice A0 l0.length c0] w fun e w' => e = .returned (.bool r) ∧ Drawn0 w w' := by
  have HR0 := Aside0.mk hr0
  have HC0 := Aside0.mk hc0
  clear hr0 hc0
  have H : (if (l0.length : Int) > 2147483647 then (some false) else (laws_zzFits1.l0 k l0 (l0.length : Int) 0)) = some r := h
  clear h
  by_cases c2 : (l0.length : Int) > 2147483647
  · rw [if_pos c2] at H
    have c2b0 : decide (2147483647 < (l0.length : Int)) = true := decide_eq_true c2
    have c2b1 : decide (2147483647 < l0.length) = true := decide_eq_true (by omega)
    clear c2
    obtain rfl := Option.some.inj H
    go_enter Tryd.func17, Tryd.ntmps17
    go_wp2
    go_ret
    exact ⟨by first | rfl | (simp; done) | (simp [*]; done), by repeat (first | exact Drawn0.refl _ | apply Drawn0.step)⟩
  · rw [if_neg c2] at H
    have c2b0 : decide (2147483647 < (l0.length : Int)) = false := decide_eq_false c2
    have c2b1 : decide (2147483647 < l0.length) = false := decide_eq_false (by omega)
    clear c2
    have H' := Aside0.mk H
    clear H
    go_enter Tryd.func17, Tryd.ntmps17
    go_wp2
    go_loopg [10] k (fun kq v10 w' => ∃ (x10_1 : Int), v10 = .int .i64 x10_1 ∧ Aside0 (laws_zzFits1.l0 kq l0 (l0.length : Int) x10_1 = some r) ∧ Aside0 (kq ≤ k) ∧ Drawn0 w w')
    case atStart => exact ⟨(0), (by first | rfl | (simp; done) | (simp [*]; done)), H', ⟨Nat.le_refl _⟩, by repeat (first | exact Drawn0.refl _ | apply Drawn0.step)⟩
    case round =>
      clear H'
      try clear c1
      try clear c2
      try clear c2b0
      try clear c2b1
      try clear p2
      obtain ⟨x10_1, rfl, HA, HK1, ⟨m1, rfl⟩⟩ := hrel
      cases gk with
      | zero => exact absurd HA.out (by simp [laws_zzFits1.l0])
      | succ k1 =>
        have H := HA.out
        clear HA
        simp only [laws_zzFits1.l0] at H
        by_cases c3 : x10_1 < (l0.length : Int)
        · rw [if_pos c3] at H
          have c3b0 : decide (x10_1 < (l0.length : Int)) = true := decide_eq_true c3
          clear c3
          by_cases c4 : 0 ≤ x10_1
          · rw [if_pos c4] at H
            have c4b0 : decide (0 ≤ x10_1) = true := decide_eq_true c4
            clear c4
            by_cases c5 : x10_1 < (l0.length : Int)
            · rw [if_pos c5] at H
              have c5b0 : decide (x10_1 < (l0.length : Int)) = true := decide_eq_true c5
              clear c5
              by_cases c6 : ((rdOf ByteArray.empty l0 x10_1).size : Int) > 2147483647
              · rw [if_pos c6] at H
                have c6b0 : decide (2147483647 < ((rdOf ByteArray.empty l0 x10_1).size : Int)) = true := decide_eq_true c6
                have c6b1 : decide (2147483647 < (rdOf ByteArray.empty l0 x10_1).size) = true := decide_eq_true (by omega)
                clear c6
                obtain rfl := Option.some.inj H
                have p101 : 0 ≤ (x10_1 : Int) := of_decide_eq_true (by first | (with_reducible assumption) | assumption)
                have q101 : x10_1 < (l0.length : Int) := of_decide_eq_true (by first | (with_reducible assumption) | assumption)
                obtain ⟨ad101, e101, hx101_0⟩ := Kd.at_string HR0.out x10_1 p101 q101
                cases e101
                replace p101 := eq_true p101
                replace q101 := eq_true q101
                go_wp2
                go_ret
                exact ⟨by first | rfl | (simp; done) | (simp [*]; done), by repeat (first | exact Drawn0.refl _ | apply Drawn0.step)⟩
              · rw [if_neg c6] at H
                have c6b0 : decide (2147483647 < ((rdOf ByteArray.empty l0 x10_1).size : Int)) = false := decide_eq_false c6
                have c6b1 : decide (2147483647 < (rdOf ByteArray.empty l0 x10_1).size) = false := decide_eq_false (by omega)
                clear c6
                have H' := Aside0.mk H
                clear H
                have p101 : 0 ≤ (x10_1 : Int) := of_decide_eq_true (by first | (with_reducible assumption) | assumption)
                have q101 : x10_1 < (l0.length : Int) := of_decide_eq_true (by first | (with_reducible assumption) | assumption)
                obtain ⟨ad101, e101, hx101_0⟩ := Kd.at_string HR0.out x10_1 p101 q101
                cases e101
                replace p101 := eq_true p101
                replace q101 := eq_true q101
                go_wp2
                go_roundg k1
                case measure => have := HK1.out; omega
                case rel => exact ⟨(wrap64 (x10_1 + 1)), (by first | rfl | (simp; done) | (simp [*]; done)), H', ⟨by have := HK1.out; omega⟩, by repeat (first | exact Drawn0.refl _ | apply Drawn0.step)⟩
            · rw [if_neg c5] at H
              exact absurd H (by simp)
          · rw [if_neg c4] at H
            exact absurd H (by simp)
        · rw [if_neg c3] at H
          have c3b0 : decide (x10_1 < (l0.length : Int)) = false := decide_eq_false c3
          clear c3
          obtain rfl := Option.some.inj H
          go_wp2
          go_ret
          exact ⟨by first | rfl | (simp; done) | (simp [*]; done), by repeat (first | exact Drawn0.refl _ | apply Drawn0.step)⟩


end Go.Proofs.YtalcjolomigedaaDoor.PFnFjExists

namespace Go.Proofs.YtalcjolomigedaaDoor.PFnFjExists
open Go.RowKit Go.Proofs.YtalcjolomigedaaDoorW.PrintWords Go.Proofs.YtalcjolomigedaaDoorW.PrintLast Go.Proofs.YtalcjolomigedaaDoorW.PrintMore
attribute [local go_sem] max2_int min2_int max_two min_two max_three min_three max_four min_four   -- for this text's walks alone
set_option linter.unusedVariables false
set_option linter.unusedSimpArgs false

-- NOT PRINTED: function 31 (spec_Read)

mutual
def spec_Index.j0 : Nat → ByteArray → Bool → Option (Int × Bool)
  | 0, _, _ => none
  | k + 1, x0, x18 => if x18 = true then (some (0, false)) else (spec_Index.l0 k x0 0 0)
def spec_Index.l0 : Nat → ByteArray → Int → Int → Option (Int × Bool)
  | 0, _, _, _ => none
  | k + 1, x0, x4, x5 => if x5 < (x0.size : Int) then (if 0 ≤ x5 then (if (bt x0 x5) < 48 then (spec_Index.j2 k x0 x4 x5 (bt x0 x5) true) else (spec_Index.j2 k x0 x4 x5 (bt x0 x5) (decide ((bt x0 x5) > 57)))) else (none)) else (some (x4, true))
def spec_Index.j2 : Nat → ByteArray → Int → Int → Int → Bool → Option (Int × Bool)
  | 0, _, _, _, _, _ => none
  | k + 1, x0, x4, x5, x6, x33 => if x33 = true then (some (0, false)) else (if x4 < 288230376151711744 then (spec_Index.l0 k x0 (wrap64 ((wrap64 (x4 * 10)) + ((x6 - 48) % 256))) (wrap64 (x5 + 1))) else (spec_Index.l0 k x0 4611686018427387904 (wrap64 (x5 + 1))))
end
def spec_Index.f (k : Nat) (a0 : ByteArray) : Option (Int × Bool) := if a0.toList = ([] : List UInt8) then (spec_Index.j0 k a0 true) else (if (a0.size : Int) > 1 then (if 0 < (a0.size : Int) then (spec_Index.j0 k a0 ((bt a0 0) == 48)) else (none)) else (spec_Index.j0 k a0 false))
theorem spec_Index.mono_l : ∀ k, (∀ y0 y1, LeO (spec_Index.j0 k y0 y1) (spec_Index.j0 (k + 1) y0 y1)) ∧ (∀ y0 y1 y2, LeO (spec_Index.l0 k y0 y1 y2) (spec_Index.l0 (k + 1) y0 y1 y2)) ∧ (∀ y0 y1 y2 y3 y4, LeO (spec_Index.j2 k y0 y1 y2 y3 y4) (spec_Index.j2 (k + 1) y0 y1 y2 y3 y4))
  | 0 => ⟨fun _ _ r h => by simp [spec_Index.j0] at h, fun _ _ _ r h => by simp [spec_Index.l0] at h, fun _ _ _ _ _ r h => by simp [spec_Index.j2] at h⟩
  | k + 1 => by
    obtain ⟨ih0, ih1, ih2⟩ := spec_Index.mono_l k
    refine ⟨?_, ?_, ?_⟩
    · intro y0 y1
      unfold spec_Index.j0
      repeat' first
      | (with_reducible exact ih0 _ _)
      | (with_reducible exact ih1 _ _ _)
      | (with_reducible exact ih2 _ _ _ _ _)
      | (with_reducible exact LeO.refl _)
      | (with_reducible exact LeO.none _)
      | (with_reducible refine LeO.ite ?_ ?_)
      | (with_reducible refine LeO.bind ?_ (fun _ => ?_))
      | exact ih0 _ _
      | exact ih1 _ _ _
      | exact ih2 _ _ _ _ _
      | exact LeO.none _
      | refine LeO.ite ?_ ?_
      | refine LeO.bind ?_ (fun _ => ?_)
    · intro y0 y1 y2
      unfold spec_Index.l0
      repeat' first
      | (with_reducible exact ih0 _ _)
      | (with_reducible exact ih1 _ _ _)
      | (with_reducible exact ih2 _ _ _ _ _)
      | (with_reducible exact LeO.refl _)
      | (with_reducible exact LeO.none _)
      | (with_reducible refine LeO.ite ?_ ?_)
      | (with_reducible refine LeO.bind ?_ (fun _ => ?_))
      | exact ih0 _ _
      | exact ih1 _ _ _
      | exact ih2 _ _ _ _ _
      | exact LeO.none _
      | refine LeO.ite ?_ ?_
      | refine LeO.bind ?_ (fun _ => ?_)
    · intro y0 y1 y2 y3 y4
      unfold spec_Index.j2
      repeat' first
      | (with_reducible exact ih0 _ _)
      | (with_reducible exact ih1 _ _ _)
      | (with_reducible exact ih2 _ _ _ _ _)
      | (with_reducible exact LeO.refl _)
      | (with_reducible exact LeO.none _)
      | (with_reducible refine LeO.ite ?_ ?_)
      | (with_reducible refine LeO.bind ?_ (fun _ => ?_))
      | exact ih0 _ _
      | exact ih1 _ _ _
      | exact ih2 _ _ _ _ _
      | exact LeO.none _
      | refine LeO.ite ?_ ?_
      | refine LeO.bind ?_ (fun _ => ?_)
theorem spec_Index.mono : ∀ a0 k, LeO (spec_Index.f k a0) (spec_Index.f (k + 1) a0) := by
  intro a0 k
  obtain ⟨ih0, ih1, ih2⟩ := spec_Index.mono_l k
  unfold spec_Index.f
  repeat' first
      | (with_reducible exact ih0 _ _)
      | (with_reducible exact ih1 _ _ _)
      | (with_reducible exact ih2 _ _ _ _ _)
      | (with_reducible exact LeO.refl _)
      | (with_reducible exact LeO.none _)
      | (with_reducible refine LeO.ite ?_ ?_)
      | (with_reducible refine LeO.bind ?_ (fun _ => ?_))
      | exact ih0 _ _
      | exact ih1 _ _ _
      | exact ih2 _ _ _ _ _
      | exact LeO.none _
      | refine LeO.ite ?_ ?_
      | refine LeO.bind ?_ (fun _ => ?_)
set_option maxHeartbeats 8000000 in
set_option maxRecDepth 100000 in
theorem spec_Index.calls (k : Nat) (a0 : ByteArray) (r1 : Int) (r2 : Bool) (w : World) (h : spec_Index.f k a0 = some (r1, r2)) :
    Calls Tryd.prog 61 #[.string a0] w fun e w' => e = .returned (.tuple #[.int .i64 r1, .bool r2]) ∧ Drawn0 w w' := by
  have H : (if a0.toList = ([] : List UInt8) then (spec_Index.j0 k a0 true) else (if (a0.size : Int) > 1 then (if 0 < (a0.size : Int) then (spec_Index.j0 k a0 ((bt a0 0) == 48)) else (none)) else (spec_Index.j0 k a0 false))) = some (r1, r2) := h
  clear h
  have HC2 := Aside0.mk H
  clear H
  go_enter Tryd.func61, Tryd.ntmps61
  go_upto_region 1 with (fail)
  go_cut [18] (fun v18 wc => ∃ (kq : Nat) (x18_1 : Bool), v18 = .bool x18_1 ∧ Aside0 (spec_Index.j0 kq a0 x18_1 = some (r1, r2)) ∧ Aside0 (kq ≤ k) ∧ Drawn0 w wc)
  case first =>
    have H := HC2.out
    clear HC2
    by_cases c3 : a0.toList = ([] : List UInt8)
    · rw [if_pos c3] at H
      have c3b0 : (a0.toList == ([] : List UInt8)) = true := beq_iff_eq.mpr c3
      have c3b1 : (a0.toList != ([] : List UInt8)) = false := bne_eq_false_iff_eq.mpr c3
      clear c3
      (first | rw [c3b0] | (simp only [i64_w, i32_w]; rw [c3b0]) | skip)
      have H' := Aside0.mk H
      clear H
      go_wp2
      go_meet
      case rel => exact ⟨_, (true), (by first | rfl | (simp; done) | (simp [*]; done)), H', ⟨by first | omega | exact Nat.le_refl _⟩, by repeat (first | exact Drawn0.refl _ | apply Drawn0.step)⟩
    · rw [if_neg c3] at H
      have c3b0 : (a0.toList == ([] : List UInt8)) = false := beq_eq_false_iff_ne.mpr c3
      have c3b1 : (a0.toList != ([] : List UInt8)) = true := bne_iff_ne.mpr c3
      (first | rw [c3b0] | (simp only [i64_w, i32_w]; rw [c3b0]) | skip)
      by_cases c4 : (a0.size : Int) > 1
      · rw [if_pos c4] at H
        have c4b0 : decide (1 < (a0.size : Int)) = true := decide_eq_true c4
        have c4b1 : decide (1 < a0.size) = true := decide_eq_true (by omega)
        clear c4
        by_cases c5 : 0 < (a0.size : Int)
        · rw [if_pos c5] at H
          have c5b0 : decide (0 < (a0.size : Int)) = true := decide_eq_true c5
          have c5b1 : decide (0 < a0.size) = true := decide_eq_true (by omega)
          clear c5
          have H' := Aside0.mk H
          clear H
          have p6 : 0 ≤ (0 : Int) := (by omega)
          have q6 : 0 < a0.size := (by have : (0 : Int) < (a0.size : Int) := of_decide_eq_true (by first | (with_reducible assumption) | assumption); omega)
          have hx6 : ∀ h : 0 < a0.size, ((a0[0]'h).toNat : Int) = bt a0 0 := bt_at a0 0
          clear p6
          have qi6 : (0 < (a0.size : Int)) = True := eq_true (of_decide_eq_true (by first | (with_reducible assumption) | assumption))
          replace q6 := eq_true q6
          go_wp2
          go_meet
          case rel => exact ⟨_, (((bt a0 0) == 48)), (by first | rfl | (simp; done) | (simp [*]; done)), H', ⟨by first | omega | exact Nat.le_refl _⟩, by repeat (first | exact Drawn0.refl _ | apply Drawn0.step)⟩
        · rw [if_neg c5] at H
          exact absurd H (by simp)
      · rw [if_neg c4] at H
        have c4b0 : decide (1 < (a0.size : Int)) = false := decide_eq_false c4
        have c4b1 : decide (1 < a0.size) = false := decide_eq_false (by omega)
        clear c4
        have H' := Aside0.mk H
        clear H
        go_wp2
        go_meet
        case rel => exact ⟨_, (false), (by first | rfl | (simp; done) | (simp [*]; done)), H', ⟨by first | omega | exact Nat.le_refl _⟩, by repeat (first | exact Drawn0.refl _ | apply Drawn0.step)⟩
  case rest =>
    clear HC2
    try clear p2
    try clear c3
    try clear c3b0
    try clear c3b1
    try clear c4
    try clear c4b0
    try clear c4b1
    try clear c5
    try clear c5b0
    try clear c5b1
    try clear c6
    try clear p6
    try clear q6
    try clear hx6
    try clear qi6
    try clear p6
    try clear q6
    obtain ⟨kq, x18_1, rfl, HA, HJ1, ⟨mc1, rfl⟩⟩ := hcut
    cases kq with
    | zero => exact absurd HA.out (by simp [spec_Index.j0])
    | succ kj1 =>
      have H := HA.out
      clear HA
      simp only [spec_Index.j0] at H
      by_cases c7 : x18_1 = true
      · subst c7
        have H1 : (some (0, false)) = some (r1, r2) := by rw [if_pos rfl] at H; exact H
        clear H
        have H := H1
        clear H1
        simp only [Option.some.injEq, Prod.mk.injEq] at H
        obtain ⟨rfl, rfl⟩ := H
        go_wp2
        go_ret2
        exact ⟨by first | rfl | (simp; done) | (simp [*]; done), by repeat (first | exact Drawn0.refl _ | apply Drawn0.step)⟩
      · replace c7 := Bool.eq_false_iff.mpr c7
        subst c7
        have H1 : (spec_Index.l0 kj1 a0 0 0) = some (r1, r2) := by rw [if_neg (show ¬ (false = true) by decide)] at H; exact H
        clear H
        have H := H1
        clear H1
        have H' := Aside0.mk H
        clear H
        go_wp2
        go_loopg [4, 5] kj1 (fun kq v4 v5 w' => ∃ (x4_2 : Int) (x5_2 : Int), v4 = .int .i64 x4_2 ∧ v5 = .int .i64 x5_2 ∧ Aside0 (spec_Index.l0 kq a0 x4_2 x5_2 = some (r1, r2)) ∧ Aside0 (kq ≤ kj1) ∧ Drawn0 w w')
        case atStart => exact ⟨(0), (0), (by first | rfl | (simp; done) | (simp [*]; done)), (by first | rfl | (simp; done) | (simp [*]; done)), H', ⟨Nat.le_refl _⟩, by repeat (first | exact Drawn0.refl _ | apply Drawn0.step)⟩
        case round =>
          clear H'
          try clear c1
          try clear p2
          try clear c3
          try clear c3b0
          try clear c3b1
          try clear c4
          try clear c4b0
          try clear c4b1
          try clear c5
          try clear c5b0
          try clear c5b1
          try clear c6
          try clear p6
          try clear q6
          try clear hx6
          try clear qi6
          try clear c7
          try clear p2
          try clear p6
          try clear q6
          obtain ⟨x4_2, x5_2, rfl, rfl, HA, HK2, ⟨m2, rfl⟩⟩ := hrel
          cases gk with
          | zero => exact absurd HA.out (by simp [spec_Index.l0])
          | succ k2 =>
            have H := HA.out
            clear HA
            simp only [spec_Index.l0] at H
            by_cases c8 : x5_2 < (a0.size : Int)
            · rw [if_pos c8] at H
              have c8b0 : decide (x5_2 < (a0.size : Int)) = true := decide_eq_true c8
              clear c8
              by_cases c9 : 0 ≤ x5_2
              · rw [if_pos c9] at H
                have c9b0 : decide (0 ≤ x5_2) = true := decide_eq_true c9
                clear c9
                have HC11 := Aside0.mk H
                clear H
                have p10 : 0 ≤ (x5_2 : Int) := of_decide_eq_true (by first | (with_reducible assumption) | assumption)
                have q10 : x5_2 < (a0.size : Int) := of_decide_eq_true (by first | (with_reducible assumption) | assumption)
                have hx10 := bt_at a0 x5_2
                replace p10 := eq_true p10
                replace q10 := eq_true q10
                go_upto_region 8 with (fail)
                go_cut [33] (fun v33 wc => ∃ (kq : Nat) (x33_10 : Bool), v33 = .bool x33_10 ∧ Aside0 (spec_Index.j2 kq a0 x4_2 x5_2 (bt a0 x5_2) x33_10 = some (r1, r2)) ∧ Aside0 (kq ≤ k2) ∧ Drawn0 w wc)
                case first =>
                  have H := HC11.out
                  clear HC11
                  by_cases c12 : (bt a0 x5_2) < 48
                  · rw [if_pos c12] at H
                    have c12b0 : decide ((bt a0 x5_2) < 48) = true := decide_eq_true c12
                    clear c12
                    (first | rw [c12b0] | (simp only [i64_w, i32_w]; rw [c12b0]) | skip)
                    have H' := Aside0.mk H
                    clear H
                    go_wp2
                    go_meet
                    case rel => exact ⟨_, (true), (by first | rfl | (simp; done) | (simp [*]; done)), H', ⟨by have := HJ1.out; have := HK2.out; first | omega | exact Nat.le_refl _⟩, by repeat (first | exact Drawn0.refl _ | apply Drawn0.step)⟩
                  · rw [if_neg c12] at H
                    have c12b0 : decide ((bt a0 x5_2) < 48) = false := decide_eq_false c12
                    clear c12
                    (first | rw [c12b0] | (simp only [i64_w, i32_w]; rw [c12b0]) | skip)
                    have H' := Aside0.mk H
                    clear H
                    go_wp2
                    go_meet
                    case rel => exact ⟨_, (decide ((bt a0 x5_2) > 57)), (by first | rfl | (simp; done) | (simp [*]; done)), H', ⟨by have := HJ1.out; have := HK2.out; first | omega | exact Nat.le_refl _⟩, by repeat (first | exact Drawn0.refl _ | apply Drawn0.step)⟩
                case rest =>
                  clear HC11
                  try clear c1
                  try clear p1
                  try clear q1
                  try clear hx1
                  try clear p2
                  try clear c3
                  try clear c3b0
                  try clear c3b1
                  try clear c4
                  try clear c4b0
                  try clear c4b1
                  try clear c5
                  try clear c5b0
                  try clear c5b1
                  try clear c6
                  try clear p6
                  try clear q6
                  try clear hx6
                  try clear qi6
                  try clear c7
                  try clear c8
                  try clear c8b0
                  try clear c9
                  try clear c9b0
                  try clear p10
                  try clear q10
                  try clear hx10
                  try clear c12
                  try clear c12b0
                  try clear p10
                  try clear p2
                  try clear p6
                  try clear q10
                  try clear q6
                  obtain ⟨kq, x33_10, rfl, HA, HJ10, ⟨mc10, rfl⟩⟩ := hcut
                  cases kq with
                  | zero => exact absurd HA.out (by simp [spec_Index.j2])
                  | succ kj10 =>
                    have H := HA.out
                    clear HA
                    simp only [spec_Index.j2] at H
                    by_cases c13 : x33_10 = true
                    · subst c13
                      have H1 : (some (0, false)) = some (r1, r2) := by rw [if_pos rfl] at H; exact H
                      clear H
                      have H := H1
                      clear H1
                      simp only [Option.some.injEq, Prod.mk.injEq] at H
                      obtain ⟨rfl, rfl⟩ := H
                      go_wp2
                      go_ret2
                      exact ⟨by first | rfl | (simp; done) | (simp [*]; done), by repeat (first | exact Drawn0.refl _ | apply Drawn0.step)⟩
                    · replace c13 := Bool.eq_false_iff.mpr c13
                      subst c13
                      have H1 : (if x4_2 < 288230376151711744 then (spec_Index.l0 kj10 a0 (wrap64 ((wrap64 (x4_2 * 10)) + (((bt a0 x5_2) - 48) % 256))) (wrap64 (x5_2 + 1))) else (spec_Index.l0 kj10 a0 4611686018427387904 (wrap64 (x5_2 + 1)))) = some (r1, r2) := by rw [if_neg (show ¬ (false = true) by decide)] at H; exact H
                      clear H
                      have H := H1
                      clear H1
                      by_cases c14 : x4_2 < 288230376151711744
                      · rw [if_pos c14] at H
                        have c14b0 : decide (x4_2 < 288230376151711744) = true := decide_eq_true c14
                        clear c14
                        have H' := Aside0.mk H
                        clear H
                        go_wp2
                        go_roundg kj10
                        case measure => have := HJ1.out; have := HK2.out; have := HJ10.out; omega
                        case rel => exact ⟨(wrap64 ((wrap64 (x4_2 * 10)) + (((bt a0 x5_2) - 48) % 256))), (wrap64 (x5_2 + 1)), (by first | rfl | (simp; done) | (simp [*]; done)), (by first | rfl | (simp; done) | (simp [*]; done)), H', ⟨by have := HJ1.out; have := HK2.out; have := HJ10.out; omega⟩, by repeat (first | exact Drawn0.refl _ | apply Drawn0.step)⟩
                      · rw [if_neg c14] at H
                        have c14b0 : decide (x4_2 < 288230376151711744) = false := decide_eq_false c14
                        clear c14
                        have H' := Aside0.mk H
                        clear H
                        go_wp2
                        go_roundg kj10
                        case measure => have := HJ1.out; have := HK2.out; have := HJ10.out; omega
                        case rel => exact ⟨(4611686018427387904), (wrap64 (x5_2 + 1)), (by first | rfl | (simp; done) | (simp [*]; done)), (by first | rfl | (simp; done) | (simp [*]; done)), H', ⟨by have := HJ1.out; have := HK2.out; have := HJ10.out; omega⟩, by repeat (first | exact Drawn0.refl _ | apply Drawn0.step)⟩
              · rw [if_neg c9] at H
                exact absurd H (by simp)
            · rw [if_neg c8] at H
              have c8b0 : decide (x5_2 < (a0.size : Int)) = false := decide_eq_false c8
              clear c8
              simp only [Option.some.injEq, Prod.mk.injEq] at H
              obtain ⟨rfl, rfl⟩ := H
              go_wp2
              go_ret2
              exact ⟨by first | rfl | (simp; done) | (simp [*]; done), by repeat (first | exact Drawn0.refl _ | apply Drawn0.step)⟩

def laws_fjKey.f (k : Nat) (a0 : ByteArray) : Option (Bool) := if a0.toList = ([] : List UInt8) then (some true) else ((spec_Index.f k a0).bind fun bt285 => (if bt285.2 = true then (some true) else (if 0 < (a0.size : Int) then (if (bt a0 0) = 45 then (some false) else (if (bt a0 0) = 43 then (some false) else (if (bt a0 0) < 48 then (some true) else (some (decide ((bt a0 0) > 57)))))) else (none))))
theorem laws_fjKey.mono : ∀ a0 k, LeO (laws_fjKey.f k a0) (laws_fjKey.f (k + 1) a0) := by
  intro a0 k
  unfold laws_fjKey.f
  repeat' first
      | (with_reducible exact spec_Index.mono _ _)
      | (with_reducible exact LeO.refl _)
      | (with_reducible exact LeO.none _)
      | (with_reducible refine LeO.ite ?_ ?_)
      | (with_reducible refine LeO.bind ?_ (fun _ => ?_))
      | exact spec_Index.mono _ _
      | exact LeO.none _
      | refine LeO.ite ?_ ?_
      | refine LeO.bind ?_ (fun _ => ?_)
set_option maxHeartbeats 8000000 in
set_option maxRecDepth 100000 in
theorem laws_fjKey.calls (k : Nat) (a0 : ByteArray) (r : Bool) (w : World) (h : laws_fjKey.f k a0 = some r) :
    Calls Tryd.prog 57 #[.string a0] w fun e w' => e = .returned (.bool r) ∧ Drawn0 w w' := by
  have H : (if a0.toList = ([] : List UInt8) then (some true) else ((spec_Index.f k a0).bind fun bt285 => (if bt285.2 = true then (some true) else (if 0 < (a0.size : Int) then (if (bt a0 0) = 45 then (some false) else (if (bt a0 0) = 43 then (some false) else (if (bt a0 0) < 48 then (some true) else (some (decide ((bt a0 0) > 57)))))) else (none))))) = some r := h
  clear h
  by_cases c2 : a0.toList = ([] : List UInt8)
  · rw [if_pos c2] at H
    have c2b0 : (a0.toList == ([] : List UInt8)) = true := beq_iff_eq.mpr c2
    have c2b1 : (a0.toList != ([] : List UInt8)) = false := bne_eq_false_iff_eq.mpr c2
    clear c2
    obtain rfl := Option.some.inj H
    go_enter Tryd.func57, Tryd.ntmps57
    go_wp2
    go_ret
    exact ⟨by first | rfl | (simp; done) | (simp [*]; done), by repeat (first | exact Drawn0.refl _ | apply Drawn0.step)⟩
  · rw [if_neg c2] at H
    have c2b0 : (a0.toList == ([] : List UInt8)) = false := beq_eq_false_iff_ne.mpr c2
    have c2b1 : (a0.toList != ([] : List UInt8)) = true := bne_iff_ne.mpr c2
    replace H := Option.bind_eq_some_iff.mp H
    obtain ⟨⟨t285, t286⟩, A30, H⟩ := H
    replace H : (if t286 = true then (some true) else (if 0 < (a0.size : Int) then (if (bt a0 0) = 45 then (some false) else (if (bt a0 0) = 43 then (some false) else (if (bt a0 0) < 48 then (some true) else (some (decide ((bt a0 0) > 57)))))) else (none))) = some r := H
    have A3 := Aside0.mk A30
    clear A30
    by_cases c4 : t286 = true
    · subst c4
      have H1 : (some true) = some r := by rw [if_pos rfl] at H; exact H
      clear H
      have H := H1
      clear H1
      obtain rfl := Option.some.inj H
      go_enter Tryd.func57, Tryd.ntmps57
      go_wp2_with (first | ((with_reducible refine gate_callee (f := 61) rfl ?_); refine goesL_ (some 10) rfl rfl Tryd.func61 (by kernel_rfl) rfl #[.string a0] rfl (by (try simp only [List.map_toArray, List.map_cons, List.map_nil]); first | done | rfl | (simp only [List.length_drop, List.length_take]; rfl)) ?_; (with_reducible refine (spec_Index.calls k a0 t285 true _ A3.out).mono ?_); rintro e w' ⟨rfl, ⟨nd, rfl⟩⟩; refine ⟨_, rfl, ?_⟩))
      go_ret
      exact ⟨by first | rfl | (simp; done) | (simp [*]; done), by repeat (first | exact Drawn0.refl _ | apply Drawn0.step)⟩
    · replace c4 := Bool.eq_false_iff.mpr c4
      subst c4
      have H1 : (if 0 < (a0.size : Int) then (if (bt a0 0) = 45 then (some false) else (if (bt a0 0) = 43 then (some false) else (if (bt a0 0) < 48 then (some true) else (some (decide ((bt a0 0) > 57)))))) else (none)) = some r := by rw [if_neg (show ¬ (false = true) by decide)] at H; exact H
      clear H
      have H := H1
      clear H1
      by_cases c5 : 0 < (a0.size : Int)
      · rw [if_pos c5] at H
        have c5b0 : decide (0 < (a0.size : Int)) = true := decide_eq_true c5
        have c5b1 : decide (0 < a0.size) = true := decide_eq_true (by omega)
        clear c5
        by_cases c7 : (bt a0 0) = 45
        · rw [if_pos c7] at H
          have c7b0 : ((bt a0 0) == 45) = true := beq_iff_eq.mpr c7
          have c7b1 : ((bt a0 0) != 45) = false := bne_eq_false_iff_eq.mpr c7
          clear c7
          obtain rfl := Option.some.inj H
          go_enter Tryd.func57, Tryd.ntmps57
          go_wp2_with (first | ((with_reducible refine gate_callee (f := 61) rfl ?_); refine goesL_ (some 10) rfl rfl Tryd.func61 (by kernel_rfl) rfl #[.string a0] rfl (by (try simp only [List.map_toArray, List.map_cons, List.map_nil]); first | done | rfl | (simp only [List.length_drop, List.length_take]; rfl)) ?_; (with_reducible refine (spec_Index.calls k a0 t285 false _ A3.out).mono ?_); rintro e w' ⟨rfl, ⟨nd, rfl⟩⟩; refine ⟨_, rfl, ?_⟩; have p6 : 0 ≤ (0 : Int) := (by omega); have q6 : 0 < a0.size := (by have : (0 : Int) < (a0.size : Int) := of_decide_eq_true (by first | (with_reducible assumption) | assumption); omega); have hx6 : ∀ h : 0 < a0.size, ((a0[0]'h).toNat : Int) = bt a0 0 := bt_at a0 0; clear p6; have qi6 : (0 < (a0.size : Int)) = True := eq_true (of_decide_eq_true (by first | (with_reducible assumption) | assumption)); replace q6 := eq_true q6))
          go_ret
          exact ⟨by first | rfl | (simp; done) | (simp [*]; done), by repeat (first | exact Drawn0.refl _ | apply Drawn0.step)⟩
        · rw [if_neg c7] at H
          have c7b0 : ((bt a0 0) == 45) = false := beq_eq_false_iff_ne.mpr c7
          have c7b1 : ((bt a0 0) != 45) = true := bne_iff_ne.mpr c7
          by_cases c8 : (bt a0 0) = 43
          · rw [if_pos c8] at H
            have c8b0 : ((bt a0 0) == 43) = true := beq_iff_eq.mpr c8
            have c8b1 : ((bt a0 0) != 43) = false := bne_eq_false_iff_eq.mpr c8
            clear c8
            obtain rfl := Option.some.inj H
            go_enter Tryd.func57, Tryd.ntmps57
            go_wp2_with (first | ((with_reducible refine gate_callee (f := 61) rfl ?_); refine goesL_ (some 10) rfl rfl Tryd.func61 (by kernel_rfl) rfl #[.string a0] rfl (by (try simp only [List.map_toArray, List.map_cons, List.map_nil]); first | done | rfl | (simp only [List.length_drop, List.length_take]; rfl)) ?_; (with_reducible refine (spec_Index.calls k a0 t285 false _ A3.out).mono ?_); rintro e w' ⟨rfl, ⟨nd, rfl⟩⟩; refine ⟨_, rfl, ?_⟩; have p6 : 0 ≤ (0 : Int) := (by omega); have q6 : 0 < a0.size := (by have : (0 : Int) < (a0.size : Int) := of_decide_eq_true (by first | (with_reducible assumption) | assumption); omega); have hx6 : ∀ h : 0 < a0.size, ((a0[0]'h).toNat : Int) = bt a0 0 := bt_at a0 0; clear p6; have qi6 : (0 < (a0.size : Int)) = True := eq_true (of_decide_eq_true (by first | (with_reducible assumption) | assumption)); replace q6 := eq_true q6))
            go_ret
            exact ⟨by first | rfl | (simp; done) | (simp [*]; done), by repeat (first | exact Drawn0.refl _ | apply Drawn0.step)⟩
          · rw [if_neg c8] at H
            have c8b0 : ((bt a0 0) == 43) = false := beq_eq_false_iff_ne.mpr c8
            have c8b1 : ((bt a0 0) != 43) = true := bne_iff_ne.mpr c8
            by_cases c9 : (bt a0 0) < 48
            · rw [if_pos c9] at H
              have c9b0 : decide ((bt a0 0) < 48) = true := decide_eq_true c9
              clear c9
              obtain rfl := Option.some.inj H
              go_enter Tryd.func57, Tryd.ntmps57
              go_wp2_with (first | ((with_reducible refine gate_callee (f := 61) rfl ?_); refine goesL_ (some 10) rfl rfl Tryd.func61 (by kernel_rfl) rfl #[.string a0] rfl (by (try simp only [List.map_toArray, List.map_cons, List.map_nil]); first | done | rfl | (simp only [List.length_drop, List.length_take]; rfl)) ?_; (with_reducible refine (spec_Index.calls k a0 t285 false _ A3.out).mono ?_); rintro e w' ⟨rfl, ⟨nd, rfl⟩⟩; refine ⟨_, rfl, ?_⟩; have p6 : 0 ≤ (0 : Int) := (by omega); have q6 : 0 < a0.size := (by have : (0 : Int) < (a0.size : Int) := of_decide_eq_true (by first | (with_reducible assumption) | assumption); omega); have hx6 : ∀ h : 0 < a0.size, ((a0[0]'h).toNat : Int) = bt a0 0 := bt_at a0 0; clear p6; have qi6 : (0 < (a0.size : Int)) = True := eq_true (of_decide_eq_true (by first | (with_reducible assumption) | assumption)); replace q6 := eq_true q6))
              go_ret
              exact ⟨by first | rfl | (simp; done) | (simp [*]; done), by repeat (first | exact Drawn0.refl _ | apply Drawn0.step)⟩
            · rw [if_neg c9] at H
              have c9b0 : decide ((bt a0 0) < 48) = false := decide_eq_false c9
              clear c9
              obtain rfl := Option.some.inj H
              go_enter Tryd.func57, Tryd.ntmps57
              go_wp2_with (first | ((with_reducible refine gate_callee (f := 61) rfl ?_); refine goesL_ (some 10) rfl rfl Tryd.func61 (by kernel_rfl) rfl #[.string a0] rfl (by (try simp only [List.map_toArray, List.map_cons, List.map_nil]); first | done | rfl | (simp only [List.length_drop, List.length_take]; rfl)) ?_; (with_reducible refine (spec_Index.calls k a0 t285 false _ A3.out).mono ?_); rintro e w' ⟨rfl, ⟨nd, rfl⟩⟩; refine ⟨_, rfl, ?_⟩; have p6 : 0 ≤ (0 : Int) := (by omega); have q6 : 0 < a0.size := (by have : (0 : Int) < (a0.size : Int) := of_decide_eq_true (by first | (with_reducible assumption) | assumption); omega); have hx6 : ∀ h : 0 < a0.size, ((a0[0]'h).toNat : Int) = bt a0 0 := bt_at a0 0; clear p6; have qi6 : (0 < (a0.size : Int)) = True := eq_true (of_decide_eq_true (by first | (with_reducible assumption) | assumption)); replace q6 := eq_true q6))
              go_ret
              exact ⟨by first | rfl | (simp; done) | (simp [*]; done), by repeat (first | exact Drawn0.refl _ | apply Drawn0.step)⟩
      · rw [if_neg c5] at H
        exact absurd H (by simp)

end Go.Proofs.YtalcjolomigedaaDoor.PFnFjExists

set_option linter.unusedVariables false
set_option linter.unusedSimpArgs false
namespace Go.Proofs.YtalcjolomigedaaDoor.Fp
open Go.RowKit Go.Proofs.YtalcjolomigedaaDoorW.PrintWords Go.Proofs.YtalcjolomigedaaDoorW.PrintLast Go.Proofs.YtalcjolomigedaaDoorW.PrintMore Go.Proofs.YtalcjolomigedaaDoor.Aid Go.Proofs.YtalcjolomigedaaDoor.J

/-- An index in decimal digits without a needless zero. -/
def ixN (s : ByteArray) : Option Nat := if bytesOf s ≠ [] ∧ (bytesOf s).all dig = true ∧ ((bytesOf s).length > 1 → (bytesOf s).head? ≠ some 48) then some (dval (bytesOf s)).toNat else none
def rel58 (a D : Int) : Prop := a = D ∨ (288230376151711744 ≤ a ∧ 288230376151711744 ≤ D)
theorem fold_nonneg : ∀ (l : L) (a : Int), 0 ≤ a → l.all dig = true → a ≤ l.foldl dstep a
  | [], a, h, _ => Int.le_refl _
  | c :: l, a, h, hd => by
    rw [List.all_cons, Bool.and_eq_true] at hd
    have hc := dig_iff.1 hd.1
    have := fold_nonneg l (dstep a c) (by unfold dstep; omega) hd.2
    rw [List.foldl_cons]
    have : a ≤ dstep a c := by unfold dstep; omega
    omega
open Go.Proofs.YtalcjolomigedaaDoor.PFnFjExists in
theorem ix_l0 (s : ByteArray) (hs : s.size ≤ 2147483647) : ∀ (m i k : Nat) (n : Int), i + m = s.size → 2 * m + 2 ≤ k → 0 ≤ n → n ≤ 4611686018427387904 → ∃ r, spec_Index.l0 k s n (i : Int) = some r ∧
    (((bytesOf s).drop i).all dig = true → r.2 = true ∧ 0 ≤ r.1 ∧ ∀ D, 0 ≤ D → rel58 n D → rel58 r.1 (((bytesOf s).drop i).foldl dstep D)) ∧ (((bytesOf s).drop i).all dig = false → r.2 = false) := by
  intro m
  induction m with
  | zero =>
    intro i k n hi hk h0 h1
    obtain ⟨k, rfl⟩ : ∃ j, k = j + 1 := ⟨k - 1, by omega⟩
    refine ⟨(n, true), ?_, ?_, ?_⟩
    · rw [spec_Index.l0, if_neg (by omega)]
    · rw [List.drop_of_length_le (by rw [bytesOf_length]; omega)]
      exact fun _ => ⟨rfl, h0, fun D _ h => h⟩
    · rw [List.drop_of_length_le (by rw [bytesOf_length]; omega)]
      intro h; cases h
  | succ m ih =>
    intro i k n hi hk h0 h1
    obtain ⟨k, rfl⟩ : ∃ j, k = j + 2 := ⟨k - 2, by omega⟩
    have hg := bytesOf_get? s i (by omega)
    have hlt : i < (bytesOf s).length := by rw [bytesOf_length]; omega
    have hdr : (bytesOf s).drop i = bt s i :: (bytesOf s).drop (i + 1) := by
      rw [List.drop_eq_getElem_cons hlt]
      rw [List.getElem?_eq_getElem hlt] at hg
      injection hg with hg; rw [hg]
    rw [hdr]
    have hw : wrap64 ((i : Int) + 1) = ((i + 1 : Nat) : Int) := by unfold wrap64; omega
    obtain ⟨c, hc⟩ : ∃ c, c = bt s i := ⟨_, rfl⟩
    have hrc : 0 ≤ c ∧ c < 256 := by
      rw [hc]; exact bytesOf_range s _ (List.mem_of_getElem? hg)
    rw [← hc]
    by_cases hd : dig c = true
    · have hd2 := dig_iff.1 hd
      obtain ⟨n2, hn2, h20, h21, hrel⟩ : ∃ n2 : Int, spec_Index.l0 (k + 2) s n (i : Int) = spec_Index.l0 k s n2 ((i + 1 : Nat) : Int) ∧ 0 ≤ n2 ∧ n2 ≤ 4611686018427387904 ∧ ∀ D, 0 ≤ D → rel58 n D → rel58 n2 (dstep D c) := by
        by_cases hn : n < 288230376151711744
        · refine ⟨dstep n c, ?_, by unfold dstep; omega, by unfold dstep; omega, fun D hD h => ?_⟩
          · rw [spec_Index.l0, if_pos (by omega), if_pos (by omega), ← hc, if_neg (by omega), spec_Index.j2]
            rw [if_neg (by rw [decide_eq_true_iff]; omega), if_pos hn, hw]
            congr 1
            unfold dstep wrap64; omega
          · unfold rel58 dstep at *; omega
        · refine ⟨4611686018427387904, ?_, by omega, by omega, fun D hD h => ?_⟩
          · rw [spec_Index.l0, if_pos (by omega), if_pos (by omega), ← hc, if_neg (by omega), spec_Index.j2]
            rw [if_neg (by rw [decide_eq_true_iff]; omega), if_neg hn, hw]
          · unfold rel58 dstep at *; omega
      obtain ⟨r, hr, h2, h3⟩ := ih (i + 1) k n2 (by omega) (by omega) h20 h21
      refine ⟨r, hn2.trans hr, ?_, ?_⟩
      · intro h
        rw [List.all_cons, Bool.and_eq_true] at h
        obtain ⟨e1, e2, e3⟩ := h2 h.2
        exact ⟨e1, e2, fun D hD hh => by rw [List.foldl_cons]; exact e3 _ (by unfold dstep; omega) (hrel D hD hh)⟩
      · intro h
        rw [List.all_cons, hd, Bool.true_and] at h
        exact h3 h
    · have hd2 : c < 48 ∨ 57 < c := by
        rcases Int.lt_or_le c 48 with h | h
        · exact .inl h
        · rcases Int.lt_or_le 57 c with h' | h'
          · exact .inr h'
          · exact absurd (dig_iff.2 ⟨h, h'⟩) hd
      refine ⟨(0, false), ?_, ?_, fun _ => rfl⟩
      · rw [spec_Index.l0, if_pos (by omega), if_pos (by omega), ← hc]
        by_cases h48 : c < 48
        · rw [if_pos h48, spec_Index.j2, if_pos rfl]
        · rw [if_neg h48, spec_Index.j2, if_pos (by rw [decide_eq_true_iff]; omega)]
      · intro h
        rw [List.all_cons, Bool.and_eq_true] at h
        exact absurd h.1 hd
theorem toList_nil (s : ByteArray) : s.toList = [] ↔ s.size = 0 := by
  rw [ByteArray.toList_eq]
  constructor
  · intro h
    have h2 : s.data.toList.length = s.size := Array.length_toList
    rw [h] at h2
    exact h2.symm
  · intro h
    exact List.eq_nil_of_length_eq_zero (Array.length_toList.trans h)
/-- What Index hands back. -/
def IdxP (s : ByteArray) (r : Int × Bool) : Prop := (r.2 = true ∧ ∃ m : Nat, ixN s = some m ∧ 0 ≤ r.1 ∧ rel58 r.1 m) ∨ (r.2 = false ∧ ixN s = none)
theorem bt_head {s : ByteArray} (h : 0 < s.size) : (bytesOf s).head? = some (bt s 0) := by
  rw [List.head?_eq_getElem?]
  exact bytesOf_get? s 0 h
open Go.Proofs.YtalcjolomigedaaDoor.PFnFjExists in
theorem ix_f (s : ByteArray) (hs : s.size ≤ 2147483647) : ∀ k, 2 * s.size + 3 ≤ k → ∃ r, spec_Index.f k s = some r ∧ IdxP s r := by
  intro k hk
  obtain ⟨k, rfl⟩ : ∃ j, k = j + 1 := ⟨k - 1, by omega⟩
  have hbl := bytesOf_length s
  by_cases h0 : s.size = 0
  · have hb : bytesOf s = [] := List.eq_nil_of_length_eq_zero (by omega)
    refine ⟨(0, false), ?_, .inr ⟨rfl, by unfold ixN; rw [if_neg (by rw [hb]; simp)]⟩⟩
    have e : s.toList = [] := (toList_nil s).2 h0
    unfold spec_Index.f
    rw [if_pos e, spec_Index.j0, if_pos rfl]
  have hne : ¬ s.toList = [] := fun e => h0 ((toList_nil s).1 e)
  have hb0 : bytesOf s ≠ [] := fun e => by rw [e] at hbl; simp at hbl; omega
  obtain ⟨r, hr, h2, h3⟩ := ix_l0 s hs s.size 0 k 0 (by omega) (by omega) (by omega) (by omega)
  rw [List.drop_zero] at h2 h3
  have main : ∀ (hz : (bytesOf s).length > 1 → (bytesOf s).head? ≠ some 48), IdxP s r := fun hz => by
    cases hd : (bytesOf s).all dig with
    | true =>
      obtain ⟨e1, e2, e3⟩ := h2 hd
      have hn := fold_nonneg (bytesOf s) 0 (by omega) hd
      refine .inl ⟨e1, (dval (bytesOf s)).toNat, ?_, e2, ?_⟩
      · unfold ixN; rw [if_pos ⟨hb0, hd, hz⟩]
      · have := e3 0 (by omega) (.inl rfl)
        rw [show (((dval (bytesOf s)).toNat : Nat) : Int) = dval (bytesOf s) from Int.toNat_of_nonneg hn]
        exact this
    | false => exact .inr ⟨h3 hd, by unfold ixN; rw [if_neg (by rw [hd]; simp)]⟩
  by_cases h1 : s.size > 1
  · by_cases hz : bt s 0 = 48
    · refine ⟨(0, false), ?_, .inr ⟨rfl, ?_⟩⟩
      · unfold spec_Index.f
        rw [if_neg hne, if_pos (by omega), if_pos (by omega), spec_Index.j0, if_pos (by rw [hz]; rfl)]
      · unfold ixN; rw [if_neg ?_]
        rintro ⟨_, _, h⟩
        exact h (by omega) (by rw [bt_head (by omega), hz])
    · refine ⟨r, ?_, main fun _ e => hz ?_⟩
      · unfold spec_Index.f
        rw [if_neg hne, if_pos (by omega), if_pos (by omega), spec_Index.j0, if_neg (by rw [beq_iff_eq]; exact hz)]
        exact hr
      · rw [bt_head (by omega)] at e
        exact Option.some.inj e
  · refine ⟨r, ?_, main fun h => by omega⟩
    unfold spec_Index.f
    rw [if_neg hne, if_neg (by omega), spec_Index.j0, if_neg (by decide)]
    exact hr
theorem Index_any (s : ByteArray) (hs : s.size ≤ 2147483647) (w : World) :
    Calls Tryd.prog 61 #[.string s] w fun e w' => (∃ r : Int × Bool, e = .returned (.tuple #[.int .i64 r.1, .bool r.2]) ∧ IdxP s r) ∧ Drawn0 w w' := by
  obtain ⟨r, hr, hp⟩ := ix_f s hs _ (Nat.le_refl _)
  refine (PFnFjExists.spec_Index.calls _ s r.1 r.2 w hr).mono ?_
  rintro e w' ⟨rfl, hd⟩
  exact ⟨⟨r, rfl, hp⟩, hd⟩
/-- A key of which the statement speaks. -/
def keyP (s : ByteArray) : Prop := s.size = 0 ∨ (ixN s).isSome = true ∨ (bt s 0 ≠ 45 ∧ bt s 0 ≠ 43 ∧ (bt s 0 < 48 ∨ 57 < bt s 0))
theorem fjKey_any (s : ByteArray) (hs : s.size ≤ 2147483647) (w : World) :
    Calls Tryd.prog 57 #[.string s] w fun e w' => (∃ b : Bool, e = .returned (.bool b) ∧ (b = true → keyP s)) ∧ Drawn0 w w' := by
  obtain ⟨r, hr, hp⟩ := ix_f s hs _ (Nat.le_refl _)
  obtain ⟨b, hb, hk⟩ : ∃ b, PFnFjExists.laws_fjKey.f (2 * s.size + 3) s = some b ∧ (b = true → keyP s) := by
    unfold PFnFjExists.laws_fjKey.f
    rw [hr]
    by_cases h0 : s.toList = []
    · rw [if_pos h0]
      exact ⟨true, rfl, fun _ => .inl ((toList_nil s).1 h0)⟩
    · rw [if_neg h0]
      have hpos : 0 < s.size := by
        rcases Nat.eq_zero_or_pos s.size with h | h
        · exact absurd ((toList_nil s).2 h) h0
        · exact h
      show ∃ b, (if r.2 = true then some true else _) = some b ∧ _
      by_cases h2 : r.2 = true
      · rw [if_pos h2]
        refine ⟨true, rfl, fun _ => .inr (.inl ?_)⟩
        rcases hp with ⟨_, m, hm, _⟩ | ⟨h, _⟩
        · rw [hm]; rfl
        · rw [h] at h2; cases h2
      · rw [if_neg h2, if_pos (by omega)]
        by_cases h45 : bt s 0 = 45
        · rw [if_pos h45]; exact ⟨false, rfl, fun h => by cases h⟩
        · rw [if_neg h45]
          by_cases h43 : bt s 0 = 43
          · rw [if_pos h43]; exact ⟨false, rfl, fun h => by cases h⟩
          · rw [if_neg h43]
            by_cases h48 : bt s 0 < 48
            · rw [if_pos h48]; exact ⟨true, rfl, fun _ => .inr (.inr ⟨h45, h43, .inl h48⟩)⟩
            · rw [if_neg h48]; exact ⟨_, rfl, fun h => .inr (.inr ⟨h45, h43, .inr (by simpa using h)⟩)⟩
  refine (PFnFjExists.laws_fjKey.calls _ s b w hb).mono ?_
  rintro e w' ⟨rfl, hd⟩
  exact ⟨⟨b, rfl, hk⟩, hd⟩
open Go.Proofs.YtalcjolomigedaaDoor.PFnFjExists in
theorem zz_l0 (xs : List ByteArray) (hx : xs.length ≤ 2147483647) : ∀ (m i k : Nat), i + m = xs.length → m + 1 ≤ k → ∃ b, laws_zzFits1.l0 k xs (xs.length : Int) (i : Int) = some b := by
  intro m
  induction m with
  | zero =>
    intro i k hi hk
    obtain ⟨k, rfl⟩ : ∃ j, k = j + 1 := ⟨k - 1, by omega⟩
    exact ⟨true, by rw [laws_zzFits1.l0, if_neg (by omega)]⟩
  | succ m ih =>
    intro i k hi hk
    obtain ⟨k, rfl⟩ : ∃ j, k = j + 1 := ⟨k - 1, by omega⟩
    have hw : wrap64 ((i : Int) + 1) = ((i + 1 : Nat) : Int) := by unfold wrap64; omega
    rw [laws_zzFits1.l0, if_pos (by omega), if_pos (by omega), if_pos (by omega), hw]
    split
    · exact ⟨_, rfl⟩
    · exact ih (i + 1) k (by omega) (by omega)
theorem zzFits_any (A : Option Addr) (c : Nat) (xs : List ByteArray) (w : World) (hC : Kd.string.C w A xs.length xs) (hc : xs.length ≤ c) :
    Calls Tryd.prog 17 #[.slice A xs.length c] w fun e w' => (∃ b : Bool, e = .returned (.bool b) ∧ (b = true → xs.length ≤ 2147483647)) ∧ Drawn0 w w' := by
  obtain ⟨b, hb, hp⟩ : ∃ b, PFnFjExists.laws_zzFits1.f (xs.length + 1) xs = some b ∧ (b = true → xs.length ≤ 2147483647) := by
    unfold PFnFjExists.laws_zzFits1.f
    by_cases h : (xs.length : Int) > 2147483647
    · rw [if_pos h]; exact ⟨false, rfl, fun h => by cases h⟩
    · rw [if_neg h]
      obtain ⟨b, hb⟩ := zz_l0 xs (by omega) xs.length 0 (xs.length + 1) (by omega) (by omega)
      exact ⟨b, hb, fun _ => by omega⟩
  refine (PFnFjExists.laws_zzFits1.calls _ A c xs b w hC hc hb).mono ?_
  rintro e w' ⟨rfl, hd⟩
  exact ⟨⟨b, rfl, hp⟩, hd⟩
end Go.Proofs.YtalcjolomigedaaDoor.Fp

set_option linter.unusedVariables false
set_option linter.unusedSimpArgs false
namespace Go.Proofs.YtalcjolomigedaaDoor.Fp
open Go.RowKit Go.Proofs.YtalcjolomigedaaDoorW.PrintWords Go.Proofs.YtalcjolomigedaaDoorW.PrintLast Go.Proofs.YtalcjolomigedaaDoorW.PrintMore Go.Proofs.YtalcjolomigedaaDoor.Aid Go.Proofs.YtalcjolomigedaaDoor.J

/-- Keys of which the statement speaks. -/
def keysP (xs : List ByteArray) : Prop := xs.length ≤ 20 ∧ ∀ k ∈ xs, k.size ≤ 200 ∧ keyP k
set_option maxHeartbeats 8000000 in
set_option maxRecDepth 100000 in
theorem fjKeys_any (w : World) (A : Option Addr) (c : Nat) (xs : List ByteArray) (hx : xs.length ≤ 2147483647) (hc : xs.length ≤ c) (g : Kd.string.C w A xs.length xs) :
    Calls Tryd.prog 37 #[.slice A xs.length c] w fun e w' => (∃ b : Bool, e = .returned (.bool b) ∧ (b = true → keysP xs)) ∧ Below w.heap.size w w' := by
  obtain ⟨n, hn⟩ : ∃ n, n = xs.length := ⟨_, rfl⟩
  have G := Lib.hid g
  rw [← hn] at hx hc G ⊢
  have HN := Lib.hid hn
  clear g hn
  by_cases h20 : 20 < n
  · have d1 : decide ((20 : Int) < (n : Int)) = true := decide_eq_true (by omega)
    have d2 : decide (20 < n) = true := decide_eq_true h20
    go_enter Tryd.func37, Tryd.ntmps37
    go_wp2
    go_ret
    exact ⟨⟨false, rfl, fun h => by cases h⟩, Below.refl _ _⟩
  have d1 : decide ((20 : Int) < (n : Int)) = false := decide_eq_false (by omega)
  have d2 : decide (20 < n) = false := decide_eq_false h20
  have HB0 := Lib.hid (Below.refl w.heap.size w)
  go_enter Tryd.func37, Tryd.ntmps37
  go_wp2
  go_loopg [3] n (fun kq v3 w' => Hid (∃ i : Nat, v3 = .int .i64 (i : Nat) ∧ i + kq = n ∧ (∀ j, j < i → ∀ k, xs[j]? = some k → k.size ≤ 200 ∧ keyP k) ∧ Below w.heap.size w w'))
  case atStart => exact Lib.hid ⟨0, rfl, by omega, fun j hj => by omega, HB0.out⟩
  case round =>
    obtain ⟨i, rfl, hik, hne, hb⟩ := hrel.out
    clear hrel HB0
    have HB := Lib.hid hb
    rcases Nat.lt_or_ge i n with hii | hii
    · obtain ⟨ad, rfl, e0⟩ := at_str G.out i hii
      have eb := World.block_lt_of_cell? w _ e0
      replace e0 := (hb.cell eb).trans e0
      have eb2 : (ad.add i).block < wr.heap.size := World.block_lt_of_cell? wr _ e0
      obtain ⟨y, hy⟩ : ∃ y, y = xs.getD i ⟨#[]⟩ := ⟨_, rfl⟩
      rw [← hy] at e0
      have hyi : xs[i]? = some y := by rw [hy, List.getD_eq_getElem?_getD, List.getElem?_eq_getElem (by rw [← HN.out]; exact hii)]; rfl
      have HY := Lib.hid hyi
      have HI := Lib.hid hik
      have HNE := Lib.hid hne
      have HE0 := Lib.hid (And.intro e0 eb2)
      clear hik hy hne hyi hb eb
      by_cases h200 : 200 < y.size
      · have d3 : decide ((200 : Int) < (y.size : Int)) = true := decide_eq_true (by omega)
        have d4 : decide (200 < y.size) = true := decide_eq_true h200
        go_wp2
        go_ret
        exact ⟨⟨false, rfl, fun h => by cases h⟩, HB.out⟩
      have d3 : decide ((200 : Int) < (y.size : Int)) = false := decide_eq_false (by omega)
      have d4 : decide (200 < y.size) = false := decide_eq_false h200
      have HU := Lib.hid (fun W => UTF8_any y W (by omega))
      have HF := Lib.hid (fun W => fjKey_any y (by omega) W)
      obtain ⟨u, hu⟩ : ∃ u, u = valid (bytesOf y) := ⟨_, rfl⟩
      rw [← hu] at HU
      clear hu
      cases u with
      | false =>
        go_wp2_with (first
          | (go_at_call 29; refine (HU.out _).mono ?_; rintro e w1 ⟨rfl, hd⟩; have HX := Lib.hid (below_step HB.out hd.below); clear hd))
        go_ret
        exact ⟨⟨false, rfl, fun h => by cases h⟩, HX.out⟩
      | true =>
        go_wp2_with (first
          | (go_at_call 29; refine (HU.out _).mono ?_; rintro e w1 ⟨rfl, hd⟩; have HX := Lib.hid (below_step HB.out hd.below); have e1 := (hd.below.cell HE0.out.2).trans HE0.out.1; clear hd)
          | (go_at_call 57; refine (HF.out _).mono ?_; rintro e w2 ⟨⟨b, rfl, hb⟩, hd⟩; replace HX := Lib.hid (below_step HX.out hd.below); have HK := Lib.hid hb; clear hd hb))
        · go_ret
          exact ⟨⟨false, rfl, fun h => by cases h⟩, HX.out⟩
        · have HBT := Lib.hid (show b = true by have := ‹(!b) = false›; cases b <;> simp_all)
          go_roundg (n - (i + 1))
          case rel => exact Lib.hid ⟨i + 1, by go_num, by omega, fun j hj k hk => by
            rcases Nat.lt_or_ge j i with hji | hji
            · exact HNE.out j hji k hk
            · obtain rfl : j = i := by omega
              rw [HY.out] at hk
              injection hk with hk; subst hk
              exact ⟨by omega, HK.out HBT.out⟩, HX.out⟩
          case measure => have := HI.out; omega
    · obtain rfl : i = n := by omega
      have HNE := Lib.hid hne
      clear hne hb
      go_wp2
      go_ret
      exact ⟨⟨true, rfl, fun _ => ⟨by rw [← HN.out]; omega, fun k hk => by
        obtain ⟨j, hj, e⟩ := List.mem_iff_getElem.1 hk
        exact HNE.out j (by rw [HN.out]; exact hj) k (by rw [List.getElem?_eq_getElem hj, e])⟩⟩, HB.out⟩
end Go.Proofs.YtalcjolomigedaaDoor.Fp

set_option linter.unusedVariables false
set_option linter.unusedSimpArgs false
namespace Go.Proofs.YtalcjolomigedaaDoor.Fp
open Go.RowKit Go.Proofs.YtalcjolomigedaaDoorW.PrintWords Go.Proofs.YtalcjolomigedaaDoorW.PrintLast Go.Proofs.YtalcjolomigedaaDoorW.PrintMore Go.Proofs.YtalcjolomigedaaDoor.Aid Go.Proofs.YtalcjolomigedaaDoor.J

mutual
/-- An object of the tree has as many values as names. -/
def ko : Tn → Prop
  | ⟨k, _, ns, ks⟩ => (k = 6 → ns.length ≤ ks.length) ∧ kos ks
def kos : List Tn → Prop
  | [] => True
  | x :: t => ko x ∧ kos t
end
theorem kos_mem : ∀ {ks : List Tn}, kos ks → ∀ p ∈ ks, ko p
  | [], _, p, h => by cases h
  | q :: ks, hk, p, h => by
    rw [kos] at hk
    rcases List.mem_cons.1 h with rfl | h
    · exact hk.1
    · exact kos_mem hk.2 p h
/-- The place of the value of a key. -/
def fstI (x : Tn) (k : ByteArray) : Option Nat := if x.kind = 6 then fidx k x.keys else if x.kind = 5 then ixN k else none
/-- Whether keys lead to a value. -/
def findB : Tn → List ByteArray → Bool
  | _, [] => true
  | x, k :: ks => match fstI x k with
    | some i => match x.kids[i]? with
      | some u => findB u ks
      | none => false
    | none => false
theorem findB_none {x : Tn} {k : ByteArray} {ks : List ByteArray} (h : fstI x k = none) : findB x (k :: ks) = false := by rw [findB, h]
theorem findB_some {x u : Tn} {k : ByteArray} {ks : List ByteArray} {i : Nat} (h : fstI x k = some i) (hu : x.kids[i]? = some u) : findB x (k :: ks) = findB u ks := by rw [findB, h]; simp only [hu]
theorem findB_out {x : Tn} {k : ByteArray} {ks : List ByteArray} {i : Nat} (h : fstI x k = some i) (hu : x.kids[i]? = none) : findB x (k :: ks) = false := by rw [findB, h]; simp only [hu]
def FdP (w : World) (b : Bool) (e : Ending) (w' : World) : Prop := (∃ (k : Int) (t : ByteArray) (A2 : Option Addr) (n2 c2 : Nat) (A3 : Option Addr) (n3 c3 : Nat), e = .returned (.tuple #[.agg #[.int .i64 k, .string t, .slice A2 n2 c2, .slice A3 n3 c3], .bool b])) ∧ Below w.heap.size w w'
def FdC (xs : List ByteArray) : Prop := (∀ k ∈ xs, k.size ≤ 2147483647) → ∀ (x : Tn), smT x → ko x → ∀ (w : World) (A1 : Option Addr) (c1 : Nat) (A2 A3 : Option Addr) (c2 c3 : Nat), xs.length ≤ 2147483647 → xs.length ≤ c1 → Kd.string.C w A1 xs.length xs → x.keys.length ≤ c2 → Kd.string.C w A2 x.keys.length x.keys → x.kids.length ≤ c3 → kTn.C w A3 x.kids.length x.kids →
  Calls Tryd.prog 39 #[.agg #[.int .i64 x.kind, .string x.text, .slice A2 x.keys.length c2, .slice A3 x.kids.length c3], .slice A1 xs.length c1, .bool false] w (FdP w (findB x xs))
/-- The blocks of a call of Find: the node's and the result's. -/
structure Fw (w W : World) (P Z : Array Value) : Prop where
  p : W.heap[w.heap.size]? = some (.cells P tNd (0, 0))
  r : W.heap[w.heap.size + 1]? = some (.cells Z tNd (0, 0))
  b : Below w.heap.size w W
abbrev zNd : Array Value := #[.int .i64 0, .string ⟨#[]⟩, .slice none 0 0, .slice none 0 0]
theorem Fw.start (w : World) (P Z : Array Value) : Fw w ((w.alloc (.cells P tNd)).alloc (.cells Z tNd)) P Z where
  p := blk_alloc (blk_new _ _) _
  r := by have := blk_new (w.alloc (.cells P tNd)) (.cells Z tNd); simpa using this
  b := ((Below.refl _ _).alloc (Nat.le_refl _) _).alloc (by simp) _
theorem Fw.below {w W W' : World} {P Z : Array Value} (h : Fw w W P Z) (k : Below W.heap.size W W') : Fw w W' P Z := ⟨blk_below h.p k, blk_below h.r k, below_then h.b h.b.size k⟩
theorem fd_end {w W : World} {b : Bool} {k : Int} {t : ByteArray} {A2 A3 : Option Addr} {n2 c2 n3 c3 : Nat} (h : Below w.heap.size w W) : FdP w b (.returned (.tuple #[.agg #[.int .i64 k, .string t, .slice A2 n2 c2, .slice A3 n3 c3], .bool b])) W := ⟨⟨k, t, A2, n2, c2, A3, n3, c3, rfl⟩, h⟩
set_option maxHeartbeats 8000000 in
set_option maxRecDepth 100000 in
theorem fd_nil : FdC [] := by
  rintro - ⟨k, x, ns, ks⟩ - - w A1 c1 A2 A3 c2 c3 - h1 g1 h2 g2 h3 g3
  clear g1 h2 g2 h3 g3 h1
  rw [show findB ⟨k, x, ns, ks⟩ [] = true by rw [findB]]
  have hl : ([] : List ByteArray).length = 0 := rfl
  rw [hl]
  clear hl
  go_enter Tryd.func39, Tryd.ntmps39
  go_wp2
  have HT := Lib.hid (Fw.start w #[.int .i64 k, .string x, .slice A2 ns.length c2, .slice A3 ks.length c3] #[.int .i64 k, .string x, .slice A2 ns.length c2, .slice A3 ks.length c3])
  have r0 := blk_cell HT.out.r 0; have r1 := blk_cell HT.out.r 1; have r2 := blk_cell HT.out.r 2; have r3 := blk_cell HT.out.r 3
  refine bodyPost_ret (v := .tuple #[.agg #[.int .i64 k, .string x, .slice A2 ns.length c2, .slice A3 ks.length c3], .bool true]) ?_ rfl ?_
  · simp [results, Tryd.results39, go_sem, r0, r1, r2, r3]
  · exact fd_end HT.out.b
set_option maxHeartbeats 8000000 in
set_option maxRecDepth 100000 in
theorem fd_other (y : ByteArray) (xs : List ByteArray) (k : Int) (x : ByteArray) (ns : List ByteArray) (ks : List Tn) (e6 : k ≠ 6) (e5 : k ≠ 5) (w : World) (A1 : Option Addr) (c1 : Nat) (A2 A3 : Option Addr) (c2 c3 : Nat) (hxl : xs.length + 1 ≤ 2147483647) :
    Calls Tryd.prog 39 #[.agg #[.int .i64 k, .string x, .slice A2 ns.length c2, .slice A3 ks.length c3], .slice A1 (xs.length + 1) c1, .bool false] w (FdP w false) := by
  have b6 : (k == 6) = false := beq_eq_false_iff_ne.mpr e6
  have b5 : (k == 5) = false := beq_eq_false_iff_ne.mpr e5
  obtain ⟨n, hn⟩ : ∃ n, n = xs.length + 1 := ⟨_, rfl⟩
  rw [← hn]
  have d0 : ((n : Int) == 0) = false := beq_eq_false_iff_ne.mpr (by omega)
  clear e6 e5
  go_enter Tryd.func39, Tryd.ntmps39
  go_wp2
  have HT := Lib.hid (Fw.start w #[.int .i64 k, .string x, .slice A2 ns.length c2, .slice A3 ks.length c3] zNd)
  have r0 := blk_cell HT.out.r 0; have r1 := blk_cell HT.out.r 1; have r2 := blk_cell HT.out.r 2; have r3 := blk_cell HT.out.r 3
  refine bodyPost_ret (v := .tuple #[.agg zNd, .bool false]) ?_ rfl ?_
  · simp [results, Tryd.results39, go_sem, r0, r1, r2, r3]
  · exact fd_end HT.out.b
set_option maxHeartbeats 8000000 in
set_option maxRecDepth 100000 in
theorem fd_obj (y : ByteArray) (xs : List ByteArray) (hi : FdC xs) (hsz : ∀ k ∈ y :: xs, k.size ≤ 2147483647) (x : ByteArray) (ns : List ByteArray) (ks : List Tn) (hsm : smT ⟨6, x, ns, ks⟩) (hko : ko ⟨6, x, ns, ks⟩) (w : World) (A1 : Option Addr) (c1 : Nat) (A2 A3 : Option Addr) (c2 c3 : Nat) (hxl : xs.length + 1 ≤ 2147483647)
    (h1 : xs.length + 1 ≤ c1) (g1 : Kd.string.C w A1 (xs.length + 1) (y :: xs)) (h2 : ns.length ≤ c2) (g2 : Kd.string.C w A2 ns.length ns) (h3 : ks.length ≤ c3) (g3 : kTn.C w A3 ks.length ks) :
    Calls Tryd.prog 39 #[.agg #[.int .i64 6, .string x, .slice A2 ns.length c2, .slice A3 ks.length c3], .slice A1 (xs.length + 1) c1, .bool false] w (FdP w (findB ⟨6, x, ns, ks⟩ (y :: xs))) := by
  obtain ⟨ad, rfl, e0⟩ := at_str g1 0 (by omega)
  rw [show (y :: xs).getD 0 ⟨#[]⟩ = y from rfl, show ad.add 0 = ad by cases ad; rfl] at e0
  have eb := World.block_lt_of_cell? w _ e0
  rw [smT] at hsm
  rw [ko] at hko
  have HM := Lib.hid (fun (W : World) (hb : Below w.heap.size w W) => Member_any ⟨6, x, ns, ks⟩ y W A2 A3 c2 ks.length c3 hsm.1 h2 (Kd.C_below g2 hb))
  have G1 := Lib.hid g1
  have G3 := Lib.hid g3
  obtain ⟨n, hn⟩ : ∃ n, n = xs.length + 1 := ⟨_, rfl⟩
  rw [← hn]
  rw [← hn] at h1 hxl
  have d0 : ((n : Int) == 0) = false := beq_eq_false_iff_ne.mpr (by omega)
  have hn0 : 0 < n := by omega
  have HN := Lib.hid hn
  clear hn
  cases hfi : fidx y ns with
  | none =>
    rw [findB_none (show fstI ⟨6, x, ns, ks⟩ y = none from hfi)]
    have HV := Lib.hid (show memV y ns = -1 by unfold memV; rw [hfi])
    clear hfi g1 g2 g3
    go_enter Tryd.func39, Tryd.ntmps39
    go_wp2_with fail
    have hT := Fw.start w #[.int .i64 6, .string x, .slice A2 ns.length c2, .slice A3 ks.length c3] zNd
    obtain ⟨WN, hWN⟩ : ∃ W, W = (w.alloc (.cells #[.int .i64 6, .string x, .slice A2 ns.length c2, .slice A3 ks.length c3] tNd)).alloc (.cells zNd tNd) := ⟨_, rfl⟩
    rw [← hWN] at hT ⊢
    clear hWN
    have hb := below_drew hT.b
    have hmd := HM.out WN.drew hb
    rw [show memV y (Tn.keys ⟨6, x, ns, ks⟩) = -1 from HV.out] at hmd
    have HMD := Lib.hid hmd
    clear hmd
    have e1 := (hb.cell eb).trans e0
    replace hT := hT.below (below_drew (Below.refl _ _))
    have p0 : WN.drew.cell? ⟨w.heap.size, 0, none⟩ = some (.int .i64 6) := blk_cell hT.p 0
    have p1 : WN.drew.cell? ⟨w.heap.size, 1, none⟩ = some (.string x) := blk_cell hT.p 1
    have p2 : WN.drew.cell? ⟨w.heap.size, 2, none⟩ = some (.slice A2 ns.length c2) := blk_cell hT.p 2
    have p3 : WN.drew.cell? ⟨w.heap.size, 3, none⟩ = some (.slice A3 ks.length c3) := blk_cell hT.p 3
    have HT := Lib.hid hT
    clear hT hb
    go_region_with (go_at_call 59; refine HMD.out.mono ?_; rintro e w1 ⟨rfl, hb⟩; have HX := Lib.hid (HT.out.below hb); have r0 := blk_cell HX.out.r 0; have r1 := blk_cell HX.out.r 1; have r2 := blk_cell HX.out.r 2; have r3 := blk_cell HX.out.r 3; have g0 := blk_frozen HX.out.r 0; have g1 := blk_frozen HX.out.r 1; have g2 := blk_frozen HX.out.r 2; have g3 := blk_frozen HX.out.r 3; clear hb)
    all_goals
      go_wp2
      refine bodyPost_ret (v := .tuple #[.agg zNd, .bool false]) ?_ rfl ?_
      · simp [results, Tryd.results39, go_sem, r0, r1, r2, r3, g0, g1, g2, g3]
      · refine fd_end ?_
        have := HX.out.b
        repeat (first | with_reducible exact this | refine Below.setCell ?_ (by simp) _)
  | some i =>
    have hin := (fidx_lt hfi).1
    have hn := HN.out
    have hik : i < ks.length := Nat.lt_of_lt_of_le hin (hko.1 rfl)
    obtain ⟨q, hq⟩ : ∃ q, q = ks.getD i zTn := ⟨_, rfl⟩
    have hkq : ks[i]? = some q := by rw [hq, List.getD_eq_getElem?_getD, List.getElem?_eq_getElem hik]; rfl
    have hqm : q ∈ ks := List.mem_of_getElem? hkq
    have hqs : smT q := smTs_mem hsm.2.2 q hqm
    have hqk : ko q := kos_mem hko.2 q hqm
    rw [findB_some (show fstI ⟨6, x, ns, ks⟩ y = some i from hfi) (show (Tn.kids ⟨6, x, ns, ks⟩)[i]? = some q from hkq)]
    have HV := Lib.hid (show memV y ns = (i : Int) by unfold memV; rw [hfi])
    obtain ⟨ad3, B2, d2, B3, d3, rfl, f0, f1, f2, f3, l2, k2, l3, k3⟩ := at_Tn g3 i hik
    rw [← hq] at f0 f1 f2 f3 l2 k2 l3 k3
    have fb := World.block_lt_of_cell? w _ f0
    obtain ⟨AQ, hAQ, hsl⟩ : ∃ AQ, AQ = (if c1 = 1 then some ad else (some ad).map (·.add (1 * 1))) ∧ ∀ W : World, (Instr.slice 27 (.slice (some ad) n c1) (some (.int .i64 1)) none none).run Tryd.prog W = .ok (.slice AQ (n - 1) (c1 - 1)) W := ⟨_, rfl, cut_from _ tSt .i64 (by kernel_rfl) rfl 1 (by kernel_rfl) (some ad) n c1 1 (by omega) (by omega)⟩
    have gQ : Kd.string.C w AQ (n - 1) xs := by
      have h := Kd.C_drop (m := 1) (c := c1) (xs := y :: xs) (by rw [List.length_cons]; exact g1) (by simp) (by rw [List.length_cons]; omega)
      rw [hAQ]
      rw [show n - 1 = xs.length by omega]
      exact h
    have HR := Lib.hid (fun (W : World) (hb : Below w.heap.size w W) => hi (fun k hk => hsz k (List.mem_cons_of_mem _ hk)) q hqs hqk W AQ (c1 - 1) B2 B3 d2 d3 (by omega) (by omega) (by have := Kd.C_below gQ hb; rwa [show n - 1 = xs.length by omega] at this) l2 (Kd.C_below k2 hb) l3 (Kd.C_below k3 hb))
    rw [show xs.length = n - 1 by omega] at HR
    have HL := Lib.hid (And.intro l2 l3)
    clear hn hkq hfi g1 g2 g3 hq hqm hqs hqk hAQ gQ k2 k3 l2 l3 hi hsz hsm hko
    go_enter Tryd.func39, Tryd.ntmps39
    go_wp2_with fail
    have hT := Fw.start w #[.int .i64 6, .string x, .slice A2 ns.length c2, .slice (some ad3) ks.length c3] zNd
    obtain ⟨WN, hWN⟩ : ∃ W, W = (w.alloc (.cells #[.int .i64 6, .string x, .slice A2 ns.length c2, .slice (some ad3) ks.length c3] tNd)).alloc (.cells zNd tNd) := ⟨_, rfl⟩
    rw [← hWN] at hT ⊢
    clear hWN
    have hb := below_drew hT.b
    have hmd := HM.out WN.drew hb
    rw [show memV y (Tn.keys ⟨6, x, ns, ks⟩) = (i : Int) from HV.out] at hmd
    have HMD := Lib.hid hmd
    clear hmd
    have e1 := (hb.cell eb).trans e0
    replace hT := hT.below (below_drew (Below.refl _ _))
    have p0 : WN.drew.cell? ⟨w.heap.size, 0, none⟩ = some (.int .i64 6) := blk_cell hT.p 0
    have p1 : WN.drew.cell? ⟨w.heap.size, 1, none⟩ = some (.string x) := blk_cell hT.p 1
    have p2 : WN.drew.cell? ⟨w.heap.size, 2, none⟩ = some (.slice A2 ns.length c2) := blk_cell hT.p 2
    have p3 : WN.drew.cell? ⟨w.heap.size, 3, none⟩ = some (.slice (some ad3) ks.length c3) := blk_cell hT.p 3
    have HT := Lib.hid hT
    clear hT hb
    go_region_with (go_at_call 59; refine HMD.out.mono ?_; rintro e w1 ⟨rfl, hb⟩; have HX := Lib.hid (HT.out.below hb); clear hb)
    all_goals
      have hd0 : decide ((i : Int) < 0) = false := decide_eq_false (by omega)
      go_wp2_with fail
      have hT := HX.out.below (below_drew (Below.refl _ _))
      have HRD := Lib.hid (HR.out w1.drew hT.b)
      have z3 : w1.drew.cell? ⟨w.heap.size, 3, none⟩ = some (.slice (some ad3) ks.length c3) := blk_cell hT.p 3
      have y0 := (hT.b.cell fb).trans f0
      have y1 := (hT.b.cell (by exact fb)).trans f1
      have y2 := (hT.b.cell (by exact fb)).trans f2
      have y3 := (hT.b.cell (by exact fb)).trans f3
      have HTD := Lib.hid hT
      clear hT
      go_region_with (go_at_call 39; refine HRD.out.mono ?_; rintro e w2 ⟨⟨k', t', X2, m2, v2, X3, m3, v3, rfl⟩, hb⟩; have HY := Lib.hid (HTD.out.below hb); have r0 := blk_cell HY.out.r 0; have r1 := blk_cell HY.out.r 1; have r2 := blk_cell HY.out.r 2; have r3 := blk_cell HY.out.r 3; have g0 := blk_frozen HY.out.r 0; have g1 := blk_frozen HY.out.r 1; have g2 := blk_frozen HY.out.r 2; have g3 := blk_frozen HY.out.r 3; clear hb)
      all_goals
        go_wp2
        refine bodyPost_ret (v := .tuple #[.agg #[.int .i64 k', .string t', .slice X2 m2 v2, .slice X3 m3 v3], .bool (findB q xs)]) ?_ rfl ?_
        · simp [results, Tryd.results39, go_sem, r0, r1, r2, r3, g0, g1, g2, g3]
        · refine fd_end ?_
          have := HY.out.b
          repeat (first | with_reducible exact this | refine Below.setCell ?_ (by simp) _)
theorem idx_none {s : ByteArray} (hs : s.size ≤ 2147483647) (w : World) (h : ixN s = none) : Calls Tryd.prog 61 #[.string s] w fun e w' => (∃ r : Int, e = .returned (.tuple #[.int .i64 r, .bool false])) ∧ Drawn0 w w' := by
  refine (Index_any s hs w).mono ?_
  rintro e w' ⟨⟨⟨r1, r2⟩, rfl, hp⟩, hd⟩
  rcases hp with ⟨_, m, hm, _⟩ | ⟨h2, _⟩
  · rw [h] at hm; cases hm
  · refine ⟨⟨r1, ?_⟩, hd⟩
    rw [show r2 = false from h2]
theorem idx_some {s : ByteArray} (hs : s.size ≤ 2147483647) (w : World) {m L : Nat} (h : ixN s = some m) (hL : L ≤ 2147483647) : Calls Tryd.prog 61 #[.string s] w fun e w' => (∃ r : Int, e = .returned (.tuple #[.int .i64 r, .bool true]) ∧ 0 ≤ r ∧ (m < L → r = (m : Int)) ∧ (L ≤ m → (L : Int) ≤ r)) ∧ Drawn0 w w' := by
  refine (Index_any s hs w).mono ?_
  rintro e w' ⟨⟨⟨r1, r2⟩, rfl, hp⟩, hd⟩
  rcases hp with ⟨h2, m', hm, h0, hr⟩ | ⟨_, hm⟩
  · rw [h] at hm
    injection hm with hm; subst hm
    refine ⟨⟨r1, by rw [show r2 = true from h2], h0, ?_, ?_⟩, hd⟩
    · intro hl; unfold rel58 at hr; dsimp only at hr; omega
    · intro hl; unfold rel58 at hr; dsimp only at hr; omega
  · rw [h] at hm; cases hm
set_option maxHeartbeats 8000000 in
set_option maxRecDepth 100000 in
theorem fd_arr (y : ByteArray) (xs : List ByteArray) (hi : FdC xs) (hsz : ∀ k ∈ y :: xs, k.size ≤ 2147483647) (x : ByteArray) (ns : List ByteArray) (ks : List Tn) (hsm : smT ⟨5, x, ns, ks⟩) (hko : ko ⟨5, x, ns, ks⟩) (w : World) (A1 : Option Addr) (c1 : Nat) (A2 A3 : Option Addr) (c2 c3 : Nat) (hxl : xs.length + 1 ≤ 2147483647)
    (h1 : xs.length + 1 ≤ c1) (g1 : Kd.string.C w A1 (xs.length + 1) (y :: xs)) (h2 : ns.length ≤ c2) (g2 : Kd.string.C w A2 ns.length ns) (h3 : ks.length ≤ c3) (g3 : kTn.C w A3 ks.length ks) :
    Calls Tryd.prog 39 #[.agg #[.int .i64 5, .string x, .slice A2 ns.length c2, .slice A3 ks.length c3], .slice A1 (xs.length + 1) c1, .bool false] w (FdP w (findB ⟨5, x, ns, ks⟩ (y :: xs))) := by
  obtain ⟨ad, rfl, e0⟩ := at_str g1 0 (by omega)
  rw [show (y :: xs).getD 0 ⟨#[]⟩ = y from rfl, show ad.add 0 = ad by cases ad; rfl] at e0
  have eb := World.block_lt_of_cell? w _ e0
  rw [smT] at hsm
  rw [ko] at hko
  have hlK := hsm.2.1
  have G1 := Lib.hid g1
  have G3 := Lib.hid g3
  obtain ⟨n, hn⟩ : ∃ n, n = xs.length + 1 := ⟨_, rfl⟩
  rw [← hn]
  rw [← hn] at h1 hxl
  have d0 : ((n : Int) == 0) = false := beq_eq_false_iff_ne.mpr (by omega)
  have hn0 : 0 < n := by omega
  have HN := Lib.hid hn
  clear hn
  cases hfi : ixN y with
  | none =>
    rw [findB_none (show fstI ⟨5, x, ns, ks⟩ y = none from hfi)]
    have HI := Lib.hid (fun W => idx_none (hsz y List.mem_cons_self) W hfi)
    have HT0 := Lib.hid (Fw.start w #[.int .i64 5, .string x, .slice A2 ns.length c2, .slice A3 ks.length c3] zNd)
    have e1 := (HT0.out.b.cell eb).trans e0
    clear hfi g1 g2 g3
    go_enter Tryd.func39, Tryd.ntmps39
    go_wp2_with (go_at_call 61; refine (HI.out _).mono ?_; rintro e w1 ⟨⟨r, rfl⟩, hd⟩; have HX := Lib.hid (HT0.out.below hd.below); have r0 := blk_cell HX.out.r 0; have r1 := blk_cell HX.out.r 1; have r2 := blk_cell HX.out.r 2; have r3 := blk_cell HX.out.r 3; have g0 := blk_frozen HX.out.r 0; have g1 := blk_frozen HX.out.r 1; have g2 := blk_frozen HX.out.r 2; have g3 := blk_frozen HX.out.r 3; clear hd)
    all_goals
      go_wp2
      refine bodyPost_ret (v := .tuple #[.agg zNd, .bool false]) ?_ rfl ?_
      · simp [results, Tryd.results39, go_sem, r0, r1, r2, r3, g0, g1, g2, g3]
      · refine fd_end ?_
        have := HX.out.b
        repeat (first | with_reducible exact this | refine Below.setCell ?_ (by simp) _)
  | some i =>
    have hn := HN.out
    rcases Nat.lt_or_ge i ks.length with hik | hik
    · have hik' := hik
      obtain ⟨q, hq⟩ : ∃ q, q = ks.getD i zTn := ⟨_, rfl⟩
      have hkq : ks[i]? = some q := by rw [hq, List.getD_eq_getElem?_getD, List.getElem?_eq_getElem hik]; rfl
      have hqm : q ∈ ks := List.mem_of_getElem? hkq
      have hqs : smT q := smTs_mem hsm.2.2 q hqm
      have hqk : ko q := kos_mem hko.2 q hqm
      rw [findB_some (show fstI ⟨5, x, ns, ks⟩ y = some i from hfi) (show (Tn.kids ⟨5, x, ns, ks⟩)[i]? = some q from hkq)]
      have HI := Lib.hid (fun W => idx_some (hsz y List.mem_cons_self) W hfi hlK)
      have HIK := Lib.hid hik
      obtain ⟨ad3, B2, d2, B3, d3, rfl, f0, f1, f2, f3, l2, k2, l3, k3⟩ := at_Tn g3 i hik
      rw [← hq] at f0 f1 f2 f3 l2 k2 l3 k3
      have fb := World.block_lt_of_cell? w _ f0
      obtain ⟨AQ, hAQ, hsl⟩ : ∃ AQ, AQ = (if c1 = 1 then some ad else (some ad).map (·.add (1 * 1))) ∧ ∀ W : World, (Instr.slice 27 (.slice (some ad) n c1) (some (.int .i64 1)) none none).run Tryd.prog W = .ok (.slice AQ (n - 1) (c1 - 1)) W := ⟨_, rfl, cut_from _ tSt .i64 (by kernel_rfl) rfl 1 (by kernel_rfl) (some ad) n c1 1 (by omega) (by omega)⟩
      have gQ : Kd.string.C w AQ (n - 1) xs := by
        have h := Kd.C_drop (m := 1) (c := c1) (xs := y :: xs) (by rw [List.length_cons]; exact g1) (by simp) (by rw [List.length_cons]; omega)
        rw [hAQ]
        rw [show n - 1 = xs.length by omega]
        exact h
      have HR := Lib.hid (fun (W : World) (hb : Below w.heap.size w W) => hi (fun k hk => hsz k (List.mem_cons_of_mem _ hk)) q hqs hqk W AQ (c1 - 1) B2 B3 d2 d3 (by omega) (by omega) (by have := Kd.C_below gQ hb; rwa [show n - 1 = xs.length by omega] at this) l2 (Kd.C_below k2 hb) l3 (Kd.C_below k3 hb))
      rw [show xs.length = n - 1 by omega] at HR
      have HL := Lib.hid (And.intro l2 l3)
      clear hn hkq hfi g1 g2 g3 hq hqm hqs hqk hAQ gQ k2 k3 l2 l3 hi hsz hsm hko
      have HT0 := Lib.hid (Fw.start w #[.int .i64 5, .string x, .slice A2 ns.length c2, .slice (some ad3) ks.length c3] zNd)
      have e1 := (HT0.out.b.cell eb).trans e0
      have di : decide ((i : Int) < (ks.length : Int)) = true := decide_eq_true (by omega)
      have di2 : decide (i < ks.length) = true := decide_eq_true hik
      have hd0 : decide ((i : Int) < 0) = false := decide_eq_false (by omega)
      go_enter Tryd.func39, Tryd.ntmps39
      go_wp2_with (go_at_call 61; refine (HI.out _).mono ?_; rintro e w1 ⟨⟨r, rfl, _, hr, _⟩, hd⟩; obtain rfl : r = (i : Int) := hr HIK.out; have HX := Lib.hid (HT0.out.below hd.below); have z3 : w1.cell? ⟨w.heap.size, 3, none⟩ = some (.slice (some ad3) ks.length c3) := blk_cell HX.out.p 3; clear hd hr)
      all_goals
        have hT := HX.out.below (below_drew (Below.refl _ _))
        have HRD := Lib.hid (HR.out w1.drew hT.b)
        have z3 : w1.drew.cell? ⟨w.heap.size, 3, none⟩ = some (.slice (some ad3) ks.length c3) := blk_cell hT.p 3
        have y0 := (hT.b.cell fb).trans f0
        have y1 := (hT.b.cell (by exact fb)).trans f1
        have y2 := (hT.b.cell (by exact fb)).trans f2
        have y3 := (hT.b.cell (by exact fb)).trans f3
        have HTD := Lib.hid hT
        clear hT
        go_region_with (go_at_call 39; refine HRD.out.mono ?_; rintro e w2 ⟨⟨k', t', X2, m2, v2, X3, m3, v3, rfl⟩, hb⟩; have HY := Lib.hid (HTD.out.below hb); have r0 := blk_cell HY.out.r 0; have r1 := blk_cell HY.out.r 1; have r2 := blk_cell HY.out.r 2; have r3 := blk_cell HY.out.r 3; have g0 := blk_frozen HY.out.r 0; have g1 := blk_frozen HY.out.r 1; have g2 := blk_frozen HY.out.r 2; have g3 := blk_frozen HY.out.r 3; clear hb)
        all_goals
          go_wp2
          refine bodyPost_ret (v := .tuple #[.agg #[.int .i64 k', .string t', .slice X2 m2 v2, .slice X3 m3 v3], .bool (findB q xs)]) ?_ rfl ?_
          · simp [results, Tryd.results39, go_sem, r0, r1, r2, r3, g0, g1, g2, g3]
          · refine fd_end ?_
            have := HY.out.b
            repeat (first | with_reducible exact this | refine Below.setCell ?_ (by simp) _)
    · rw [findB_out (show fstI ⟨5, x, ns, ks⟩ y = some i from hfi) (show (Tn.kids ⟨5, x, ns, ks⟩)[i]? = none from List.getElem?_eq_none hik)]
      have HI := Lib.hid (fun W => idx_some (hsz y List.mem_cons_self) W hfi hlK)
      have HIK := Lib.hid hik
      have HT0 := Lib.hid (Fw.start w #[.int .i64 5, .string x, .slice A2 ns.length c2, .slice A3 ks.length c3] zNd)
      have e1 := (HT0.out.b.cell eb).trans e0
      clear hfi g1 g2 g3 hn hik
      go_enter Tryd.func39, Tryd.ntmps39
      go_wp2_with (go_at_call 61; refine (HI.out _).mono ?_; rintro e w1 ⟨⟨r, rfl, hr0, _, hr⟩, hd⟩; have hrl := hr HIK.out; have hdr : decide (r < (ks.length : Int)) = false := decide_eq_false (by omega); have HX := Lib.hid (HT0.out.below hd.below); have z3 : w1.cell? ⟨w.heap.size, 3, none⟩ = some (.slice A3 ks.length c3) := blk_cell HX.out.p 3; have r0 := blk_cell HX.out.r 0; have r1 := blk_cell HX.out.r 1; have r2 := blk_cell HX.out.r 2; have r3 := blk_cell HX.out.r 3; have g0 := blk_frozen HX.out.r 0; have g1 := blk_frozen HX.out.r 1; have g2 := blk_frozen HX.out.r 2; have g3 := blk_frozen HX.out.r 3; clear hd hr)
      all_goals
        go_wp2
        refine bodyPost_ret (v := .tuple #[.agg zNd, .bool false]) ?_ rfl ?_
        · simp [results, Tryd.results39, go_sem, r0, r1, r2, r3, g0, g1, g2, g3]
        · refine fd_end ?_
          have := HX.out.b
          repeat (first | with_reducible exact this | refine Below.setCell ?_ (by simp) _)
theorem fd_all : ∀ xs : List ByteArray, FdC xs
  | [] => fd_nil
  | y :: xs => by
    intro hsz x hsm hko w A1 c1 A2 A3 c2 c3 hxl h1 g1 h2 g2 h3 g3
    obtain ⟨k, t, ns, ks⟩ := x
    by_cases e6 : k = 6
    · subst e6; exact fd_obj y xs (fd_all xs) hsz t ns ks hsm hko w A1 c1 A2 A3 c2 c3 hxl h1 g1 h2 g2 h3 g3
    by_cases e5 : k = 5
    · subst e5; exact fd_arr y xs (fd_all xs) hsz t ns ks hsm hko w A1 c1 A2 A3 c2 c3 hxl h1 g1 h2 g2 h3 g3
    rw [findB_none (show fstI ⟨k, t, ns, ks⟩ y = none by unfold fstI; rw [if_neg e6, if_neg e5])]
    exact fd_other y xs k t ns ks e6 e5 w A1 c1 A2 A3 c2 c3 hxl
end Go.Proofs.YtalcjolomigedaaDoor.Fp

set_option linter.unusedVariables false
set_option linter.unusedSimpArgs false
namespace Go.Proofs.YtalcjolomigedaaDoor.Fp
open Go.RowKit Go.Proofs.YtalcjolomigedaaDoorW.PrintWords Go.Proofs.YtalcjolomigedaaDoorW.PrintLast Go.Proofs.YtalcjolomigedaaDoorW.PrintMore Go.Proofs.YtalcjolomigedaaDoor.Aid Go.Proofs.YtalcjolomigedaaDoor.J

/-- What fjText hands back: a tree and whether the statement speaks of it. -/
def FtPost (s : ByteArray) (w : World) (e : Ending) (w' : World) : Prop := ∃ (x : Tn) (A2 : Option Addr) (c2 : Nat) (A3 : Option Addr) (c3 : Nat) (ok : Bool), Below w.heap.size w w' ∧ Kd.string.R tSt w' w.heap.size (fun _ => True) (.slice A2 x.keys.length c2) x.keys ∧ kTn.R tNd w' w.heap.size (fun _ => True) (.slice A3 x.kids.length c3) x.kids ∧
  e = .returned (.tuple #[.agg #[.int .i64 x.kind, .string x.text, .slice A2 x.keys.length c2, .slice A3 x.kids.length c3], .bool ok]) ∧ (ok = true → s.size ≤ 4000 ∧ valid (bytesOf s) = true ∧ prd (bytesOf s) = true ∧ readT s = some x ∧ (dep x ≤ 4294967296 → dep x ≤ 250))
theorem Sets.drew9 {B : Nat} {W W' : World} (h : Sets B W W') : Sets B W W'.drew := ⟨h.os, h.tape, h.output, h.size, h.block⟩
/-- But block B nothing has turned. -/
structure SetA (B : Nat) (W W' : World) : Prop where
  os : W'.os = W.os
  tape : W'.tape = W.tape
  output : W'.output = W.output
  size : W'.heap.size = W.heap.size
  block : ∀ k, k ≠ B → W'.heap[k]? = W.heap[k]?
theorem SetA.refl (B : Nat) (W : World) : SetA B W W := ⟨rfl, rfl, rfl, rfl, fun _ _ => rfl⟩
theorem SetA.set {B : Nat} {W W' : World} (h : SetA B W W') (j : Nat) (u : Value) : SetA B W (W'.setCell ⟨B, j, none⟩ u) :=
  ⟨h.os, h.tape, h.output, by simpa using h.size, fun k h0 => (Below.heap_setCell W' ⟨B, j, none⟩ u k h0).trans (h.block k h0)⟩
theorem SetA.R {α : Type} {d : Kd α} {e : Nat} {base : Nat} {ok : Nat → Prop} {v : Value} {xs : List α} {B : Nat} {W W' : World} (h : SetA B W W') (hr : d.R e W base ok v xs) (hB : B + 1 ≤ base) : d.R e W' B ok v xs :=
  Kd.R_lower (R_from hr fun k hk _ => h.block k (by omega)) (by omega)
theorem ft_no {s : ByteArray} {w W : World} (h : Rw w W) (W' : World) (hS : Sets w.heap.size W W') : FtPost s w (.returned (.tuple #[.agg #[.int .i64 0, .string ⟨#[]⟩, .slice none 0 0, .slice none 0 0], .bool false])) W' :=
  ⟨⟨0, ⟨#[]⟩, [], []⟩, none, 0, none, 0, false, (read_no h W' hS).1, Kd.R_nil _ _ _ _ _, Kd.R_nil _ _ _ _ _, rfl, fun e => by cases e⟩
theorem ft_yes {s : ByteArray} {w W : World} {x : Tn} {A3 A4 : Option Addr} {c3 c4 B : Nat} {ok : Bool} (h : Rw w W) (h3 : Kd.string.R tSt W B (fun _ => True) (.slice A3 x.keys.length c3) x.keys) (h4 : kTn.R tNd W B (fun _ => True) (.slice A4 x.kids.length c4) x.kids) (hB : w.heap.size + 1 ≤ B) (W' : World) (hS : SetA w.heap.size W W')
    (hok : ok = true → s.size ≤ 4000 ∧ valid (bytesOf s) = true ∧ prd (bytesOf s) = true ∧ readT s = some x ∧ (dep x ≤ 4294967296 → dep x ≤ 250)) :
    FtPost s w (.returned (.tuple #[.agg #[.int .i64 x.kind, .string x.text, .slice A3 x.keys.length c3, .slice A4 x.kids.length c4], .bool ok])) W' :=
  ⟨x, A3, c3, A4, c4, ok, ⟨hS.os.trans h.b.os, hS.tape.trans h.b.tape, hS.output.trans h.b.output, by rw [hS.size]; exact h.b.size, fun k hk => (hS.block k (by omega)).trans (h.b.block k hk)⟩, hS.R h3 hB, hS.R h4 hB, rfl, hok⟩
set_option maxHeartbeats 8000000 in
set_option maxRecDepth 100000 in
theorem fjText_any (s : ByteArray) (hs : s.size ≤ 2147483647) (w : World) :
    Calls Tryd.prog 12 #[.string s] w (FtPost s w) := by
  have HU := Lib.hid (fun W => UTF8_any s W hs)
  have HP := Lib.hid (fun W => KC.Paired_any s hs W)
  obtain ⟨u, hu⟩ : ∃ u, u = valid (bytesOf s) := ⟨_, rfl⟩
  obtain ⟨p, hp⟩ : ∃ p, p = prd (bytesOf s) := ⟨_, rfl⟩
  rw [← hu] at HU
  rw [← hp] at HP
  by_cases h4 : 4000 < s.size
  · have d1 : decide ((4000 : Int) < (s.size : Int)) = true := decide_eq_true (by omega)
    have d2 : decide (4000 < s.size) = true := decide_eq_true h4
    clear hu hp HU HP
    go_enter Tryd.func12, Tryd.ntmps12
    go_wp2
    have HT := Lib.hid (Rw.start w)
    have r0 := blk_cell HT.out.r 0; have r1 := blk_cell HT.out.r 1; have r2 := blk_cell HT.out.r 2; have r3 := blk_cell HT.out.r 3; have g0 := blk_frozen HT.out.r 0; have g1 := blk_frozen HT.out.r 1; have g2 := blk_frozen HT.out.r 2; have g3 := blk_frozen HT.out.r 3
    refine bodyPost_ret (v := .tuple #[.agg #[.int .i64 0, .string ⟨#[]⟩, .slice none 0 0, .slice none 0 0], .bool false]) ?_ rfl ?_
    · simp [results, Tryd.results12, go_sem, r0, r1, r2, r3, g0, g1, g2, g3]
    · refine ft_no HT.out _ ?_; repeat (first | with_reducible exact Sets.refl _ _ | with_reducible apply Sets.set0 | with_reducible apply Sets.set1)
  have d1 : decide ((4000 : Int) < (s.size : Int)) = false := decide_eq_false (by omega)
  have d2 : decide (4000 < s.size) = false := decide_eq_false h4
  cases u with
  | false =>
    clear hu hp HP
    go_enter Tryd.func12, Tryd.ntmps12
    go_wp2_with (go_at_call 29; refine (HU.out _).mono ?_; rintro e w1 ⟨rfl, hd⟩; have HT := Lib.hid ((Rw.start w).below hd.below); clear hd; have r0 := blk_cell HT.out.r 0; have r1 := blk_cell HT.out.r 1; have r2 := blk_cell HT.out.r 2; have r3 := blk_cell HT.out.r 3; have g0 := blk_frozen HT.out.r 0; have g1 := blk_frozen HT.out.r 1; have g2 := blk_frozen HT.out.r 2; have g3 := blk_frozen HT.out.r 3)
    refine bodyPost_ret (v := .tuple #[.agg #[.int .i64 0, .string ⟨#[]⟩, .slice none 0 0, .slice none 0 0], .bool false]) ?_ rfl ?_
    · simp [results, Tryd.results12, go_sem, r0, r1, r2, r3, g0, g1, g2, g3]
    · refine ft_no HT.out _ ?_; repeat (first | with_reducible exact Sets.refl _ _ | with_reducible apply Sets.set0 | with_reducible apply Sets.set1)
  | true =>
  cases p with
  | false =>
    clear hu hp
    go_enter Tryd.func12, Tryd.ntmps12
    go_wp2_with (first
      | (go_at_call 29; refine (HU.out _).mono ?_; rintro e w1 ⟨rfl, hd⟩; have HT := Lib.hid ((Rw.start w).below hd.below); clear hd)
      | (go_at_call 30; refine (HP.out _).mono ?_; rintro e w2 ⟨rfl, hd⟩; replace HT := Lib.hid (HT.out.below hd); clear hd; have r0 := blk_cell HT.out.r 0; have r1 := blk_cell HT.out.r 1; have r2 := blk_cell HT.out.r 2; have r3 := blk_cell HT.out.r 3; have g0 := blk_frozen HT.out.r 0; have g1 := blk_frozen HT.out.r 1; have g2 := blk_frozen HT.out.r 2; have g3 := blk_frozen HT.out.r 3))
    refine bodyPost_ret (v := .tuple #[.agg #[.int .i64 0, .string ⟨#[]⟩, .slice none 0 0, .slice none 0 0], .bool false]) ?_ rfl ?_
    · simp [results, Tryd.results12, go_sem, r0, r1, r2, r3, g0, g1, g2, g3]
    · refine ft_no HT.out _ ?_; repeat (first | with_reducible exact Sets.refl _ _ | with_reducible apply Sets.set0 | with_reducible apply Sets.set1)
  | true =>
  have HR := Lib.hid (fun W => Read_any s hs W)
  cases hx : readT s with
  | none =>
    rw [hx] at HR
    clear hu hp hx
    go_enter Tryd.func12, Tryd.ntmps12
    go_wp2_with (first
      | (go_at_call 29; refine (HU.out _).mono ?_; rintro e w1 ⟨rfl, hd⟩; have HT := Lib.hid ((Rw.start w).below hd.below); clear hd)
      | (go_at_call 30; refine (HP.out _).mono ?_; rintro e w2 ⟨rfl, hd⟩; replace HT := Lib.hid (HT.out.below hd); clear hd)
      | (go_at_call 31; refine (HR.out _).mono ?_; rintro e w3 ⟨hb, rfl⟩; replace HT := Lib.hid ((HT.out.below hb).below (below_alloc (Below.refl _ _) (.cells #[.int .i64 0, .string ⟨#[]⟩, .slice none 0 0, .slice none 0 0] tNd))); clear hb; have r0 := blk_cell HT.out.r 0; have r1 := blk_cell HT.out.r 1; have r2 := blk_cell HT.out.r 2; have r3 := blk_cell HT.out.r 3; have g0 := blk_frozen HT.out.r 0; have g1 := blk_frozen HT.out.r 1; have g2 := blk_frozen HT.out.r 2; have g3 := blk_frozen HT.out.r 3))
    go_region
    go_wp2
    refine bodyPost_ret (v := .tuple #[.agg #[.int .i64 0, .string ⟨#[]⟩, .slice none 0 0, .slice none 0 0], .bool false]) ?_ rfl ?_
    · simp [results, Tryd.results12, go_sem, r0, r1, r2, r3, g0, g1, g2, g3]
    · refine ft_no HT.out _ ?_; refine Sets.drew9 ?_; repeat (first | with_reducible exact Sets.refl _ _ | with_reducible apply Sets.set0 | with_reducible apply Sets.set1)
  | some x =>
    rw [hx] at HR
    have HS := Lib.hid (fun W A2 A3 c2 c3 => dep_any x (by
      unfold readT at hx
      cases ht : text (bytesOf s) with
      | none => rw [ht] at hx; cases hx
      | some p =>
        rw [ht] at hx
        rw [← Option.some.inj hx]
        exact sm_tree hs p (text_okT ht)) W A2 A3 c2 c3)
    have HK := Lib.hid (And.intro h4 (And.intro hu.symm (And.intro hp.symm hx)))
    clear hu hp hx h4
    go_enter Tryd.func12, Tryd.ntmps12
    go_wp2_with (first
      | (go_at_call 29; refine (HU.out _).mono ?_; rintro e w1 ⟨rfl, hd⟩; have HT := Lib.hid ((Rw.start w).below hd.below); clear hd)
      | (go_at_call 30; refine (HP.out _).mono ?_; rintro e w2 ⟨rfl, hd⟩; replace HT := Lib.hid (HT.out.below hd); clear hd)
      | (go_at_call 31; refine (HR.out _).mono ?_; rintro e w3 ⟨A2, c2, A3, c3, hb, h2, h3, rfl⟩; have hT := HT.out.below hb; have hz := hT.size; have HQ := Lib.hid HT.out.size; have hb4 := below_alloc (Below.refl w3.heap.size w3) (.cells #[.int .i64 x.kind, .string x.text, .slice A2 x.keys.length c2, .slice A3 x.kids.length c3] tNd); replace h2 := Kd.R_below h2 hb4; replace h3 := Kd.R_below h3 hb4; replace hT := hT.below hb4; have HX := Lib.hid (And.intro hT (And.intro h2 h3)); have e2 := Kd.R_reads' h2; have e3 := Kd.R_reads' h3; have KU := Lib.hid (HS.out (w3.alloc (.cells #[.int .i64 x.kind, .string x.text, .slice A2 x.keys.length c2, .slice A3 x.kids.length c3] tNd)).drew A2 A3 c2 c3 e2.2.1 (Kd.C_below e2.2.2 (below_drew (Below.refl _ _))) e3.2.1 (Kd.C_below e3.2.2 (below_drew (Below.refl _ _)))); clear HT hb hb4 h2 h3 hT e2 e3; have r0 := blk_cell HX.out.1.r 0; have r1 := blk_cell HX.out.1.r 1; have r2 := blk_cell HX.out.1.r 2; have r3 := blk_cell HX.out.1.r 3; have g0 := blk_frozen HX.out.1.r 0; have g1 := blk_frozen HX.out.1.r 1; have g2 := blk_frozen HX.out.1.r 2; have g3 := blk_frozen HX.out.1.r 3))
    clear r0 r1 r2 r3 g0 g1 g2 g3
    have hN := blk_new w3 (.cells #[.int .i64 x.kind, .string x.text, .slice A2 x.keys.length c2, .slice A3 x.kids.length c3] tNd)
    have hltn : w.heap.size < w3.heap.size := by omega
    obtain ⟨nb, hnb⟩ : ∃ nb, nb = w3.heap.size := ⟨_, rfl⟩
    obtain ⟨WN, hWN⟩ : ∃ W, W = w3.alloc (.cells #[.int .i64 x.kind, .string x.text, .slice A2 x.keys.length c2, .slice A3 x.kids.length c3] tNd) := ⟨_, rfl⟩
    rw [← hnb] at hN hltn ⊢
    rw [← hWN] at HX KU hN ⊢
    clear hnb hWN hz
    have n0 := blk_cell hN 0; have n1 := blk_cell hN 1; have n2 := blk_cell hN 2; have n3 := blk_cell hN 3
    have HN := Lib.hid hN
    clear hN
    have hS0 : WN.drew.cell? ⟨nb, 0, none⟩ = some (.int .i64 x.kind) ∧ WN.drew.cell? ⟨nb, 1, none⟩ = some (.string x.text) ∧ WN.drew.cell? ⟨nb, 2, none⟩ = some (.slice A2 x.keys.length c2) ∧ WN.drew.cell? ⟨nb, 3, none⟩ = some (.slice A3 x.kids.length c3) := ⟨n0, n1, n2, n3⟩
    have hne : nb ≠ w.heap.size := by omega
    go_region_held3 (fun W => W.cell? ⟨nb, 0, none⟩ = some (.int .i64 x.kind) ∧ W.cell? ⟨nb, 1, none⟩ = some (.string x.text) ∧ W.cell? ⟨nb, 2, none⟩ = some (.slice A2 x.keys.length c2) ∧ W.cell? ⟨nb, 3, none⟩ = some (.slice A3 x.kids.length c3))
      (first | (with_reducible exact hS0) | (with_reducible exact hS1) | (with_reducible exact hS2 _ _ _ _))
      ((first
        | (go_at_call 32; refine KU.out.mono ?_; rintro e w4 ⟨d, rfl, hd, hb⟩; have hb := below_then (below_drew (Below.refl _ _)) (Nat.le_refl _) hb; have HY := Lib.hid (HX.out.1.below hb); have HZ := Lib.hid (And.intro (Kd.R_below HX.out.2.1 hb) (Kd.R_below HX.out.2.2 hb)); have HD := Lib.hid hd; have hN4 := blk_below HN.out hb; have hS1 : w4.cell? ⟨nb, 0, none⟩ = some (.int .i64 x.kind) ∧ w4.cell? ⟨nb, 1, none⟩ = some (.string x.text) ∧ w4.cell? ⟨nb, 2, none⟩ = some (.slice A2 x.keys.length c2) ∧ w4.cell? ⟨nb, 3, none⟩ = some (.slice A3 x.kids.length c3) := ⟨blk_cell hN4 0, blk_cell hN4 1, blk_cell hN4 2, blk_cell hN4 3⟩; have hS2 : ∀ u0 u1 u2 u3, (fun W : World => W.cell? ⟨nb, 0, none⟩ = some (.int .i64 x.kind) ∧ W.cell? ⟨nb, 1, none⟩ = some (.string x.text) ∧ W.cell? ⟨nb, 2, none⟩ = some (.slice A2 x.keys.length c2) ∧ W.cell? ⟨nb, 3, none⟩ = some (.slice A3 x.kids.length c3)) ((((w4.setCell ⟨w.heap.size, 0, none⟩ u0).setCell ⟨w.heap.size, 1, none⟩ u1).setCell ⟨w.heap.size, 2, none⟩ u2).setCell ⟨w.heap.size, 3, none⟩ u3) := fun u0 u1 u2 u3 => ⟨by rw [cell_far _ _ _ _ hne, cell_far _ _ _ _ hne, cell_far _ _ _ _ hne, cell_far _ _ _ _ hne]; exact hS1.1, by rw [cell_far _ _ _ _ hne, cell_far _ _ _ _ hne, cell_far _ _ _ _ hne, cell_far _ _ _ _ hne]; exact hS1.2.1, by rw [cell_far _ _ _ _ hne, cell_far _ _ _ _ hne, cell_far _ _ _ _ hne, cell_far _ _ _ _ hne]; exact hS1.2.2.1, by rw [cell_far _ _ _ _ hne, cell_far _ _ _ _ hne, cell_far _ _ _ _ hne, cell_far _ _ _ _ hne]; exact hS1.2.2.2⟩; clear hd hb hN4; have r0 := blk_cell HY.out.r 0; have r1 := blk_cell HY.out.r 1; have r2 := blk_cell HY.out.r 2; have r3 := blk_cell HY.out.r 3; have g0 := blk_frozen HY.out.r 0; have g1 := blk_frozen HY.out.r 1; have g2 := blk_frozen HY.out.r 2; have g3 := blk_frozen HY.out.r 3)))
    all_goals
      go_wp2
      refine bodyPost_ret (v := .tuple #[.agg #[.int .i64 x.kind, .string x.text, .slice A2 x.keys.length c2, .slice A3 x.kids.length c3], .bool (decide (d ≤ 250))]) ?_ rfl ?_
      · simp [results, Tryd.results12, go_sem, r0, r1, r2, r3, g0, g1, g2, g3]
      · refine ft_yes HY.out HZ.out.1 HZ.out.2 HQ.out _ ?_ (fun e => ?_)
        · repeat (first | with_reducible exact SetA.refl _ _ | with_reducible apply SetA.set)
        · obtain ⟨k1, k2, k3, k4⟩ := HK.out
          exact ⟨by omega, k2, k3, k4, fun hd => by have h1 := HD.out hd; have h2 := of_decide_eq_true e; omega⟩
end Go.Proofs.YtalcjolomigedaaDoor.Fp

set_option linter.unusedVariables false
set_option linter.unusedSimpArgs false
namespace Go.Proofs.YtalcjolomigedaaDoor.Fp
open Go.RowKit Go.Proofs.YtalcjolomigedaaDoorW.PrintWords Go.Proofs.YtalcjolomigedaaDoorW.PrintLast Go.Proofs.YtalcjolomigedaaDoorW.PrintMore Go.Proofs.YtalcjolomigedaaDoor.Aid Go.Proofs.YtalcjolomigedaaDoor.J

/-- What fjLook hands back. -/
def LkPost (s : ByteArray) (keys : List ByteArray) (w : World) (e : Ending) (w' : World) : Prop := ∃ (k : Int) (t : ByteArray) (A2 : Option Addr) (n2 c2 : Nat) (A3 : Option Addr) (n3 c3 : Nat) (is sp : Bool),
  e = .returned (.tuple #[.agg #[.int .i64 k, .string t, .slice A2 n2 c2, .slice A3 n3 c3], .bool is, .bool sp]) ∧ Below w.heap.size w w' ∧
  (sp = true → ∃ x, s.size ≤ 4000 ∧ prd (bytesOf s) = true ∧ readT s = some x ∧ (dep x ≤ 4294967296 → dep x ≤ 250) ∧ keysP keys ∧ uq x ∧ is = findB x keys)
theorem nfalse {b : Bool} (h : (!b) = false) : b = true := by cases b; cases h; rfl
theorem lk_no {s : ByteArray} {keys : List ByteArray} {w W : World} (h : Below w.heap.size w W) : LkPost s keys w (.returned (.tuple #[.agg zNd, .bool false, .bool false])) W := ⟨0, ⟨#[]⟩, none, 0, 0, none, 0, 0, false, false, rfl, h, fun e => by cases e⟩
theorem lk_yes {s : ByteArray} {keys : List ByteArray} {w W : World} {k : Int} {t : ByteArray} {A2 A3 : Option Addr} {n2 c2 n3 c3 : Nat} {x : Tn} (h : Below w.heap.size w W) (h1 : s.size ≤ 4000 ∧ valid (bytesOf s) = true ∧ prd (bytesOf s) = true ∧ readT s = some x ∧ (dep x ≤ 4294967296 → dep x ≤ 250)) (h2 : keysP keys) (h3 : uq x) :
    LkPost s keys w (.returned (.tuple #[.agg #[.int .i64 k, .string t, .slice A2 n2 c2, .slice A3 n3 c3], .bool (findB x keys), .bool true])) W :=
  ⟨k, t, A2, n2, c2, A3, n3, c3, _, true, rfl, h, fun _ => ⟨x, h1.1, h1.2.2.1, h1.2.2.2.1, h1.2.2.2.2, h2, h3, rfl⟩⟩
set_option maxHeartbeats 8000000 in
set_option maxRecDepth 100000 in
theorem fjLook_any (s : ByteArray) (hs : s.size ≤ 2147483647) (w : World) (A : Option Addr) (c : Nat) (keys : List ByteArray) (hk : keys.length ≤ 2147483647) (hc : keys.length ≤ c) (g : Kd.string.C w A keys.length keys) (hT : ∀ x, readT s = some x → prd (bytesOf s) = true → (dep x ≤ 4294967296 → dep x ≤ 250) → smT x ∧ ko x) :
    Calls Tryd.prog 18 #[.string s, .slice A keys.length c] w (LkPost s keys w) := by
  have HF := Lib.hid (fun W => fjText_any s hs W)
  have HS := Lib.hid (fun (x : Tn) (ok : Bool) (h : ok = true → s.size ≤ 4000 ∧ valid (bytesOf s) = true ∧ prd (bytesOf s) = true ∧ readT s = some x ∧ (dep x ≤ 4294967296 → dep x ≤ 250)) (ho : (!ok) = false) => hT x (h (nfalse ho)).2.2.2.1 (h (nfalse ho)).2.2.1 (h (nfalse ho)).2.2.2.2)
  have HK := Lib.hid (fun (W : World) (hb : Below w.heap.size w W) => fjKeys_any W A c keys hk hc (Kd.C_below g hb))
  go_enter Tryd.func18, Tryd.ntmps18
  go_wp2_with (first
    | (go_at_call 12; refine (HF.out _).mono ?_; rintro e w1 ⟨x, A2, c2, A3, c3, ok, hb, h2, h3, rfl, hok⟩; have hT1 := (Rw.start w).below hb; have hb4 := below_alloc (Below.refl w1.heap.size w1) (.cells #[.int .i64 x.kind, .string x.text, .slice A2 x.keys.length c2, .slice A3 x.kids.length c3] tNd); have e2 := Kd.R_reads' h2; have e3 := Kd.R_reads' h3; have HN := Lib.hid (hT1.below hb4); have HB := Lib.hid (blk_new w1 (.cells #[.int .i64 x.kind, .string x.text, .slice A2 x.keys.length c2, .slice A3 x.kids.length c3] tNd)); have HC := Lib.hid (And.intro (And.intro e2.2.1 (Kd.C_below e2.2.2 hb4)) (And.intro e3.2.1 (Kd.C_below e3.2.2 hb4))); have HO := Lib.hid hok; have hlt := hT1.size; clear hb h2 h3 hok hb4 e2 e3 hT1; have r0 := blk_cell HN.out.r 0; have r1 := blk_cell HN.out.r 1; have r2 := blk_cell HN.out.r 2; have r3 := blk_cell HN.out.r 3; have g0 := blk_frozen HN.out.r 0; have g1 := blk_frozen HN.out.r 1; have g2 := blk_frozen HN.out.r 2; have g3 := blk_frozen HN.out.r 3; have n0 := blk_cell HB.out 0; have n1 := blk_cell HB.out 1; have n2 := blk_cell HB.out 2; have n3 := blk_cell HB.out 3)
    | (go_at_call 37; refine (HK.out _ HN.out.b).mono ?_; rintro e w2 ⟨⟨kb, rfl, hkb⟩, hb⟩; replace HN := Lib.hid (HN.out.below hb); replace HB := Lib.hid (blk_below HB.out hb); replace HC := Lib.hid (And.intro (And.intro HC.out.1.1 (Kd.C_below HC.out.1.2 hb)) (And.intro HC.out.2.1 (Kd.C_below HC.out.2.2 hb))); have HKB := Lib.hid hkb; clear hb hkb; have r0 := blk_cell HN.out.r 0; have r1 := blk_cell HN.out.r 1; have r2 := blk_cell HN.out.r 2; have r3 := blk_cell HN.out.r 3; have g0 := blk_frozen HN.out.r 0; have g1 := blk_frozen HN.out.r 1; have g2 := blk_frozen HN.out.r 2; have g3 := blk_frozen HN.out.r 3; have n0 := blk_cell HB.out 0; have n1 := blk_cell HB.out 1; have n2 := blk_cell HB.out 2; have n3 := blk_cell HB.out 3)
    | (go_at_call 38; have hok1 := HS.out x ok HO.out (by rw [‹ok = true›]; rfl); refine (uq_any x hok1.1 _ A2 A3 c2 c3 HC.out.1.1 HC.out.1.2 HC.out.2.1 HC.out.2.2).mono ?_; rintro e w3 ⟨⟨ub, rfl, hub⟩, hb⟩; replace HN := Lib.hid (HN.out.below hb); replace HB := Lib.hid (blk_below HB.out hb); replace HC := Lib.hid (And.intro (And.intro HC.out.1.1 (Kd.C_below HC.out.1.2 hb)) (And.intro HC.out.2.1 (Kd.C_below HC.out.2.2 hb))); have HUB := Lib.hid hub; clear hb hub hok1; have r0 := blk_cell HN.out.r 0; have r1 := blk_cell HN.out.r 1; have r2 := blk_cell HN.out.r 2; have r3 := blk_cell HN.out.r 3; have g0 := blk_frozen HN.out.r 0; have g1 := blk_frozen HN.out.r 1; have g2 := blk_frozen HN.out.r 2; have g3 := blk_frozen HN.out.r 3; have n0 := blk_cell HB.out 0; have n1 := blk_cell HB.out 1; have n2 := blk_cell HB.out 2; have n3 := blk_cell HB.out 3)
    | (go_at_call 39; have hok1 := HS.out x ok HO.out (by rw [‹ok = true›]; rfl); have hkb1 := (HKB.out ‹kb = true›).2; refine (fd_all keys (fun k hk => Nat.le_trans (hkb1 k hk).1 (by decide)) x hok1.1 hok1.2 _ A c A2 A3 c2 c3 hk hc (Kd.C_below g HN.out.b) HC.out.1.1 HC.out.1.2 HC.out.2.1 HC.out.2.2).mono ?_; rintro e w4 ⟨⟨k', t', X2, m2, v2, X3, m3, v3, rfl⟩, hb⟩; have hT4 := HN.out.below hb; have hlt4 := hT4.size; replace HN := Lib.hid (hT4.below (below_alloc (Below.refl w4.heap.size w4) (.cells #[.int .i64 k', .string t', .slice X2 m2 v2, .slice X3 m3 v3] tNd))); clear hb hok1 hT4 hkb1; have r0 := blk_cell HN.out.r 0; have r1 := blk_cell HN.out.r 1; have r2 := blk_cell HN.out.r 2; have r3 := blk_cell HN.out.r 3; have g0 := blk_frozen HN.out.r 0; have g1 := blk_frozen HN.out.r 1; have g2 := blk_frozen HN.out.r 2; have g3 := blk_frozen HN.out.r 3))
  all_goals first
    | (refine bodyPost_ret (v := .tuple #[.agg zNd, .bool false, .bool false]) ?_ rfl ?_
       · simp [results, Tryd.results18, go_sem, r0, r1, r2, r3, g0, g1, g2, g3]
       · refine lk_no ?_
         have := HN.out.b
         repeat (first | with_reducible exact this | refine Below.setCell ?_ (by simp) _))
    | (refine bodyPost_ret (v := .tuple #[.agg #[.int .i64 k', .string t', .slice X2 m2 v2, .slice X3 m3 v3], .bool (findB x keys), .bool true]) ?_ rfl ?_
       · simp [results, Tryd.results18, go_sem, r0, r1, r2, r3, g0, g1, g2, g3]
       · refine lk_yes ?_ (HO.out ‹ok = true›) (HKB.out ‹kb = true›) (HUB.out (nfalse ‹(!ub) = false›))
         have := HN.out.b
         repeat (first | with_reducible exact this | refine Below.setCell ?_ (by simp) _))
end Go.Proofs.YtalcjolomigedaaDoor.Fp
