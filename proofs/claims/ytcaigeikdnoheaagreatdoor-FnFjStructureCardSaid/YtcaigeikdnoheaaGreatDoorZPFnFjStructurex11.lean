/- Texts of this claim, what is not used left out. -/
import Derived.Test.YtcaigeikdnoheaaGreatDoorZPFnFjStructurex0
namespace Go.Proofs.YtcaigeikdnoheaaGreatDoor.PFnFjStructure
open Go.RowKit Go.Proofs.YtcaigeikdnoheaaGreatDoorW.PrintWords Go.Proofs.YtcaigeikdnoheaaGreatDoorW.PrintLast Go.Proofs.YtcaigeikdnoheaaGreatDoorW.PrintMore
attribute [local go_sem] max2_int min2_int max_two min_two max_three min_three max_four min_four   -- for this text's walks alone
set_option linter.unusedVariables false
set_option linter.unusedSimpArgs false

mutual
def fastjson_zzFold.l0 : Nat → ByteArray → ByteArray → Int → Option (Bool)
  | 0, _, _, _ => none
  | k + 1, x0, x1, x5 => if x5 < (x0.size : Int) then (if 0 ≤ x5 then (if 65 ≤ (bt x0 x5) then (fastjson_zzFold.j1 k x0 x1 x5 (bt x0 x5) (decide ((bt x0 x5) ≤ 90))) else (fastjson_zzFold.j1 k x0 x1 x5 (bt x0 x5) false)) else (none)) else (some true)
def fastjson_zzFold.j1 : Nat → ByteArray → ByteArray → Int → Int → Bool → Option (Bool)
  | 0, _, _, _, _, _ => none
  | k + 1, x0, x1, x5, x6, x26 => if x26 = true then (if 0 ≤ x5 then (if x5 < (x1.size : Int) then (if ((x6 + 32) % 256) = (bt x1 x5) then (fastjson_zzFold.l0 k x0 x1 (wrap64 (x5 + 1))) else (some false)) else (none)) else (none)) else (if 0 ≤ x5 then (if x5 < (x1.size : Int) then (if x6 = (bt x1 x5) then (fastjson_zzFold.l0 k x0 x1 (wrap64 (x5 + 1))) else (some false)) else (none)) else (none))
end
def fastjson_zzFold.f (k : Nat) (a0 : ByteArray) (a1 : ByteArray) : Option (Bool) := if (a0.size : Int) = (a1.size : Int) then (fastjson_zzFold.l0 k a0 a1 0) else (some false)
theorem fastjson_zzFold.mono_l : ∀ k, (∀ y0 y1 y2, LeO (fastjson_zzFold.l0 k y0 y1 y2) (fastjson_zzFold.l0 (k + 1) y0 y1 y2)) ∧ (∀ y0 y1 y2 y3 y4, LeO (fastjson_zzFold.j1 k y0 y1 y2 y3 y4) (fastjson_zzFold.j1 (k + 1) y0 y1 y2 y3 y4))
  | 0 => ⟨fun _ _ _ r h => by simp [fastjson_zzFold.l0] at h, fun _ _ _ _ _ r h => by simp [fastjson_zzFold.j1] at h⟩
  | k + 1 => by
    obtain ⟨ih0, ih1⟩ := fastjson_zzFold.mono_l k
    refine ⟨?_, ?_⟩
    · intro y0 y1 y2
      unfold fastjson_zzFold.l0
      repeat' first
      | (with_reducible exact ih0 _ _ _)
      | (with_reducible exact ih1 _ _ _ _ _)
      | (with_reducible exact LeO.refl _)
      | (with_reducible exact LeO.none _)
      | (with_reducible refine LeO.ite ?_ ?_)
      | (with_reducible refine LeO.bind ?_ (fun _ => ?_))
      | exact ih0 _ _ _
      | exact ih1 _ _ _ _ _
      | exact LeO.none _
      | refine LeO.ite ?_ ?_
      | refine LeO.bind ?_ (fun _ => ?_)
    · intro y0 y1 y2 y3 y4
      unfold fastjson_zzFold.j1
      repeat' first
      | (with_reducible exact ih0 _ _ _)
      | (with_reducible exact ih1 _ _ _ _ _)
      | (with_reducible exact LeO.refl _)
      | (with_reducible exact LeO.none _)
      | (with_reducible refine LeO.ite ?_ ?_)
      | (with_reducible refine LeO.bind ?_ (fun _ => ?_))
      | exact ih0 _ _ _
      | exact ih1 _ _ _ _ _
      | exact LeO.none _
      | refine LeO.ite ?_ ?_
      | refine LeO.bind ?_ (fun _ => ?_)
theorem fastjson_zzFold.mono : ∀ a0 a1 k, LeO (fastjson_zzFold.f k a0 a1) (fastjson_zzFold.f (k + 1) a0 a1) := by
  intro a0 a1 k
  obtain ⟨ih0, ih1⟩ := fastjson_zzFold.mono_l k
  unfold fastjson_zzFold.f
  repeat' first
      | (with_reducible exact ih0 _ _ _)
      | (with_reducible exact ih1 _ _ _ _ _)
      | (with_reducible exact LeO.refl _)
      | (with_reducible exact LeO.none _)
      | (with_reducible refine LeO.ite ?_ ?_)
      | (with_reducible refine LeO.bind ?_ (fun _ => ?_))
      | exact ih0 _ _ _
      | exact ih1 _ _ _ _ _
      | exact LeO.none _
      | refine LeO.ite ?_ ?_
      | refine LeO.bind ?_ (fun _ => ?_)
set_option maxHeartbeats 8000000 in
set_option maxRecDepth 100000 in
theorem fastjson_zzFold.calls (k : Nat) (a0 : ByteArray) (a1 : ByteArray) (r : Bool) (w : World) (h : fastjson_zzFold.f k a0 a1 = some r) :
    Calls Tryz.prog 96 #[.string a0, .string a1] w fun e w' => e = .returned (.bool r) ∧ Drawn0 w w' := by
  have H : (if (a0.size : Int) = (a1.size : Int) then (fastjson_zzFold.l0 k a0 a1 0) else (some false)) = some r := h
  clear h
  by_cases c3 : (a0.size : Int) = (a1.size : Int)
  · rw [if_pos c3] at H
    have c3b0 : ((a0.size : Int) == (a1.size : Int)) = true := beq_iff_eq.mpr c3
    have c3b1 : ((a0.size : Int) != (a1.size : Int)) = false := bne_eq_false_iff_eq.mpr c3
    have c3b2 : (a0.size == a1.size) = true := by first | simpa using c3 | (simp at c3 ⊢; omega)
    clear c3
    have H' := Aside0.mk H
    clear H
    go_enter Tryz.func96, Tryz.ntmps96
    go_wp2
    go_loopg [5] k (fun kq v5 w' => ∃ (x5_1 : Int), v5 = .int .i64 x5_1 ∧ Aside0 (fastjson_zzFold.l0 kq a0 a1 x5_1 = some r) ∧ Aside0 (kq ≤ k) ∧ Drawn0 w w')
    case atStart => exact ⟨(0), (by first | rfl | (simp; done) | (simp [*]; done)), H', ⟨Nat.le_refl _⟩, by repeat (first | exact Drawn0.refl _ | apply Drawn0.step)⟩
    case round =>
      clear H'
      try clear p2
      try clear c3
      try clear c3b0
      try clear c3b1
      try clear c3b2
      obtain ⟨x5_1, rfl, HA, HK1, ⟨m1, rfl⟩⟩ := hrel
      cases gk with
      | zero => exact absurd HA.out (by simp [fastjson_zzFold.l0])
      | succ k1 =>
        have H := HA.out
        clear HA
        simp only [fastjson_zzFold.l0] at H
        by_cases c4 : x5_1 < (a0.size : Int)
        · rw [if_pos c4] at H
          have c4b0 : decide (x5_1 < (a0.size : Int)) = true := decide_eq_true c4
          clear c4
          by_cases c5 : 0 ≤ x5_1
          · rw [if_pos c5] at H
            have c5b0 : decide (0 ≤ x5_1) = true := decide_eq_true c5
            clear c5
            have HC7 := Aside0.mk H
            clear H
            have p6 : 0 ≤ (x5_1 : Int) := of_decide_eq_true (by first | (with_reducible assumption) | assumption)
            have q6 : x5_1 < (a0.size : Int) := of_decide_eq_true (by first | (with_reducible assumption) | assumption)
            have hx6 := bt_at a0 x5_1
            replace p6 := eq_true p6
            replace q6 := eq_true q6
            go_upto_region 7 with (fail)
            go_cut [26] (fun v26 wc => ∃ (kq : Nat) (x26_6 : Bool), v26 = .bool x26_6 ∧ Aside0 (fastjson_zzFold.j1 kq a0 a1 x5_1 (bt a0 x5_1) x26_6 = some r) ∧ Aside0 (kq ≤ k1) ∧ Drawn0 w wc)
            case first =>
              have H := HC7.out
              clear HC7
              by_cases c8 : 65 ≤ (bt a0 x5_1)
              · rw [if_pos c8] at H
                have c8b0 : decide (65 ≤ (bt a0 x5_1)) = true := decide_eq_true c8
                clear c8
                (first | rw [c8b0] | (simp only [i64_w, i32_w]; rw [c8b0]) | skip)
                have H' := Aside0.mk H
                clear H
                go_wp2
                go_meet
                case rel => exact ⟨_, (decide ((bt a0 x5_1) ≤ 90)), (by first | rfl | (simp; done) | (simp [*]; done)), H', ⟨by have := HK1.out; first | omega | exact Nat.le_refl _⟩, by repeat (first | exact Drawn0.refl _ | apply Drawn0.step)⟩
              · rw [if_neg c8] at H
                have c8b0 : decide (65 ≤ (bt a0 x5_1)) = false := decide_eq_false c8
                clear c8
                (first | rw [c8b0] | (simp only [i64_w, i32_w]; rw [c8b0]) | skip)
                have H' := Aside0.mk H
                clear H
                go_wp2
                go_meet
                case rel => exact ⟨_, (false), (by first | rfl | (simp; done) | (simp [*]; done)), H', ⟨by have := HK1.out; first | omega | exact Nat.le_refl _⟩, by repeat (first | exact Drawn0.refl _ | apply Drawn0.step)⟩
            case rest =>
              clear HC7
              try clear p2
              try clear c3
              try clear c3b0
              try clear c3b1
              try clear c3b2
              try clear c4
              try clear c4b0
              try clear c5
              try clear c5b0
              try clear p6
              try clear q6
              try clear hx6
              try clear c8
              try clear c8b0
              try clear p2
              try clear p6
              try clear q6
              obtain ⟨kq, x26_6, rfl, HA, HJ6, ⟨mc6, rfl⟩⟩ := hcut
              cases kq with
              | zero => exact absurd HA.out (by simp [fastjson_zzFold.j1])
              | succ kj6 =>
                have H := HA.out
                clear HA
                simp only [fastjson_zzFold.j1] at H
                by_cases c9 : x26_6 = true
                · subst c9
                  have H1 : (if 0 ≤ x5_1 then (if x5_1 < (a1.size : Int) then (if (((bt a0 x5_1) + 32) % 256) = (bt a1 x5_1) then (fastjson_zzFold.l0 kj6 a0 a1 (wrap64 (x5_1 + 1))) else (some false)) else (none)) else (none)) = some r := by rw [if_pos rfl] at H; exact H
                  clear H
                  have H := H1
                  clear H1
                  by_cases c10 : 0 ≤ x5_1
                  · rw [if_pos c10] at H
                    have c10b0 : decide (0 ≤ x5_1) = true := decide_eq_true c10
                    clear c10
                    by_cases c11 : x5_1 < (a1.size : Int)
                    · rw [if_pos c11] at H
                      have c11b0 : decide (x5_1 < (a1.size : Int)) = true := decide_eq_true c11
                      clear c11
                      by_cases c13 : (((bt a0 x5_1) + 32) % 256) = (bt a1 x5_1)
                      · rw [if_pos c13] at H
                        have c13b0 : ((((bt a0 x5_1) + 32) % 256) == (bt a1 x5_1)) = true := beq_iff_eq.mpr c13
                        have c13b1 : ((((bt a0 x5_1) + 32) % 256) != (bt a1 x5_1)) = false := bne_eq_false_iff_eq.mpr c13
                        clear c13
                        have H' := Aside0.mk H
                        clear H
                        have p12 : 0 ≤ (x5_1 : Int) := of_decide_eq_true (by first | (with_reducible assumption) | assumption)
                        have q12 : x5_1 < (a1.size : Int) := of_decide_eq_true (by first | (with_reducible assumption) | assumption)
                        have hx12 := bt_at a1 x5_1
                        replace p12 := eq_true p12
                        replace q12 := eq_true q12
                        go_wp2
                        go_roundg kj6
                        case measure => have := HK1.out; have := HJ6.out; omega
                        case rel => exact ⟨(wrap64 (x5_1 + 1)), (by first | rfl | (simp; done) | (simp [*]; done)), H', ⟨by have := HK1.out; have := HJ6.out; omega⟩, by repeat (first | exact Drawn0.refl _ | apply Drawn0.step)⟩
                      · rw [if_neg c13] at H
                        have c13b0 : ((((bt a0 x5_1) + 32) % 256) == (bt a1 x5_1)) = false := beq_eq_false_iff_ne.mpr c13
                        have c13b1 : ((((bt a0 x5_1) + 32) % 256) != (bt a1 x5_1)) = true := bne_iff_ne.mpr c13
                        obtain rfl := Option.some.inj H
                        have p12 : 0 ≤ (x5_1 : Int) := of_decide_eq_true (by first | (with_reducible assumption) | assumption)
                        have q12 : x5_1 < (a1.size : Int) := of_decide_eq_true (by first | (with_reducible assumption) | assumption)
                        have hx12 := bt_at a1 x5_1
                        replace p12 := eq_true p12
                        replace q12 := eq_true q12
                        go_wp2
                        go_ret
                        exact ⟨by first | rfl | (simp; done) | (simp [*]; done), by repeat (first | exact Drawn0.refl _ | apply Drawn0.step)⟩
                    · rw [if_neg c11] at H
                      exact absurd H (by simp)
                  · rw [if_neg c10] at H
                    exact absurd H (by simp)
                · replace c9 := Bool.eq_false_iff.mpr c9
                  subst c9
                  have H1 : (if 0 ≤ x5_1 then (if x5_1 < (a1.size : Int) then (if (bt a0 x5_1) = (bt a1 x5_1) then (fastjson_zzFold.l0 kj6 a0 a1 (wrap64 (x5_1 + 1))) else (some false)) else (none)) else (none)) = some r := by rw [if_neg (show ¬ (false = true) by decide)] at H; exact H
                  clear H
                  have H := H1
                  clear H1
                  by_cases c14 : 0 ≤ x5_1
                  · rw [if_pos c14] at H
                    have c14b0 : decide (0 ≤ x5_1) = true := decide_eq_true c14
                    clear c14
                    by_cases c15 : x5_1 < (a1.size : Int)
                    · rw [if_pos c15] at H
                      have c15b0 : decide (x5_1 < (a1.size : Int)) = true := decide_eq_true c15
                      clear c15
                      by_cases c17 : (bt a0 x5_1) = (bt a1 x5_1)
                      · rw [if_pos c17] at H
                        have c17b0 : ((bt a0 x5_1) == (bt a1 x5_1)) = true := beq_iff_eq.mpr c17
                        have c17b1 : ((bt a0 x5_1) != (bt a1 x5_1)) = false := bne_eq_false_iff_eq.mpr c17
                        clear c17
                        have H' := Aside0.mk H
                        clear H
                        have p16 : 0 ≤ (x5_1 : Int) := of_decide_eq_true (by first | (with_reducible assumption) | assumption)
                        have q16 : x5_1 < (a1.size : Int) := of_decide_eq_true (by first | (with_reducible assumption) | assumption)
                        have hx16 := bt_at a1 x5_1
                        replace p16 := eq_true p16
                        replace q16 := eq_true q16
                        go_wp2
                        go_roundg kj6
                        case measure => have := HK1.out; have := HJ6.out; omega
                        case rel => exact ⟨(wrap64 (x5_1 + 1)), (by first | rfl | (simp; done) | (simp [*]; done)), H', ⟨by have := HK1.out; have := HJ6.out; omega⟩, by repeat (first | exact Drawn0.refl _ | apply Drawn0.step)⟩
                      · rw [if_neg c17] at H
                        have c17b0 : ((bt a0 x5_1) == (bt a1 x5_1)) = false := beq_eq_false_iff_ne.mpr c17
                        have c17b1 : ((bt a0 x5_1) != (bt a1 x5_1)) = true := bne_iff_ne.mpr c17
                        obtain rfl := Option.some.inj H
                        have p16 : 0 ≤ (x5_1 : Int) := of_decide_eq_true (by first | (with_reducible assumption) | assumption)
                        have q16 : x5_1 < (a1.size : Int) := of_decide_eq_true (by first | (with_reducible assumption) | assumption)
                        have hx16 := bt_at a1 x5_1
                        replace p16 := eq_true p16
                        replace q16 := eq_true q16
                        go_wp2
                        go_ret
                        exact ⟨by first | rfl | (simp; done) | (simp [*]; done), by repeat (first | exact Drawn0.refl _ | apply Drawn0.step)⟩
                    · rw [if_neg c15] at H
                      exact absurd H (by simp)
                  · rw [if_neg c14] at H
                    exact absurd H (by simp)
          · rw [if_neg c5] at H
            exact absurd H (by simp)
        · rw [if_neg c4] at H
          have c4b0 : decide (x5_1 < (a0.size : Int)) = false := decide_eq_false c4
          clear c4
          obtain rfl := Option.some.inj H
          go_wp2
          go_ret
          exact ⟨by first | rfl | (simp; done) | (simp [*]; done), by repeat (first | exact Drawn0.refl _ | apply Drawn0.step)⟩
  · rw [if_neg c3] at H
    have c3b0 : ((a0.size : Int) == (a1.size : Int)) = false := beq_eq_false_iff_ne.mpr c3
    have c3b1 : ((a0.size : Int) != (a1.size : Int)) = true := bne_iff_ne.mpr c3
    have c3b2 : (a0.size == a1.size) = false := by first | simpa using c3 | (simp at c3 ⊢; omega)
    obtain rfl := Option.some.inj H
    go_enter Tryz.func96, Tryz.ntmps96
    go_wp2
    go_ret
    exact ⟨by first | rfl | (simp; done) | (simp [*]; done), by repeat (first | exact Drawn0.refl _ | apply Drawn0.step)⟩

-- NOT PRINTED: function 97 (fastjson_parseRawNumber)

-- NOT PRINTED: function 69 (fastjson_cache_parseValue)

-- NOT PRINTED: function 109 (fastjson_Value_reset)

-- NOT PRINTED: function 78 (fastjson_cache_reset)

-- NOT PRINTED: function 40 (fastjson_Parser_Parse)

-- NOT PRINTED: function 20 (impl_FjRead)

-- NOT PRINTED: function 5 (laws_FnFjStructure)

end Go.Proofs.YtcaigeikdnoheaaGreatDoor.PFnFjStructure
