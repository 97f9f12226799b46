-- PRINTED BY print.sh 35421559b90ae4d0a3588c463048766b98c2df88dd9212a6774a882060cdf62d: not written by this session
import Derived.Test.YtbnogfljakmfgaaPFnGjNumberAtAnyx0
import Derived.Test.YtbnogfljakmfgaaPFnGjNumberAtAnyx1
namespace Go.Proofs.Ytbnogfljakmfgaa.PFnGjNumberAtAny
open Go.RowKit Go.Proofs.YtbnogfljakmfgaaW.PrintWords Go.Proofs.YtbnogfljakmfgaaW.PrintLast Go.Proofs.YtbnogfljakmfgaaW.PrintMore
attribute [local go_sem] max2_int min2_int max_two min_two max_three min_three max_four min_four   -- for this text's walks alone
set_option linter.unusedVariables false
set_option linter.unusedSimpArgs false

/-! ### laws_FnGjNumberAtAny: function 3 -/
mutual
def laws_FnGjNumberAtAny.j0 : Nat → ByteArray → Int → Bool → Option (Bool)
  | 0, _, _, _ => none
  | k + 1, x0, x1, x42 => if x42 = true then (some true) else ((impl_GjNumberAt.f k x0 x1).bind fun bt105 => (if bt105.1 ≤ x1 then (laws_FnGjNumberAtAny.j1 k x0 bt105.1 bt105.2 true) else (if bt105.1 > (x0.size : Int) then (laws_FnGjNumberAtAny.j1 k x0 bt105.1 bt105.2 true) else (if 0 ≤ x1 then (if x1 ≤ bt105.1 then (if bt105.1 ≤ (x0.size : Int) then (laws_FnGjNumberAtAny.j1 k x0 bt105.1 bt105.2 (bt105.2.toList != (x0.extract (x1 : Int).toNat (bt105.1 : Int).toNat).toList)) else (none)) else (none)) else (none)))))
def laws_FnGjNumberAtAny.j1 : Nat → ByteArray → Int → ByteArray → Bool → Option (Bool)
  | 0, _, _, _, _ => none
  | k + 1, x0, x5, x6, x65 => if x65 = true then (some false) else (laws_FnGjNumberAtAny.l0 k x0 x5 x6 0)
def laws_FnGjNumberAtAny.l0 : Nat → ByteArray → Int → ByteArray → Int → Option (Bool)
  | 0, _, _, _, _ => none
  | k + 1, x0, x5, x6, x7 => if x7 < (x6.size : Int) then (if 0 ≤ x7 then (if (bt x6 x7) ≤ 32 then (some false) else (if (bt x6 x7) = 44 then (some false) else (if (bt x6 x7) = 93 then (some false) else (if (bt x6 x7) = 125 then (some false) else (laws_FnGjNumberAtAny.l0 k x0 x5 x6 (wrap64 (x7 + 1))))))) else (none)) else (if x5 = (x0.size : Int) then (some true) else (if 0 ≤ x5 then (if x5 < (x0.size : Int) then (if (bt x0 x5) ≤ 32 then (some true) else (if (bt x0 x5) = 44 then (some true) else (if (bt x0 x5) = 93 then (some true) else (some ((bt x0 x5) == 125))))) else (none)) else (none)))
end
def laws_FnGjNumberAtAny.f (k : Nat) (a0 : ByteArray) (a1 : Int) : Option (Bool) := if (a0.size : Int) > 2147483647 then (some true) else (if (a0.size : Int) > 4096 then (laws_FnGjNumberAtAny.j0 k a0 a1 true) else (if a1 < 0 then (laws_FnGjNumberAtAny.j0 k a0 a1 true) else (if a1 ≥ (a0.size : Int) then (laws_FnGjNumberAtAny.j0 k a0 a1 true) else (if 0 ≤ a1 then (if a1 < (a0.size : Int) then (if (bt a0 a1) = 45 then (laws_FnGjNumberAtAny.j0 k a0 a1 false) else (if (bt a0 a1) < 48 then (laws_FnGjNumberAtAny.j0 k a0 a1 true) else (laws_FnGjNumberAtAny.j0 k a0 a1 (decide ((bt a0 a1) > 57))))) else (none)) else (none)))))
theorem laws_FnGjNumberAtAny.mono_l : ∀ k, (∀ y0 y1 y2, LeO (laws_FnGjNumberAtAny.j0 k y0 y1 y2) (laws_FnGjNumberAtAny.j0 (k + 1) y0 y1 y2)) ∧ (∀ y0 y1 y2 y3, LeO (laws_FnGjNumberAtAny.j1 k y0 y1 y2 y3) (laws_FnGjNumberAtAny.j1 (k + 1) y0 y1 y2 y3)) ∧ (∀ y0 y1 y2 y3, LeO (laws_FnGjNumberAtAny.l0 k y0 y1 y2 y3) (laws_FnGjNumberAtAny.l0 (k + 1) y0 y1 y2 y3))
  | 0 => ⟨fun _ _ _ r h => by simp [laws_FnGjNumberAtAny.j0] at h, fun _ _ _ _ r h => by simp [laws_FnGjNumberAtAny.j1] at h, fun _ _ _ _ r h => by simp [laws_FnGjNumberAtAny.l0] at h⟩
  | k + 1 => by
    obtain ⟨ih0, ih1, ih2⟩ := laws_FnGjNumberAtAny.mono_l k
    refine ⟨?_, ?_, ?_⟩
    · intro y0 y1 y2
      unfold laws_FnGjNumberAtAny.j0
      repeat' first
      | (with_reducible exact ih0 _ _ _)
      | (with_reducible exact ih1 _ _ _ _)
      | (with_reducible exact ih2 _ _ _ _)
      | (with_reducible exact impl_GjNumberAt.mono _ _ _)
      | (with_reducible exact LeO.refl _)
      | (with_reducible exact LeO.none _)
      | (with_reducible refine LeO.ite ?_ ?_)
      | (with_reducible refine LeO.bind ?_ (fun _ => ?_))
      | exact ih0 _ _ _
      | exact ih1 _ _ _ _
      | exact ih2 _ _ _ _
      | exact impl_GjNumberAt.mono _ _ _
      | exact LeO.none _
      | refine LeO.ite ?_ ?_
      | refine LeO.bind ?_ (fun _ => ?_)
    · intro y0 y1 y2 y3
      unfold laws_FnGjNumberAtAny.j1
      repeat' first
      | (with_reducible exact ih0 _ _ _)
      | (with_reducible exact ih1 _ _ _ _)
      | (with_reducible exact ih2 _ _ _ _)
      | (with_reducible exact impl_GjNumberAt.mono _ _ _)
      | (with_reducible exact LeO.refl _)
      | (with_reducible exact LeO.none _)
      | (with_reducible refine LeO.ite ?_ ?_)
      | (with_reducible refine LeO.bind ?_ (fun _ => ?_))
      | exact ih0 _ _ _
      | exact ih1 _ _ _ _
      | exact ih2 _ _ _ _
      | exact impl_GjNumberAt.mono _ _ _
      | exact LeO.none _
      | refine LeO.ite ?_ ?_
      | refine LeO.bind ?_ (fun _ => ?_)
    · intro y0 y1 y2 y3
      unfold laws_FnGjNumberAtAny.l0
      repeat' first
      | (with_reducible exact ih0 _ _ _)
      | (with_reducible exact ih1 _ _ _ _)
      | (with_reducible exact ih2 _ _ _ _)
      | (with_reducible exact impl_GjNumberAt.mono _ _ _)
      | (with_reducible exact LeO.refl _)
      | (with_reducible exact LeO.none _)
      | (with_reducible refine LeO.ite ?_ ?_)
      | (with_reducible refine LeO.bind ?_ (fun _ => ?_))
      | exact ih0 _ _ _
      | exact ih1 _ _ _ _
      | exact ih2 _ _ _ _
      | exact impl_GjNumberAt.mono _ _ _
      | exact LeO.none _
      | refine LeO.ite ?_ ?_
      | refine LeO.bind ?_ (fun _ => ?_)
theorem laws_FnGjNumberAtAny.mono : ∀ a0 a1 k, LeO (laws_FnGjNumberAtAny.f k a0 a1) (laws_FnGjNumberAtAny.f (k + 1) a0 a1) := by
  intro a0 a1 k
  obtain ⟨ih0, ih1, ih2⟩ := laws_FnGjNumberAtAny.mono_l k
  unfold laws_FnGjNumberAtAny.f
  repeat' first
      | (with_reducible exact ih0 _ _ _)
      | (with_reducible exact ih1 _ _ _ _)
      | (with_reducible exact ih2 _ _ _ _)
      | (with_reducible exact impl_GjNumberAt.mono _ _ _)
      | (with_reducible exact LeO.refl _)
      | (with_reducible exact LeO.none _)
      | (with_reducible refine LeO.ite ?_ ?_)
      | (with_reducible refine LeO.bind ?_ (fun _ => ?_))
      | exact ih0 _ _ _
      | exact ih1 _ _ _ _
      | exact ih2 _ _ _ _
      | exact impl_GjNumberAt.mono _ _ _
      | exact LeO.none _
      | refine LeO.ite ?_ ?_
      | refine LeO.bind ?_ (fun _ => ?_)
set_option maxHeartbeats 8000000 in
set_option maxRecDepth 100000 in
theorem laws_FnGjNumberAtAny.calls (k : Nat) (a0 : ByteArray) (a1 : Int) (r : Bool) (w : World) (h : laws_FnGjNumberAtAny.f k a0 a1 = some r) :
    Calls Try.prog 3 #[.string a0, .int .i64 a1] w fun e w' => e = .returned (.bool r) ∧ Drawn0 w w' := by
  have H : (if (a0.size : Int) > 2147483647 then (some true) else (if (a0.size : Int) > 4096 then (laws_FnGjNumberAtAny.j0 k a0 a1 true) else (if a1 < 0 then (laws_FnGjNumberAtAny.j0 k a0 a1 true) else (if a1 ≥ (a0.size : Int) then (laws_FnGjNumberAtAny.j0 k a0 a1 true) else (if 0 ≤ a1 then (if a1 < (a0.size : Int) then (if (bt a0 a1) = 45 then (laws_FnGjNumberAtAny.j0 k a0 a1 false) else (if (bt a0 a1) < 48 then (laws_FnGjNumberAtAny.j0 k a0 a1 true) else (laws_FnGjNumberAtAny.j0 k a0 a1 (decide ((bt a0 a1) > 57))))) else (none)) else (none)))))) = some r := h
  clear h
  by_cases c3 : (a0.size : Int) > 2147483647
  · rw [if_pos c3] at H
    have c3b0 : decide (2147483647 < (a0.size : Int)) = true := decide_eq_true c3
    have c3b1 : decide (2147483647 < a0.size) = true := decide_eq_true (by omega)
    clear c3
    obtain rfl := Option.some.inj H
    go_enter Try.func3, Try.ntmps3
    go_wp2
    go_ret
    exact ⟨by first | rfl | (simp; done) | (simp [*]; done), by repeat (first | exact Drawn0.refl _ | apply Drawn0.step)⟩
  · rw [if_neg c3] at H
    have c3b0 : decide (2147483647 < (a0.size : Int)) = false := decide_eq_false c3
    have c3b1 : decide (2147483647 < a0.size) = false := decide_eq_false (by omega)
    clear c3
    have HC4 := Aside0.mk H
    clear H
    go_enter Try.func3, Try.ntmps3
    go_upto_region 3 with (fail)
    go_cut [42] (fun v42 wc => ∃ (kq : Nat) (x42_3 : Bool), v42 = .bool x42_3 ∧ Aside0 (laws_FnGjNumberAtAny.j0 kq a0 a1 x42_3 = some r) ∧ Aside0 (kq ≤ k) ∧ Drawn0 w wc)
    case first =>
      have H := HC4.out
      clear HC4
      by_cases c5 : (a0.size : Int) > 4096
      · rw [if_pos c5] at H
        have c5b0 : decide (4096 < (a0.size : Int)) = true := decide_eq_true c5
        have c5b1 : decide (4096 < a0.size) = true := decide_eq_true (by omega)
        clear c5
        (first | rw [c5b0] | (simp only [i64_w, i32_w]; rw [c5b0]) | skip)
        have H' := Aside0.mk H
        clear H
        go_wp2
        go_meet
        case rel => exact ⟨_, (true), (by first | rfl | (simp; done) | (simp [*]; done)), H', ⟨by first | omega | exact Nat.le_refl _⟩, by repeat (first | exact Drawn0.refl _ | apply Drawn0.step)⟩
      · rw [if_neg c5] at H
        have c5b0 : decide (4096 < (a0.size : Int)) = false := decide_eq_false c5
        have c5b1 : decide (4096 < a0.size) = false := decide_eq_false (by omega)
        clear c5
        (first | rw [c5b0] | (simp only [i64_w, i32_w]; rw [c5b0]) | skip)
        by_cases c6 : a1 < 0
        · rw [if_pos c6] at H
          have c6b0 : decide (a1 < 0) = true := decide_eq_true c6
          clear c6
          have H' := Aside0.mk H
          clear H
          go_wp2
          go_meet
          case rel => exact ⟨_, (true), (by first | rfl | (simp; done) | (simp [*]; done)), H', ⟨by first | omega | exact Nat.le_refl _⟩, by repeat (first | exact Drawn0.refl _ | apply Drawn0.step)⟩
        · rw [if_neg c6] at H
          have c6b0 : decide (a1 < 0) = false := decide_eq_false c6
          clear c6
          by_cases c7 : a1 ≥ (a0.size : Int)
          · rw [if_pos c7] at H
            have c7b0 : decide ((a0.size : Int) ≤ a1) = true := decide_eq_true c7
            clear c7
            have H' := Aside0.mk H
            clear H
            go_wp2
            go_meet
            case rel => exact ⟨_, (true), (by first | rfl | (simp; done) | (simp [*]; done)), H', ⟨by first | omega | exact Nat.le_refl _⟩, by repeat (first | exact Drawn0.refl _ | apply Drawn0.step)⟩
          · rw [if_neg c7] at H
            have c7b0 : decide ((a0.size : Int) ≤ a1) = false := decide_eq_false c7
            clear c7
            by_cases c8 : 0 ≤ a1
            · rw [if_pos c8] at H
              have c8b0 : decide (0 ≤ a1) = true := decide_eq_true c8
              clear c8
              by_cases c9 : a1 < (a0.size : Int)
              · rw [if_pos c9] at H
                have c9b0 : decide (a1 < (a0.size : Int)) = true := decide_eq_true c9
                clear c9
                by_cases c11 : (bt a0 a1) = 45
                · rw [if_pos c11] at H
                  have c11b0 : ((bt a0 a1) == 45) = true := beq_iff_eq.mpr c11
                  have c11b1 : ((bt a0 a1) != 45) = false := bne_eq_false_iff_eq.mpr c11
                  clear c11
                  have H' := Aside0.mk H
                  clear H
                  have p10 : 0 ≤ (a1 : Int) := of_decide_eq_true (by first | (with_reducible assumption) | assumption)
                  have q10 : a1 < (a0.size : Int) := of_decide_eq_true (by first | (with_reducible assumption) | assumption)
                  have hx10 := bt_at a0 a1
                  replace p10 := eq_true p10
                  replace q10 := eq_true q10
                  go_wp2
                  go_meet
                  case rel => exact ⟨_, (false), (by first | rfl | (simp; done) | (simp [*]; done)), H', ⟨by first | omega | exact Nat.le_refl _⟩, by repeat (first | exact Drawn0.refl _ | apply Drawn0.step)⟩
                · rw [if_neg c11] at H
                  have c11b0 : ((bt a0 a1) == 45) = false := beq_eq_false_iff_ne.mpr c11
                  have c11b1 : ((bt a0 a1) != 45) = true := bne_iff_ne.mpr c11
                  by_cases c13 : (bt a0 a1) < 48
                  · rw [if_pos c13] at H
                    have c13b0 : decide ((bt a0 a1) < 48) = true := decide_eq_true c13
                    clear c13
                    have H' := Aside0.mk H
                    clear H
                    have p10 : 0 ≤ (a1 : Int) := of_decide_eq_true (by first | (with_reducible assumption) | assumption)
                    have q10 : a1 < (a0.size : Int) := of_decide_eq_true (by first | (with_reducible assumption) | assumption)
                    have hx10 := bt_at a0 a1
                    replace p10 := eq_true p10
                    replace q10 := eq_true q10
                    have p12 : 0 ≤ (a1 : Int) := of_decide_eq_true (by first | (with_reducible assumption) | assumption)
                    have q12 : a1 < (a0.size : Int) := of_decide_eq_true (by first | (with_reducible assumption) | assumption)
                    have hx12 := bt_at a0 a1
                    replace p12 := eq_true p12
                    replace q12 := eq_true q12
                    go_wp2
                    go_meet
                    case rel => exact ⟨_, (true), (by first | rfl | (simp; done) | (simp [*]; done)), H', ⟨by first | omega | exact Nat.le_refl _⟩, by repeat (first | exact Drawn0.refl _ | apply Drawn0.step)⟩
                  · rw [if_neg c13] at H
                    have c13b0 : decide ((bt a0 a1) < 48) = false := decide_eq_false c13
                    clear c13
                    have H' := Aside0.mk H
                    clear H
                    have p10 : 0 ≤ (a1 : Int) := of_decide_eq_true (by first | (with_reducible assumption) | assumption)
                    have q10 : a1 < (a0.size : Int) := of_decide_eq_true (by first | (with_reducible assumption) | assumption)
                    have hx10 := bt_at a0 a1
                    replace p10 := eq_true p10
                    replace q10 := eq_true q10
                    have p12 : 0 ≤ (a1 : Int) := of_decide_eq_true (by first | (with_reducible assumption) | assumption)
                    have q12 : a1 < (a0.size : Int) := of_decide_eq_true (by first | (with_reducible assumption) | assumption)
                    have hx12 := bt_at a0 a1
                    replace p12 := eq_true p12
                    replace q12 := eq_true q12
                    have p14 : 0 ≤ (a1 : Int) := of_decide_eq_true (by first | (with_reducible assumption) | assumption)
                    have q14 : a1 < (a0.size : Int) := of_decide_eq_true (by first | (with_reducible assumption) | assumption)
                    have hx14 := bt_at a0 a1
                    replace p14 := eq_true p14
                    replace q14 := eq_true q14
                    go_wp2
                    go_meet
                    case rel => exact ⟨_, (decide ((bt a0 a1) > 57)), (by first | rfl | (simp; done) | (simp [*]; done)), H', ⟨by first | omega | exact Nat.le_refl _⟩, by repeat (first | exact Drawn0.refl _ | apply Drawn0.step)⟩
              · rw [if_neg c9] at H
                exact absurd H (by simp)
            · rw [if_neg c8] at H
              exact absurd H (by simp)
    case rest =>
      clear HC4
      try clear c1
      try clear p1
      try clear q1
      try clear hx1
      try clear p2
      try clear c3
      try clear c3b0
      try clear c3b1
      try clear c5
      try clear c5b0
      try clear c5b1
      try clear c6
      try clear c6b0
      try clear c7
      try clear c7b0
      try clear c8
      try clear c8b0
      try clear c9
      try clear c9b0
      try clear p10
      try clear q10
      try clear hx10
      try clear c11
      try clear c11b0
      try clear c11b1
      try clear p12
      try clear q12
      try clear hx12
      try clear c13
      try clear c13b0
      try clear p14
      try clear q14
      try clear hx14
      try clear p10
      try clear p12
      try clear p14
      try clear q10
      try clear q12
      try clear q14
      obtain ⟨kq, x42_3, rfl, HA, HJ3, ⟨mc3, rfl⟩⟩ := hcut
      cases kq with
      | zero => exact absurd HA.out (by simp [laws_FnGjNumberAtAny.j0])
      | succ kj3 =>
        have H := HA.out
        clear HA
        simp only [laws_FnGjNumberAtAny.j0] at H
        by_cases c15 : x42_3 = true
        · subst c15
          have H1 : (some true) = some r := by rw [if_pos rfl] at H; exact H
          clear H
          have H := H1
          clear H1
          obtain rfl := Option.some.inj H
          go_wp2
          go_ret
          exact ⟨by first | rfl | (simp; done) | (simp [*]; done), by repeat (first | exact Drawn0.refl _ | apply Drawn0.step)⟩
        · replace c15 := Bool.eq_false_iff.mpr c15
          subst c15
          have H1 : ((impl_GjNumberAt.f kj3 a0 a1).bind fun bt105 => (if bt105.1 ≤ a1 then (laws_FnGjNumberAtAny.j1 kj3 a0 bt105.1 bt105.2 true) else (if bt105.1 > (a0.size : Int) then (laws_FnGjNumberAtAny.j1 kj3 a0 bt105.1 bt105.2 true) else (if 0 ≤ a1 then (if a1 ≤ bt105.1 then (if bt105.1 ≤ (a0.size : Int) then (laws_FnGjNumberAtAny.j1 kj3 a0 bt105.1 bt105.2 (bt105.2.toList != (a0.extract (a1 : Int).toNat (bt105.1 : Int).toNat).toList)) else (none)) else (none)) else (none))))) = some r := by rw [if_neg (show ¬ (false = true) by decide)] at H; exact H
          clear H
          have H := H1
          clear H1
          replace H := Option.bind_eq_some_iff.mp H
          obtain ⟨⟨t105, t106⟩, A160, H⟩ := H
          replace H : (if t105 ≤ a1 then (laws_FnGjNumberAtAny.j1 kj3 a0 t105 t106 true) else (if t105 > (a0.size : Int) then (laws_FnGjNumberAtAny.j1 kj3 a0 t105 t106 true) else (if 0 ≤ a1 then (if a1 ≤ t105 then (if t105 ≤ (a0.size : Int) then (laws_FnGjNumberAtAny.j1 kj3 a0 t105 t106 (t106.toList != (a0.extract (a1 : Int).toNat (t105 : Int).toNat).toList)) else (none)) else (none)) else (none)))) = some r := H
          have A16 := Aside0.mk A160
          clear A160
          have HC17 := Aside0.mk H
          clear H
          go_upto_region 6 with (first | ((with_reducible refine gate_callee (f := 8) rfl ?_); refine goesL_ (some 46) rfl rfl Try.func8 (by kernel_rfl) rfl #[.string a0, .int .i64 a1] rfl (by (try simp only [List.map_toArray, List.map_cons, List.map_nil]); first | done | rfl | (simp only [List.length_drop, List.length_take]; rfl)) ?_; (with_reducible refine (impl_GjNumberAt.calls kj3 a0 a1 t105 t106 _ A16.out).mono ?_); rintro e w' ⟨rfl, ⟨nd, rfl⟩⟩; refine ⟨_, rfl, ?_⟩))
          (try simp only [Act.put, List.setIfInBounds_toArray, List.set_cons_zero, List.set_cons_succ])
          go_cut [65] (fun v65 wc => ∃ (kq : Nat) (x65_16 : Bool), v65 = .bool x65_16 ∧ Aside0 (laws_FnGjNumberAtAny.j1 kq a0 t105 t106 x65_16 = some r) ∧ Aside0 (kq ≤ kj3) ∧ Drawn0 w wc)
          case first =>
            have H := HC17.out
            clear HC17
            by_cases c18 : t105 ≤ a1
            · rw [if_pos c18] at H
              have c18b0 : decide (t105 ≤ a1) = true := decide_eq_true c18
              clear c18
              (first | rw [c18b0] | (simp only [i64_w, i32_w]; rw [c18b0]) | skip)
              have H' := Aside0.mk H
              clear H
              go_wp2
              go_meet
              case rel => exact ⟨_, (true), (by first | rfl | (simp; done) | (simp [*]; done)), H', ⟨by have := HJ3.out; first | omega | exact Nat.le_refl _⟩, by repeat (first | exact Drawn0.refl _ | apply Drawn0.step)⟩
            · rw [if_neg c18] at H
              have c18b0 : decide (t105 ≤ a1) = false := decide_eq_false c18
              clear c18
              (first | rw [c18b0] | (simp only [i64_w, i32_w]; rw [c18b0]) | skip)
              by_cases c19 : t105 > (a0.size : Int)
              · rw [if_pos c19] at H
                have c19b0 : decide ((a0.size : Int) < t105) = true := decide_eq_true c19
                clear c19
                have H' := Aside0.mk H
                clear H
                go_wp2
                go_meet
                case rel => exact ⟨_, (true), (by first | rfl | (simp; done) | (simp [*]; done)), H', ⟨by have := HJ3.out; first | omega | exact Nat.le_refl _⟩, by repeat (first | exact Drawn0.refl _ | apply Drawn0.step)⟩
              · rw [if_neg c19] at H
                have c19b0 : decide ((a0.size : Int) < t105) = false := decide_eq_false c19
                clear c19
                by_cases c20 : 0 ≤ a1
                · rw [if_pos c20] at H
                  have c20b0 := eq_true c20
                  have c20b1 : decide (0 ≤ a1) = true := decide_eq_true c20
                  clear c20
                  by_cases c21 : a1 ≤ t105
                  · rw [if_pos c21] at H
                    have c21b0 := eq_true c21
                    have c21b1 : decide (a1 ≤ t105) = true := decide_eq_true c21
                    clear c21
                    by_cases c22 : t105 ≤ (a0.size : Int)
                    · rw [if_pos c22] at H
                      have c22b0 := eq_true c22
                      have c22b1 : decide (t105 ≤ (a0.size : Int)) = true := decide_eq_true c22
                      clear c22
                      have H' := Aside0.mk H
                      clear H
                      go_wp2
                      go_meet
                      case rel => exact ⟨_, ((t106.toList != (a0.extract (a1 : Int).toNat (t105 : Int).toNat).toList)), (by first | rfl | (simp; done) | (simp [*]; done)), H', ⟨by have := HJ3.out; first | omega | exact Nat.le_refl _⟩, by repeat (first | exact Drawn0.refl _ | apply Drawn0.step)⟩
                    · rw [if_neg c22] at H
                      exact absurd H (by simp)
                  · rw [if_neg c21] at H
                    exact absurd H (by simp)
                · rw [if_neg c20] at H
                  exact absurd H (by simp)
          case rest =>
            clear HC17
            try clear c1
            try clear p1
            try clear q1
            try clear hx1
            try clear c2
            try clear p2
            try clear c3
            try clear c3b0
            try clear c3b1
            try clear c5
            try clear c5b0
            try clear c5b1
            try clear c6
            try clear c6b0
            try clear c7
            try clear c7b0
            try clear c8
            try clear c8b0
            try clear c9
            try clear c9b0
            try clear p10
            try clear q10
            try clear hx10
            try clear c11
            try clear c11b0
            try clear c11b1
            try clear p12
            try clear q12
            try clear hx12
            try clear c13
            try clear c13b0
            try clear p14
            try clear q14
            try clear hx14
            try clear c15
            try clear c18
            try clear c18b0
            try clear c19
            try clear c19b0
            try clear c20
            try clear c20b0
            try clear c20b1
            try clear c21
            try clear c21b0
            try clear c21b1
            try clear c22
            try clear c22b0
            try clear c22b1
            try clear p1
            try clear p10
            try clear p12
            try clear p14
            try clear p2
            try clear q1
            try clear q10
            try clear q12
            try clear q14
            obtain ⟨kq, x65_16, rfl, HA, HJ16, ⟨mc16, rfl⟩⟩ := hcut
            cases kq with
            | zero => exact absurd HA.out (by simp [laws_FnGjNumberAtAny.j1])
            | succ kj16 =>
              have H := HA.out
              clear HA
              simp only [laws_FnGjNumberAtAny.j1] at H
              by_cases c23 : x65_16 = true
              · subst c23
                have H1 : (some false) = some r := by rw [if_pos rfl] at H; exact H
                clear H
                have H := H1
                clear H1
                obtain rfl := Option.some.inj H
                go_wp2
                go_ret
                exact ⟨by first | rfl | (simp; done) | (simp [*]; done), by repeat (first | exact Drawn0.refl _ | apply Drawn0.step)⟩
              · replace c23 := Bool.eq_false_iff.mpr c23
                subst c23
                have H1 : (laws_FnGjNumberAtAny.l0 kj16 a0 t105 t106 0) = some r := by rw [if_neg (show ¬ (false = true) by decide)] at H; exact H
                clear H
                have H := H1
                clear H1
                have H' := Aside0.mk H
                clear H
                go_wp2
                go_loopg [7] kj16 (fun kq v7 w' => ∃ (x7_3 : Int), v7 = .int .i64 x7_3 ∧ Aside0 (laws_FnGjNumberAtAny.l0 kq a0 t105 t106 x7_3 = some r) ∧ Aside0 (kq ≤ kj16) ∧ Drawn0 w w')
                case atStart => exact ⟨(0), (by first | rfl | (simp; done) | (simp [*]; done)), H', ⟨Nat.le_refl _⟩, by repeat (first | exact Drawn0.refl _ | apply Drawn0.step)⟩
                case round =>
                  clear H'
                  try clear c1
                  try clear p1
                  try clear q1
                  try clear hx1
                  try clear c2
                  try clear p2
                  try clear c3
                  try clear c3b0
                  try clear c3b1
                  try clear c5
                  try clear c5b0
                  try clear c5b1
                  try clear c6
                  try clear c6b0
                  try clear c7
                  try clear c7b0
                  try clear c8
                  try clear c8b0
                  try clear c9
                  try clear c9b0
                  try clear p10
                  try clear q10
                  try clear hx10
                  try clear c11
                  try clear c11b0
                  try clear c11b1
                  try clear p12
                  try clear q12
                  try clear hx12
                  try clear c13
                  try clear c13b0
                  try clear p14
                  try clear q14
                  try clear hx14
                  try clear c15
                  try clear c16
                  try clear c18
                  try clear c18b0
                  try clear c19
                  try clear c19b0
                  try clear c20
                  try clear c20b0
                  try clear c20b1
                  try clear c21
                  try clear c21b0
                  try clear c21b1
                  try clear c22
                  try clear c22b0
                  try clear c22b1
                  try clear c23
                  try clear p1
                  try clear p10
                  try clear p12
                  try clear p14
                  try clear p2
                  try clear q1
                  try clear q10
                  try clear q12
                  try clear q14
                  obtain ⟨x7_3, rfl, HA, HK3, ⟨m3, rfl⟩⟩ := hrel
                  cases gk with
                  | zero => exact absurd HA.out (by simp [laws_FnGjNumberAtAny.l0])
                  | succ k3 =>
                    have H := HA.out
                    clear HA
                    simp only [laws_FnGjNumberAtAny.l0] at H
                    by_cases c24 : x7_3 < (t106.size : Int)
                    · rw [if_pos c24] at H
                      have c24b0 : decide (x7_3 < (t106.size : Int)) = true := decide_eq_true c24
                      clear c24
                      by_cases c25 : 0 ≤ x7_3
                      · rw [if_pos c25] at H
                        have c25b0 : decide (0 ≤ x7_3) = true := decide_eq_true c25
                        clear c25
                        by_cases c27 : (bt t106 x7_3) ≤ 32
                        · rw [if_pos c27] at H
                          have c27b0 : decide ((bt t106 x7_3) ≤ 32) = true := decide_eq_true c27
                          clear c27
                          obtain rfl := Option.some.inj H
                          have p26 : 0 ≤ (x7_3 : Int) := of_decide_eq_true (by first | (with_reducible assumption) | assumption)
                          have q26 : x7_3 < (t106.size : Int) := of_decide_eq_true (by first | (with_reducible assumption) | assumption)
                          have hx26 := bt_at t106 x7_3
                          replace p26 := eq_true p26
                          replace q26 := eq_true q26
                          go_wp2
                          go_ret
                          exact ⟨by first | rfl | (simp; done) | (simp [*]; done), by repeat (first | exact Drawn0.refl _ | apply Drawn0.step)⟩
                        · rw [if_neg c27] at H
                          have c27b0 : decide ((bt t106 x7_3) ≤ 32) = false := decide_eq_false c27
                          clear c27
                          by_cases c28 : (bt t106 x7_3) = 44
                          · rw [if_pos c28] at H
                            have c28b0 : ((bt t106 x7_3) == 44) = true := beq_iff_eq.mpr c28
                            have c28b1 : ((bt t106 x7_3) != 44) = false := bne_eq_false_iff_eq.mpr c28
                            clear c28
                            obtain rfl := Option.some.inj H
                            have p26 : 0 ≤ (x7_3 : Int) := of_decide_eq_true (by first | (with_reducible assumption) | assumption)
                            have q26 : x7_3 < (t106.size : Int) := of_decide_eq_true (by first | (with_reducible assumption) | assumption)
                            have hx26 := bt_at t106 x7_3
                            replace p26 := eq_true p26
                            replace q26 := eq_true q26
                            go_wp2
                            go_ret
                            exact ⟨by first | rfl | (simp; done) | (simp [*]; done), by repeat (first | exact Drawn0.refl _ | apply Drawn0.step)⟩
                          · rw [if_neg c28] at H
                            have c28b0 : ((bt t106 x7_3) == 44) = false := beq_eq_false_iff_ne.mpr c28
                            have c28b1 : ((bt t106 x7_3) != 44) = true := bne_iff_ne.mpr c28
                            by_cases c29 : (bt t106 x7_3) = 93
                            · rw [if_pos c29] at H
                              have c29b0 : ((bt t106 x7_3) == 93) = true := beq_iff_eq.mpr c29
                              have c29b1 : ((bt t106 x7_3) != 93) = false := bne_eq_false_iff_eq.mpr c29
                              clear c29
                              obtain rfl := Option.some.inj H
                              have p26 : 0 ≤ (x7_3 : Int) := of_decide_eq_true (by first | (with_reducible assumption) | assumption)
                              have q26 : x7_3 < (t106.size : Int) := of_decide_eq_true (by first | (with_reducible assumption) | assumption)
                              have hx26 := bt_at t106 x7_3
                              replace p26 := eq_true p26
                              replace q26 := eq_true q26
                              go_wp2
                              go_ret
                              exact ⟨by first | rfl | (simp; done) | (simp [*]; done), by repeat (first | exact Drawn0.refl _ | apply Drawn0.step)⟩
                            · rw [if_neg c29] at H
                              have c29b0 : ((bt t106 x7_3) == 93) = false := beq_eq_false_iff_ne.mpr c29
                              have c29b1 : ((bt t106 x7_3) != 93) = true := bne_iff_ne.mpr c29
                              by_cases c30 : (bt t106 x7_3) = 125
                              · rw [if_pos c30] at H
                                have c30b0 : ((bt t106 x7_3) == 125) = true := beq_iff_eq.mpr c30
                                have c30b1 : ((bt t106 x7_3) != 125) = false := bne_eq_false_iff_eq.mpr c30
                                clear c30
                                obtain rfl := Option.some.inj H
                                have p26 : 0 ≤ (x7_3 : Int) := of_decide_eq_true (by first | (with_reducible assumption) | assumption)
                                have q26 : x7_3 < (t106.size : Int) := of_decide_eq_true (by first | (with_reducible assumption) | assumption)
                                have hx26 := bt_at t106 x7_3
                                replace p26 := eq_true p26
                                replace q26 := eq_true q26
                                go_wp2
                                go_ret
                                exact ⟨by first | rfl | (simp; done) | (simp [*]; done), by repeat (first | exact Drawn0.refl _ | apply Drawn0.step)⟩
                              · rw [if_neg c30] at H
                                have c30b0 : ((bt t106 x7_3) == 125) = false := beq_eq_false_iff_ne.mpr c30
                                have c30b1 : ((bt t106 x7_3) != 125) = true := bne_iff_ne.mpr c30
                                have H' := Aside0.mk H
                                clear H
                                have p26 : 0 ≤ (x7_3 : Int) := of_decide_eq_true (by first | (with_reducible assumption) | assumption)
                                have q26 : x7_3 < (t106.size : Int) := of_decide_eq_true (by first | (with_reducible assumption) | assumption)
                                have hx26 := bt_at t106 x7_3
                                replace p26 := eq_true p26
                                replace q26 := eq_true q26
                                go_wp2
                                go_roundg k3
                                case measure => have := HJ3.out; have := HJ16.out; have := HK3.out; omega
                                case rel => exact ⟨(wrap64 (x7_3 + 1)), (by first | rfl | (simp; done) | (simp [*]; done)), H', ⟨by have := HJ3.out; have := HJ16.out; have := HK3.out; omega⟩, by repeat (first | exact Drawn0.refl _ | apply Drawn0.step)⟩
                      · rw [if_neg c25] at H
                        exact absurd H (by simp)
                    · rw [if_neg c24] at H
                      have c24b0 : decide (x7_3 < (t106.size : Int)) = false := decide_eq_false c24
                      clear c24
                      by_cases c31 : t105 = (a0.size : Int)
                      · rw [if_pos c31] at H
                        have c31b0 : (t105 == (a0.size : Int)) = true := beq_iff_eq.mpr c31
                        have c31b1 : (t105 != (a0.size : Int)) = false := bne_eq_false_iff_eq.mpr c31
                        clear c31
                        obtain rfl := Option.some.inj H
                        go_wp2
                        go_ret
                        exact ⟨by first | rfl | (simp; done) | (simp [*]; done), by repeat (first | exact Drawn0.refl _ | apply Drawn0.step)⟩
                      · rw [if_neg c31] at H
                        have c31b0 : (t105 == (a0.size : Int)) = false := beq_eq_false_iff_ne.mpr c31
                        have c31b1 : (t105 != (a0.size : Int)) = true := bne_iff_ne.mpr c31
                        by_cases c32 : 0 ≤ t105
                        · rw [if_pos c32] at H
                          have c32b0 : decide (0 ≤ t105) = true := decide_eq_true c32
                          clear c32
                          by_cases c33 : t105 < (a0.size : Int)
                          · rw [if_pos c33] at H
                            have c33b0 : decide (t105 < (a0.size : Int)) = true := decide_eq_true c33
                            clear c33
                            by_cases c35 : (bt a0 t105) ≤ 32
                            · rw [if_pos c35] at H
                              have c35b0 : decide ((bt a0 t105) ≤ 32) = true := decide_eq_true c35
                              clear c35
                              obtain rfl := Option.some.inj H
                              have p34 : 0 ≤ (t105 : Int) := of_decide_eq_true (by first | (with_reducible assumption) | assumption)
                              have q34 : t105 < (a0.size : Int) := of_decide_eq_true (by first | (with_reducible assumption) | assumption)
                              have hx34 := bt_at a0 t105
                              replace p34 := eq_true p34
                              replace q34 := eq_true q34
                              go_wp2
                              go_ret
                              exact ⟨by first | rfl | (simp; done) | (simp [*]; done), by repeat (first | exact Drawn0.refl _ | apply Drawn0.step)⟩
                            · rw [if_neg c35] at H
                              have c35b0 : decide ((bt a0 t105) ≤ 32) = false := decide_eq_false c35
                              clear c35
                              by_cases c37 : (bt a0 t105) = 44
                              · rw [if_pos c37] at H
                                have c37b0 : ((bt a0 t105) == 44) = true := beq_iff_eq.mpr c37
                                have c37b1 : ((bt a0 t105) != 44) = false := bne_eq_false_iff_eq.mpr c37
                                clear c37
                                obtain rfl := Option.some.inj H
                                have p34 : 0 ≤ (t105 : Int) := of_decide_eq_true (by first | (with_reducible assumption) | assumption)
                                have q34 : t105 < (a0.size : Int) := of_decide_eq_true (by first | (with_reducible assumption) | assumption)
                                have hx34 := bt_at a0 t105
                                replace p34 := eq_true p34
                                replace q34 := eq_true q34
                                have p36 : 0 ≤ (t105 : Int) := of_decide_eq_true (by first | (with_reducible assumption) | assumption)
                                have q36 : t105 < (a0.size : Int) := of_decide_eq_true (by first | (with_reducible assumption) | assumption)
                                have hx36 := bt_at a0 t105
                                replace p36 := eq_true p36
                                replace q36 := eq_true q36
                                go_wp2
                                go_ret
                                exact ⟨by first | rfl | (simp; done) | (simp [*]; done), by repeat (first | exact Drawn0.refl _ | apply Drawn0.step)⟩
                              · rw [if_neg c37] at H
                                have c37b0 : ((bt a0 t105) == 44) = false := beq_eq_false_iff_ne.mpr c37
                                have c37b1 : ((bt a0 t105) != 44) = true := bne_iff_ne.mpr c37
                                by_cases c39 : (bt a0 t105) = 93
                                · rw [if_pos c39] at H
                                  have c39b0 : ((bt a0 t105) == 93) = true := beq_iff_eq.mpr c39
                                  have c39b1 : ((bt a0 t105) != 93) = false := bne_eq_false_iff_eq.mpr c39
                                  clear c39
                                  obtain rfl := Option.some.inj H
                                  have p34 : 0 ≤ (t105 : Int) := of_decide_eq_true (by first | (with_reducible assumption) | assumption)
                                  have q34 : t105 < (a0.size : Int) := of_decide_eq_true (by first | (with_reducible assumption) | assumption)
                                  have hx34 := bt_at a0 t105
                                  replace p34 := eq_true p34
                                  replace q34 := eq_true q34
                                  have p36 : 0 ≤ (t105 : Int) := of_decide_eq_true (by first | (with_reducible assumption) | assumption)
                                  have q36 : t105 < (a0.size : Int) := of_decide_eq_true (by first | (with_reducible assumption) | assumption)
                                  have hx36 := bt_at a0 t105
                                  replace p36 := eq_true p36
                                  replace q36 := eq_true q36
                                  have p38 : 0 ≤ (t105 : Int) := of_decide_eq_true (by first | (with_reducible assumption) | assumption)
                                  have q38 : t105 < (a0.size : Int) := of_decide_eq_true (by first | (with_reducible assumption) | assumption)
                                  have hx38 := bt_at a0 t105
                                  replace p38 := eq_true p38
                                  replace q38 := eq_true q38
                                  go_wp2
                                  go_ret
                                  exact ⟨by first | rfl | (simp; done) | (simp [*]; done), by repeat (first | exact Drawn0.refl _ | apply Drawn0.step)⟩
                                · rw [if_neg c39] at H
                                  have c39b0 : ((bt a0 t105) == 93) = false := beq_eq_false_iff_ne.mpr c39
                                  have c39b1 : ((bt a0 t105) != 93) = true := bne_iff_ne.mpr c39
                                  obtain rfl := Option.some.inj H
                                  have p34 : 0 ≤ (t105 : Int) := of_decide_eq_true (by first | (with_reducible assumption) | assumption)
                                  have q34 : t105 < (a0.size : Int) := of_decide_eq_true (by first | (with_reducible assumption) | assumption)
                                  have hx34 := bt_at a0 t105
                                  replace p34 := eq_true p34
                                  replace q34 := eq_true q34
                                  have p36 : 0 ≤ (t105 : Int) := of_decide_eq_true (by first | (with_reducible assumption) | assumption)
                                  have q36 : t105 < (a0.size : Int) := of_decide_eq_true (by first | (with_reducible assumption) | assumption)
                                  have hx36 := bt_at a0 t105
                                  replace p36 := eq_true p36
                                  replace q36 := eq_true q36
                                  have p38 : 0 ≤ (t105 : Int) := of_decide_eq_true (by first | (with_reducible assumption) | assumption)
                                  have q38 : t105 < (a0.size : Int) := of_decide_eq_true (by first | (with_reducible assumption) | assumption)
                                  have hx38 := bt_at a0 t105
                                  replace p38 := eq_true p38
                                  replace q38 := eq_true q38
                                  have p40 : 0 ≤ (t105 : Int) := of_decide_eq_true (by first | (with_reducible assumption) | assumption)
                                  have q40 : t105 < (a0.size : Int) := of_decide_eq_true (by first | (with_reducible assumption) | assumption)
                                  have hx40 := bt_at a0 t105
                                  replace p40 := eq_true p40
                                  replace q40 := eq_true q40
                                  go_wp2
                                  go_ret
                                  exact ⟨by first | rfl | (simp; done) | (simp [*]; done), by repeat (first | exact Drawn0.refl _ | apply Drawn0.step)⟩
                          · rw [if_neg c33] at H
                            exact absurd H (by simp)
                        · rw [if_neg c32] at H
                          exact absurd H (by simp)

/-- THE ONE PURE STATEMENT of laws_FnGjNumberAtAny: yours. -/
def laws_FnGjNumberAtAny.Pure : Prop := ∀ (a0 : ByteArray) (a1 : Int), a0.size ≤ 140737488351232 → (Lit.int .i64 a1).wf = true → ∃ k, laws_FnGjNumberAtAny.f k a0 a1 = some true
theorem laws_FnGjNumberAtAny.walk (P : laws_FnGjNumberAtAny.Pure) (a0 : ByteArray) (a1 : Int) (w : World) (w0 : a0.size ≤ 140737488351232) (w1 : (Lit.int .i64 a1).wf = true) :
    Calls Try.prog 3 #[.string a0, .int .i64 a1] w fun e w' => e = .returned (.bool true) ∧ Below w.heap.size w w' := by
  obtain ⟨k, h⟩ := P a0 a1 w0 w1
  refine (laws_FnGjNumberAtAny.calls k a0 a1 true w h).mono ?_
  rintro e w' ⟨rfl, hd⟩
  exact ⟨rfl, hd.below⟩

end Go.Proofs.Ytbnogfljakmfgaa.PFnGjNumberAtAny
