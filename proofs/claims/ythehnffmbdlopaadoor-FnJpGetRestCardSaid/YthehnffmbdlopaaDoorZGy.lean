/- Several texts in one. -/
import Derived.Test.YthehnffmbdlopaaDoorZPFnJpGetRestx0
namespace Go.Proofs.YthehnffmbdlopaaDoor.PFnJpGetRest
open Go.RowKit Go.Proofs.YthehnffmbdlopaaDoorW.PrintWords Go.Proofs.YthehnffmbdlopaaDoorW.PrintLast Go.Proofs.YthehnffmbdlopaaDoorW.PrintMore
attribute [local go_sem] max2_int min2_int max_two min_two max_three min_three max_four min_four   -- for this text's walks alone
set_option linter.unusedVariables false
set_option linter.unusedSimpArgs false

mutual
def jsonparser_h2I.j0 : Nat → Int → Bool → Option (Int)
  | 0, _, _ => none
  | k + 1, x0, x8 => if x8 = true then (some ((x0 - 48) % 256)) else (if x0 ≥ 65 then (jsonparser_h2I.j1 k x0 (decide (x0 ≤ 70))) else (jsonparser_h2I.j1 k x0 false))
def jsonparser_h2I.j1 : Nat → Int → Bool → Option (Int)
  | 0, _, _ => none
  | k + 1, x0, x17 => if x17 = true then (some (((x0 - 65) % 256) + 10)) else (if x0 ≥ 97 then (if x0 ≤ 102 then (some (((x0 - 97) % 256) + 10)) else (some (-1))) else (some (-1)))
end
def jsonparser_h2I.f (k : Nat) (a0 : Int) : Option (Int) := if a0 ≥ 48 then (jsonparser_h2I.j0 k a0 (decide (a0 ≤ 57))) else (jsonparser_h2I.j0 k a0 false)
theorem jsonparser_h2I.mono_l : ∀ k, (∀ y0 y1, LeO (jsonparser_h2I.j0 k y0 y1) (jsonparser_h2I.j0 (k + 1) y0 y1)) ∧ (∀ y0 y1, LeO (jsonparser_h2I.j1 k y0 y1) (jsonparser_h2I.j1 (k + 1) y0 y1))
  | 0 => ⟨fun _ _ r h => by simp [jsonparser_h2I.j0] at h, fun _ _ r h => by simp [jsonparser_h2I.j1] at h⟩
  | k + 1 => by
    obtain ⟨ih0, ih1⟩ := jsonparser_h2I.mono_l k
    refine ⟨?_, ?_⟩
    · intro y0 y1
      unfold jsonparser_h2I.j0
      repeat' first
      | (with_reducible exact ih0 _ _)
      | (with_reducible exact ih1 _ _)
      | (with_reducible exact LeO.refl _)
      | (with_reducible exact LeO.none _)
      | (with_reducible refine LeO.ite ?_ ?_)
      | (with_reducible refine LeO.bind ?_ (fun _ => ?_))
      | exact ih0 _ _
      | exact ih1 _ _
      | exact LeO.none _
      | refine LeO.ite ?_ ?_
      | refine LeO.bind ?_ (fun _ => ?_)
    · intro y0 y1
      unfold jsonparser_h2I.j1
      repeat' first
      | (with_reducible exact ih0 _ _)
      | (with_reducible exact ih1 _ _)
      | (with_reducible exact LeO.refl _)
      | (with_reducible exact LeO.none _)
      | (with_reducible refine LeO.ite ?_ ?_)
      | (with_reducible refine LeO.bind ?_ (fun _ => ?_))
      | exact ih0 _ _
      | exact ih1 _ _
      | exact LeO.none _
      | refine LeO.ite ?_ ?_
      | refine LeO.bind ?_ (fun _ => ?_)
theorem jsonparser_h2I.mono : ∀ a0 k, LeO (jsonparser_h2I.f k a0) (jsonparser_h2I.f (k + 1) a0) := by
  intro a0 k
  obtain ⟨ih0, ih1⟩ := jsonparser_h2I.mono_l k
  unfold jsonparser_h2I.f
  repeat' first
      | (with_reducible exact ih0 _ _)
      | (with_reducible exact ih1 _ _)
      | (with_reducible exact LeO.refl _)
      | (with_reducible exact LeO.none _)
      | (with_reducible refine LeO.ite ?_ ?_)
      | (with_reducible refine LeO.bind ?_ (fun _ => ?_))
      | exact ih0 _ _
      | exact ih1 _ _
      | exact LeO.none _
      | refine LeO.ite ?_ ?_
      | refine LeO.bind ?_ (fun _ => ?_)
set_option maxHeartbeats 8000000 in
set_option maxRecDepth 100000 in
theorem jsonparser_h2I.calls (k : Nat) (a0 : Int) (r : Int) (w : World) (h : jsonparser_h2I.f k a0 = some r) :
    Calls Tryd.prog 94 #[.int .u8 a0] w fun e w' => e = .returned (.int .i64 r) ∧ Drawn0 w w' := by
  have H : (if a0 ≥ 48 then (jsonparser_h2I.j0 k a0 (decide (a0 ≤ 57))) else (jsonparser_h2I.j0 k a0 false)) = some r := h
  clear h
  have HC2 := Aside0.mk H
  clear H
  go_enter Tryd.func94, Tryd.ntmps94
  go_upto_region 1 with (fail)
  go_cut [8] (fun v8 wc => ∃ (kq : Nat) (x8_1 : Bool), v8 = .bool x8_1 ∧ Aside0 (jsonparser_h2I.j0 kq a0 x8_1 = some r) ∧ Aside0 (kq ≤ k) ∧ Drawn0 w wc)
  case first =>
    have H := HC2.out
    clear HC2
    by_cases c3 : a0 ≥ 48
    · rw [if_pos c3] at H
      have c3b0 : decide (48 ≤ a0) = true := decide_eq_true c3
      clear c3
      (first | rw [c3b0] | (simp only [i64_w, i32_w]; rw [c3b0]) | skip)
      have H' := Aside0.mk H
      clear H
      go_wp2
      go_meet
      case rel => exact ⟨_, (decide (a0 ≤ 57)), (by first | rfl | (simp; done) | (simp [*]; done)), H', ⟨by first | omega | exact Nat.le_refl _⟩, by repeat (first | exact Drawn0.refl _ | apply Drawn0.step)⟩
    · rw [if_neg c3] at H
      have c3b0 : decide (48 ≤ a0) = false := decide_eq_false c3
      clear c3
      (first | rw [c3b0] | (simp only [i64_w, i32_w]; rw [c3b0]) | skip)
      have H' := Aside0.mk H
      clear H
      go_wp2
      go_meet
      case rel => exact ⟨_, (false), (by first | rfl | (simp; done) | (simp [*]; done)), H', ⟨by first | omega | exact Nat.le_refl _⟩, by repeat (first | exact Drawn0.refl _ | apply Drawn0.step)⟩
  case rest =>
    clear HC2
    try clear p2
    try clear c3
    try clear c3b0
    obtain ⟨kq, x8_1, rfl, HA, HJ1, ⟨mc1, rfl⟩⟩ := hcut
    cases kq with
    | zero => exact absurd HA.out (by simp [jsonparser_h2I.j0])
    | succ kj1 =>
      have H := HA.out
      clear HA
      simp only [jsonparser_h2I.j0] at H
      by_cases c4 : x8_1 = true
      · subst c4
        have H1 : (some ((a0 - 48) % 256)) = some r := by rw [if_pos rfl] at H; exact H
        clear H
        have H := H1
        clear H1
        obtain rfl := Option.some.inj H
        go_wp2
        go_ret
        exact ⟨by first | rfl | (simp; done) | (simp [*]; done), by repeat (first | exact Drawn0.refl _ | apply Drawn0.step)⟩
      · replace c4 := Bool.eq_false_iff.mpr c4
        subst c4
        have H1 : (if a0 ≥ 65 then (jsonparser_h2I.j1 kj1 a0 (decide (a0 ≤ 70))) else (jsonparser_h2I.j1 kj1 a0 false)) = some r := by rw [if_neg (show ¬ (false = true) by decide)] at H; exact H
        clear H
        have H := H1
        clear H1
        have HC5 := Aside0.mk H
        clear H
        go_upto_region 3 with (fail)
        go_cut [17] (fun v17 wc => ∃ (kq : Nat) (x17_4 : Bool), v17 = .bool x17_4 ∧ Aside0 (jsonparser_h2I.j1 kq a0 x17_4 = some r) ∧ Aside0 (kq ≤ kj1) ∧ Drawn0 w wc)
        case first =>
          have H := HC5.out
          clear HC5
          by_cases c6 : a0 ≥ 65
          · rw [if_pos c6] at H
            have c6b0 : decide (65 ≤ a0) = true := decide_eq_true c6
            clear c6
            (first | rw [c6b0] | (simp only [i64_w, i32_w]; rw [c6b0]) | skip)
            have H' := Aside0.mk H
            clear H
            go_wp2
            go_meet
            case rel => exact ⟨_, (decide (a0 ≤ 70)), (by first | rfl | (simp; done) | (simp [*]; done)), H', ⟨by have := HJ1.out; first | omega | exact Nat.le_refl _⟩, by repeat (first | exact Drawn0.refl _ | apply Drawn0.step)⟩
          · rw [if_neg c6] at H
            have c6b0 : decide (65 ≤ a0) = false := decide_eq_false c6
            clear c6
            (first | rw [c6b0] | (simp only [i64_w, i32_w]; rw [c6b0]) | skip)
            have H' := Aside0.mk H
            clear H
            go_wp2
            go_meet
            case rel => exact ⟨_, (false), (by first | rfl | (simp; done) | (simp [*]; done)), H', ⟨by have := HJ1.out; first | omega | exact Nat.le_refl _⟩, by repeat (first | exact Drawn0.refl _ | apply Drawn0.step)⟩
        case rest =>
          clear HC5
          try clear c1
          try clear p2
          try clear c3
          try clear c3b0
          try clear c4
          try clear c6
          try clear c6b0
          try clear p2
          obtain ⟨kq, x17_4, rfl, HA, HJ4, ⟨mc4, rfl⟩⟩ := hcut
          cases kq with
          | zero => exact absurd HA.out (by simp [jsonparser_h2I.j1])
          | succ kj4 =>
            have H := HA.out
            clear HA
            simp only [jsonparser_h2I.j1] at H
            by_cases c7 : x17_4 = true
            · subst c7
              have H1 : (some (((a0 - 65) % 256) + 10)) = some r := by rw [if_pos rfl] at H; exact H
              clear H
              have H := H1
              clear H1
              obtain rfl := Option.some.inj H
              go_wp2
              go_ret
              exact ⟨by first | rfl | (simp; done) | (simp [*]; done), by repeat (first | exact Drawn0.refl _ | apply Drawn0.step)⟩
            · replace c7 := Bool.eq_false_iff.mpr c7
              subst c7
              have H1 : (if a0 ≥ 97 then (if a0 ≤ 102 then (some (((a0 - 97) % 256) + 10)) else (some (-1))) else (some (-1))) = some r := by rw [if_neg (show ¬ (false = true) by decide)] at H; exact H
              clear H
              have H := H1
              clear H1
              by_cases c8 : a0 ≥ 97
              · rw [if_pos c8] at H
                have c8b0 : decide (97 ≤ a0) = true := decide_eq_true c8
                clear c8
                by_cases c9 : a0 ≤ 102
                · rw [if_pos c9] at H
                  have c9b0 : decide (a0 ≤ 102) = true := decide_eq_true c9
                  clear c9
                  obtain rfl := Option.some.inj H
                  go_wp2
                  go_ret
                  exact ⟨by first | rfl | (simp; done) | (simp [*]; done), by repeat (first | exact Drawn0.refl _ | apply Drawn0.step)⟩
                · rw [if_neg c9] at H
                  have c9b0 : decide (a0 ≤ 102) = false := decide_eq_false c9
                  clear c9
                  obtain rfl := Option.some.inj H
                  go_wp2
                  go_ret
                  exact ⟨by first | rfl | (simp; done) | (simp [*]; done), by repeat (first | exact Drawn0.refl _ | apply Drawn0.step)⟩
              · rw [if_neg c8] at H
                have c8b0 : decide (97 ≤ a0) = false := decide_eq_false c8
                clear c8
                obtain rfl := Option.some.inj H
                go_wp2
                go_ret
                exact ⟨by first | rfl | (simp; done) | (simp [*]; done), by repeat (first | exact Drawn0.refl _ | apply Drawn0.step)⟩

def jsonparser_decodeSingleUnicodeEscape.f (k : Nat) (l0 : List Int) : Option (Int × Bool) := if (l0.length : Int) < 6 then (some (65533, false)) else (if 2 < (l0.length : Int) then ((jsonparser_h2I.f k (rd l0 2)).bind fun t293 => (if 3 < (l0.length : Int) then ((jsonparser_h2I.f k (rd l0 3)).bind fun t295 => (if 4 < (l0.length : Int) then ((jsonparser_h2I.f k (rd l0 4)).bind fun t297 => (if 5 < (l0.length : Int) then ((jsonparser_h2I.f k (rd l0 5)).bind fun t299 => (if t293 = (-1) then (some (65533, false)) else (if t295 = (-1) then (some (65533, false)) else (if t297 = (-1) then (some (65533, false)) else (if t299 = (-1) then (some (65533, false)) else (some (wrap32 (wrap64 ((wrap64 ((wrap64 ((wrap64 (t293 * 4096)) + (wrap64 (t295 * 256)))) + (wrap64 (t297 * 16)))) + t299)), true))))))) else (none))) else (none))) else (none))) else (none))
theorem jsonparser_decodeSingleUnicodeEscape.mono : ∀ a0 k, LeO (jsonparser_decodeSingleUnicodeEscape.f k a0) (jsonparser_decodeSingleUnicodeEscape.f (k + 1) a0) := by
  intro a0 k
  unfold jsonparser_decodeSingleUnicodeEscape.f
  repeat' first
      | (with_reducible exact jsonparser_h2I.mono _ _)
      | (with_reducible exact LeO.refl _)
      | (with_reducible exact LeO.none _)
      | (with_reducible refine LeO.ite ?_ ?_)
      | (with_reducible refine LeO.bind ?_ (fun _ => ?_))
      | exact jsonparser_h2I.mono _ _
      | exact LeO.none _
      | refine LeO.ite ?_ ?_
      | refine LeO.bind ?_ (fun _ => ?_)
set_option maxHeartbeats 8000000 in
set_option maxRecDepth 100000 in
theorem jsonparser_decodeSingleUnicodeEscape.calls (k : Nat) (A0 : Option Addr) (c0 : Nat) (l0 : List Int) (r1 : Int) (r2 : Bool) (w : World) (hr0 : Kd.C (Kd.int .u8) w A0 l0.length l0) (hc0 : l0.length ≤ c0) (h : jsonparser_decodeSingleUnicodeEscape.f k l0 = some (r1, r2)) :
    Calls Tryd.prog 86 #[.slice A0 l0.length c0] w fun e w' => e = .returned (.tuple #[.int .i32 r1, .bool r2]) ∧ Drawn0 w w' := by
  have HR0 := Aside0.mk hr0
  have HC0 := Aside0.mk hc0
  clear hr0 hc0
  have H : (if (l0.length : Int) < 6 then (some (65533, false)) else (if 2 < (l0.length : Int) then ((jsonparser_h2I.f k (rd l0 2)).bind fun t293 => (if 3 < (l0.length : Int) then ((jsonparser_h2I.f k (rd l0 3)).bind fun t295 => (if 4 < (l0.length : Int) then ((jsonparser_h2I.f k (rd l0 4)).bind fun t297 => (if 5 < (l0.length : Int) then ((jsonparser_h2I.f k (rd l0 5)).bind fun t299 => (if t293 = (-1) then (some (65533, false)) else (if t295 = (-1) then (some (65533, false)) else (if t297 = (-1) then (some (65533, false)) else (if t299 = (-1) then (some (65533, false)) else (some (wrap32 (wrap64 ((wrap64 ((wrap64 ((wrap64 (t293 * 4096)) + (wrap64 (t295 * 256)))) + (wrap64 (t297 * 16)))) + t299)), true))))))) else (none))) else (none))) else (none))) else (none))) = some (r1, r2) := h
  clear h
  by_cases c2 : (l0.length : Int) < 6
  · rw [if_pos c2] at H
    have c2b0 : decide ((l0.length : Int) < 6) = true := decide_eq_true c2
    have c2b1 : decide (l0.length < 6) = true := decide_eq_true (by omega)
    clear c2
    simp only [Option.some.injEq, Prod.mk.injEq] at H
    obtain ⟨rfl, rfl⟩ := H
    go_enter Tryd.func86, Tryd.ntmps86
    go_wp2
    repeat (go_quiet (fail); try go_wp2)
    go_ret2
    exact ⟨by first | rfl | (simp; done) | (simp [*]; done), by repeat (first | exact Drawn0.refl _ | apply Drawn0.step)⟩
  · rw [if_neg c2] at H
    have c2b0 : decide ((l0.length : Int) < 6) = false := decide_eq_false c2
    have c2b1 : decide (l0.length < 6) = false := decide_eq_false (by omega)
    clear c2
    by_cases c3 : 2 < (l0.length : Int)
    · rw [if_pos c3] at H
      have c3b0 : decide (2 < (l0.length : Int)) = true := decide_eq_true c3
      have c3b1 : decide (2 < l0.length) = true := decide_eq_true (by omega)
      clear c3
      replace H := Option.bind_eq_some_iff.mp H
      obtain ⟨t293, A40, H⟩ := H
      replace H : (if 3 < (l0.length : Int) then ((jsonparser_h2I.f k (rd l0 3)).bind fun t295 => (if 4 < (l0.length : Int) then ((jsonparser_h2I.f k (rd l0 4)).bind fun t297 => (if 5 < (l0.length : Int) then ((jsonparser_h2I.f k (rd l0 5)).bind fun t299 => (if t293 = (-1) then (some (65533, false)) else (if t295 = (-1) then (some (65533, false)) else (if t297 = (-1) then (some (65533, false)) else (if t299 = (-1) then (some (65533, false)) else (some (wrap32 (wrap64 ((wrap64 ((wrap64 ((wrap64 (t293 * 4096)) + (wrap64 (t295 * 256)))) + (wrap64 (t297 * 16)))) + t299)), true))))))) else (none))) else (none))) else (none)) = some (r1, r2) := H
      have A4 := Aside0.mk A40
      clear A40
      by_cases c5 : 3 < (l0.length : Int)
      · rw [if_pos c5] at H
        have c5b0 : decide (3 < (l0.length : Int)) = true := decide_eq_true c5
        have c5b1 : decide (3 < l0.length) = true := decide_eq_true (by omega)
        clear c5
        replace H := Option.bind_eq_some_iff.mp H
        obtain ⟨t295, A60, H⟩ := H
        replace H : (if 4 < (l0.length : Int) then ((jsonparser_h2I.f k (rd l0 4)).bind fun t297 => (if 5 < (l0.length : Int) then ((jsonparser_h2I.f k (rd l0 5)).bind fun t299 => (if t293 = (-1) then (some (65533, false)) else (if t295 = (-1) then (some (65533, false)) else (if t297 = (-1) then (some (65533, false)) else (if t299 = (-1) then (some (65533, false)) else (some (wrap32 (wrap64 ((wrap64 ((wrap64 ((wrap64 (t293 * 4096)) + (wrap64 (t295 * 256)))) + (wrap64 (t297 * 16)))) + t299)), true))))))) else (none))) else (none)) = some (r1, r2) := H
        have A6 := Aside0.mk A60
        clear A60
        by_cases c7 : 4 < (l0.length : Int)
        · rw [if_pos c7] at H
          have c7b0 : decide (4 < (l0.length : Int)) = true := decide_eq_true c7
          have c7b1 : decide (4 < l0.length) = true := decide_eq_true (by omega)
          clear c7
          replace H := Option.bind_eq_some_iff.mp H
          obtain ⟨t297, A80, H⟩ := H
          replace H : (if 5 < (l0.length : Int) then ((jsonparser_h2I.f k (rd l0 5)).bind fun t299 => (if t293 = (-1) then (some (65533, false)) else (if t295 = (-1) then (some (65533, false)) else (if t297 = (-1) then (some (65533, false)) else (if t299 = (-1) then (some (65533, false)) else (some (wrap32 (wrap64 ((wrap64 ((wrap64 ((wrap64 (t293 * 4096)) + (wrap64 (t295 * 256)))) + (wrap64 (t297 * 16)))) + t299)), true))))))) else (none)) = some (r1, r2) := H
          have A8 := Aside0.mk A80
          clear A80
          by_cases c9 : 5 < (l0.length : Int)
          · rw [if_pos c9] at H
            have c9b0 : decide (5 < (l0.length : Int)) = true := decide_eq_true c9
            have c9b1 : decide (5 < l0.length) = true := decide_eq_true (by omega)
            clear c9
            replace H := Option.bind_eq_some_iff.mp H
            obtain ⟨t299, A100, H⟩ := H
            replace H : (if t293 = (-1) then (some (65533, false)) else (if t295 = (-1) then (some (65533, false)) else (if t297 = (-1) then (some (65533, false)) else (if t299 = (-1) then (some (65533, false)) else (some (wrap32 (wrap64 ((wrap64 ((wrap64 ((wrap64 (t293 * 4096)) + (wrap64 (t295 * 256)))) + (wrap64 (t297 * 16)))) + t299)), true)))))) = some (r1, r2) := H
            have A10 := Aside0.mk A100
            clear A100
            by_cases c11 : t293 = (-1)
            · rw [if_pos c11] at H
              have c11b0 : (t293 == (-1)) = true := beq_iff_eq.mpr c11
              have c11b1 : (t293 != (-1)) = false := bne_eq_false_iff_eq.mpr c11
              clear c11
              simp only [Option.some.injEq, Prod.mk.injEq] at H
              obtain ⟨rfl, rfl⟩ := H
              have p292 : 0 ≤ (2 : Int) := (by omega)
              have q292 : 2 < (l0.length : Int) := of_decide_eq_true (by first | (with_reducible assumption) | assumption)
              obtain ⟨ad292, e292, hx292_0⟩ := Kd.at_int HR0.out 2 p292 q292
              cases e292
              (try simp only [show (2 : Int).toNat = 2 from rfl, Nat.reduceMul, Nat.reduceEqDiff, Go.Addr.add, ↓reduceIte] at hx292_0)
              have qi292 : (2 < l0.length) = True := eq_true (by omega)
              (try rw [show ((2 : Int)).toNat = 2 from rfl] at hx292_0)
              replace p292 := eq_true p292
              replace q292 := eq_true q292
              go_enter Tryd.func86, Tryd.ntmps86
              go_wp2_with (first | (go_at_call 94; (with_reducible refine (jsonparser_h2I.calls k (rd l0 2) t293 _ A4.out).mono ?_); rintro e w' ⟨rfl, ⟨nd, rfl⟩⟩; (try first | exact ⟨rfl, _, World.drewN_drewN _ _ _⟩ | exact ⟨rfl, _, Eq.trans (World.drewN_drewN _ _ _) (congrArg (World.drewN _) (Nat.add_assoc _ _ _))⟩); have p294 : 0 ≤ (3 : Int) := (by omega); have q294 : 3 < (l0.length : Int) := of_decide_eq_true (by first | (with_reducible assumption) | assumption); obtain ⟨ad294, e294, hx294_0⟩ := Kd.at_int HR0.out 3 p294 q294; obtain rfl : ad292 = ad294 := (by injection e294); (try simp only [show (3 : Int).toNat = 3 from rfl, Nat.reduceMul, Nat.reduceEqDiff, Go.Addr.add, ↓reduceIte] at hx294_0); have qi294 : (3 < l0.length) = True := eq_true (by omega); (try rw [show ((3 : Int)).toNat = 3 from rfl] at hx294_0); replace p294 := eq_true p294; replace q294 := eq_true q294) | (go_at_call 94; (with_reducible refine (jsonparser_h2I.calls k (rd l0 3) t295 _ A6.out).mono ?_); rintro e w' ⟨rfl, ⟨nd, rfl⟩⟩; (try first | exact ⟨rfl, _, World.drewN_drewN _ _ _⟩ | exact ⟨rfl, _, Eq.trans (World.drewN_drewN _ _ _) (congrArg (World.drewN _) (Nat.add_assoc _ _ _))⟩); have p296 : 0 ≤ (4 : Int) := (by omega); have q296 : 4 < (l0.length : Int) := of_decide_eq_true (by first | (with_reducible assumption) | assumption); obtain ⟨ad296, e296, hx296_0⟩ := Kd.at_int HR0.out 4 p296 q296; obtain rfl : ad292 = ad296 := (by injection e296); (try simp only [show (4 : Int).toNat = 4 from rfl, Nat.reduceMul, Nat.reduceEqDiff, Go.Addr.add, ↓reduceIte] at hx296_0); have qi296 : (4 < l0.length) = True := eq_true (by omega); (try rw [show ((4 : Int)).toNat = 4 from rfl] at hx296_0); replace p296 := eq_true p296; replace q296 := eq_true q296) | (go_at_call 94; (with_reducible refine (jsonparser_h2I.calls k (rd l0 4) t297 _ A8.out).mono ?_); rintro e w' ⟨rfl, ⟨nd, rfl⟩⟩; (try first | exact ⟨rfl, _, World.drewN_drewN _ _ _⟩ | exact ⟨rfl, _, Eq.trans (World.drewN_drewN _ _ _) (congrArg (World.drewN _) (Nat.add_assoc _ _ _))⟩); have p298 : 0 ≤ (5 : Int) := (by omega); have q298 : 5 < (l0.length : Int) := of_decide_eq_true (by first | (with_reducible assumption) | assumption); obtain ⟨ad298, e298, hx298_0⟩ := Kd.at_int HR0.out 5 p298 q298; obtain rfl : ad292 = ad298 := (by injection e298); (try simp only [show (5 : Int).toNat = 5 from rfl, Nat.reduceMul, Nat.reduceEqDiff, Go.Addr.add, ↓reduceIte] at hx298_0); have qi298 : (5 < l0.length) = True := eq_true (by omega); (try rw [show ((5 : Int)).toNat = 5 from rfl] at hx298_0); replace p298 := eq_true p298; replace q298 := eq_true q298) | (go_at_call 94; (with_reducible refine (jsonparser_h2I.calls k (rd l0 5) t299 _ A10.out).mono ?_); rintro e w' ⟨rfl, ⟨nd, rfl⟩⟩; (try first | exact ⟨rfl, _, World.drewN_drewN _ _ _⟩ | exact ⟨rfl, _, Eq.trans (World.drewN_drewN _ _ _) (congrArg (World.drewN _) (Nat.add_assoc _ _ _))⟩)))
              repeat (go_quiet (first | (go_at_call 94; (with_reducible refine (jsonparser_h2I.calls k (rd l0 2) t293 _ A4.out).mono ?_); rintro e w' ⟨rfl, ⟨nd, rfl⟩⟩; (try first | exact ⟨rfl, _, World.drewN_drewN _ _ _⟩ | exact ⟨rfl, _, Eq.trans (World.drewN_drewN _ _ _) (congrArg (World.drewN _) (Nat.add_assoc _ _ _))⟩); have p294 : 0 ≤ (3 : Int) := (by omega); have q294 : 3 < (l0.length : Int) := of_decide_eq_true (by first | (with_reducible assumption) | assumption); obtain ⟨ad294, e294, hx294_0⟩ := Kd.at_int HR0.out 3 p294 q294; obtain rfl : ad292 = ad294 := (by injection e294); (try simp only [show (3 : Int).toNat = 3 from rfl, Nat.reduceMul, Nat.reduceEqDiff, Go.Addr.add, ↓reduceIte] at hx294_0); have qi294 : (3 < l0.length) = True := eq_true (by omega); (try rw [show ((3 : Int)).toNat = 3 from rfl] at hx294_0); replace p294 := eq_true p294; replace q294 := eq_true q294) | (go_at_call 94; (with_reducible refine (jsonparser_h2I.calls k (rd l0 3) t295 _ A6.out).mono ?_); rintro e w' ⟨rfl, ⟨nd, rfl⟩⟩; (try first | exact ⟨rfl, _, World.drewN_drewN _ _ _⟩ | exact ⟨rfl, _, Eq.trans (World.drewN_drewN _ _ _) (congrArg (World.drewN _) (Nat.add_assoc _ _ _))⟩); have p296 : 0 ≤ (4 : Int) := (by omega); have q296 : 4 < (l0.length : Int) := of_decide_eq_true (by first | (with_reducible assumption) | assumption); obtain ⟨ad296, e296, hx296_0⟩ := Kd.at_int HR0.out 4 p296 q296; obtain rfl : ad292 = ad296 := (by injection e296); (try simp only [show (4 : Int).toNat = 4 from rfl, Nat.reduceMul, Nat.reduceEqDiff, Go.Addr.add, ↓reduceIte] at hx296_0); have qi296 : (4 < l0.length) = True := eq_true (by omega); (try rw [show ((4 : Int)).toNat = 4 from rfl] at hx296_0); replace p296 := eq_true p296; replace q296 := eq_true q296) | (go_at_call 94; (with_reducible refine (jsonparser_h2I.calls k (rd l0 4) t297 _ A8.out).mono ?_); rintro e w' ⟨rfl, ⟨nd, rfl⟩⟩; (try first | exact ⟨rfl, _, World.drewN_drewN _ _ _⟩ | exact ⟨rfl, _, Eq.trans (World.drewN_drewN _ _ _) (congrArg (World.drewN _) (Nat.add_assoc _ _ _))⟩); have p298 : 0 ≤ (5 : Int) := (by omega); have q298 : 5 < (l0.length : Int) := of_decide_eq_true (by first | (with_reducible assumption) | assumption); obtain ⟨ad298, e298, hx298_0⟩ := Kd.at_int HR0.out 5 p298 q298; obtain rfl : ad292 = ad298 := (by injection e298); (try simp only [show (5 : Int).toNat = 5 from rfl, Nat.reduceMul, Nat.reduceEqDiff, Go.Addr.add, ↓reduceIte] at hx298_0); have qi298 : (5 < l0.length) = True := eq_true (by omega); (try rw [show ((5 : Int)).toNat = 5 from rfl] at hx298_0); replace p298 := eq_true p298; replace q298 := eq_true q298) | (go_at_call 94; (with_reducible refine (jsonparser_h2I.calls k (rd l0 5) t299 _ A10.out).mono ?_); rintro e w' ⟨rfl, ⟨nd, rfl⟩⟩; (try first | exact ⟨rfl, _, World.drewN_drewN _ _ _⟩ | exact ⟨rfl, _, Eq.trans (World.drewN_drewN _ _ _) (congrArg (World.drewN _) (Nat.add_assoc _ _ _))⟩))); try go_wp2_with (first | (go_at_call 94; (with_reducible refine (jsonparser_h2I.calls k (rd l0 2) t293 _ A4.out).mono ?_); rintro e w' ⟨rfl, ⟨nd, rfl⟩⟩; (try first | exact ⟨rfl, _, World.drewN_drewN _ _ _⟩ | exact ⟨rfl, _, Eq.trans (World.drewN_drewN _ _ _) (congrArg (World.drewN _) (Nat.add_assoc _ _ _))⟩); have p294 : 0 ≤ (3 : Int) := (by omega); have q294 : 3 < (l0.length : Int) := of_decide_eq_true (by first | (with_reducible assumption) | assumption); obtain ⟨ad294, e294, hx294_0⟩ := Kd.at_int HR0.out 3 p294 q294; obtain rfl : ad292 = ad294 := (by injection e294); (try simp only [show (3 : Int).toNat = 3 from rfl, Nat.reduceMul, Nat.reduceEqDiff, Go.Addr.add, ↓reduceIte] at hx294_0); have qi294 : (3 < l0.length) = True := eq_true (by omega); (try rw [show ((3 : Int)).toNat = 3 from rfl] at hx294_0); replace p294 := eq_true p294; replace q294 := eq_true q294) | (go_at_call 94; (with_reducible refine (jsonparser_h2I.calls k (rd l0 3) t295 _ A6.out).mono ?_); rintro e w' ⟨rfl, ⟨nd, rfl⟩⟩; (try first | exact ⟨rfl, _, World.drewN_drewN _ _ _⟩ | exact ⟨rfl, _, Eq.trans (World.drewN_drewN _ _ _) (congrArg (World.drewN _) (Nat.add_assoc _ _ _))⟩); have p296 : 0 ≤ (4 : Int) := (by omega); have q296 : 4 < (l0.length : Int) := of_decide_eq_true (by first | (with_reducible assumption) | assumption); obtain ⟨ad296, e296, hx296_0⟩ := Kd.at_int HR0.out 4 p296 q296; obtain rfl : ad292 = ad296 := (by injection e296); (try simp only [show (4 : Int).toNat = 4 from rfl, Nat.reduceMul, Nat.reduceEqDiff, Go.Addr.add, ↓reduceIte] at hx296_0); have qi296 : (4 < l0.length) = True := eq_true (by omega); (try rw [show ((4 : Int)).toNat = 4 from rfl] at hx296_0); replace p296 := eq_true p296; replace q296 := eq_true q296) | (go_at_call 94; (with_reducible refine (jsonparser_h2I.calls k (rd l0 4) t297 _ A8.out).mono ?_); rintro e w' ⟨rfl, ⟨nd, rfl⟩⟩; (try first | exact ⟨rfl, _, World.drewN_drewN _ _ _⟩ | exact ⟨rfl, _, Eq.trans (World.drewN_drewN _ _ _) (congrArg (World.drewN _) (Nat.add_assoc _ _ _))⟩); have p298 : 0 ≤ (5 : Int) := (by omega); have q298 : 5 < (l0.length : Int) := of_decide_eq_true (by first | (with_reducible assumption) | assumption); obtain ⟨ad298, e298, hx298_0⟩ := Kd.at_int HR0.out 5 p298 q298; obtain rfl : ad292 = ad298 := (by injection e298); (try simp only [show (5 : Int).toNat = 5 from rfl, Nat.reduceMul, Nat.reduceEqDiff, Go.Addr.add, ↓reduceIte] at hx298_0); have qi298 : (5 < l0.length) = True := eq_true (by omega); (try rw [show ((5 : Int)).toNat = 5 from rfl] at hx298_0); replace p298 := eq_true p298; replace q298 := eq_true q298) | (go_at_call 94; (with_reducible refine (jsonparser_h2I.calls k (rd l0 5) t299 _ A10.out).mono ?_); rintro e w' ⟨rfl, ⟨nd, rfl⟩⟩; (try first | exact ⟨rfl, _, World.drewN_drewN _ _ _⟩ | exact ⟨rfl, _, Eq.trans (World.drewN_drewN _ _ _) (congrArg (World.drewN _) (Nat.add_assoc _ _ _))⟩))))
              go_ret2
              exact ⟨by first | rfl | (simp; done) | (simp [*]; done), by repeat (first | exact Drawn0.refl _ | apply Drawn0.step)⟩
            · rw [if_neg c11] at H
              have c11b0 : (t293 == (-1)) = false := beq_eq_false_iff_ne.mpr c11
              have c11b1 : (t293 != (-1)) = true := bne_iff_ne.mpr c11
              by_cases c12 : t295 = (-1)
              · rw [if_pos c12] at H
                have c12b0 : (t295 == (-1)) = true := beq_iff_eq.mpr c12
                have c12b1 : (t295 != (-1)) = false := bne_eq_false_iff_eq.mpr c12
                clear c12
                simp only [Option.some.injEq, Prod.mk.injEq] at H
                obtain ⟨rfl, rfl⟩ := H
                have p292 : 0 ≤ (2 : Int) := (by omega)
                have q292 : 2 < (l0.length : Int) := of_decide_eq_true (by first | (with_reducible assumption) | assumption)
                obtain ⟨ad292, e292, hx292_0⟩ := Kd.at_int HR0.out 2 p292 q292
                cases e292
                (try simp only [show (2 : Int).toNat = 2 from rfl, Nat.reduceMul, Nat.reduceEqDiff, Go.Addr.add, ↓reduceIte] at hx292_0)
                have qi292 : (2 < l0.length) = True := eq_true (by omega)
                (try rw [show ((2 : Int)).toNat = 2 from rfl] at hx292_0)
                replace p292 := eq_true p292
                replace q292 := eq_true q292
                go_enter Tryd.func86, Tryd.ntmps86
                go_wp2_with (first | (go_at_call 94; (with_reducible refine (jsonparser_h2I.calls k (rd l0 2) t293 _ A4.out).mono ?_); rintro e w' ⟨rfl, ⟨nd, rfl⟩⟩; (try first | exact ⟨rfl, _, World.drewN_drewN _ _ _⟩ | exact ⟨rfl, _, Eq.trans (World.drewN_drewN _ _ _) (congrArg (World.drewN _) (Nat.add_assoc _ _ _))⟩); have p294 : 0 ≤ (3 : Int) := (by omega); have q294 : 3 < (l0.length : Int) := of_decide_eq_true (by first | (with_reducible assumption) | assumption); obtain ⟨ad294, e294, hx294_0⟩ := Kd.at_int HR0.out 3 p294 q294; obtain rfl : ad292 = ad294 := (by injection e294); (try simp only [show (3 : Int).toNat = 3 from rfl, Nat.reduceMul, Nat.reduceEqDiff, Go.Addr.add, ↓reduceIte] at hx294_0); have qi294 : (3 < l0.length) = True := eq_true (by omega); (try rw [show ((3 : Int)).toNat = 3 from rfl] at hx294_0); replace p294 := eq_true p294; replace q294 := eq_true q294) | (go_at_call 94; (with_reducible refine (jsonparser_h2I.calls k (rd l0 3) t295 _ A6.out).mono ?_); rintro e w' ⟨rfl, ⟨nd, rfl⟩⟩; (try first | exact ⟨rfl, _, World.drewN_drewN _ _ _⟩ | exact ⟨rfl, _, Eq.trans (World.drewN_drewN _ _ _) (congrArg (World.drewN _) (Nat.add_assoc _ _ _))⟩); have p296 : 0 ≤ (4 : Int) := (by omega); have q296 : 4 < (l0.length : Int) := of_decide_eq_true (by first | (with_reducible assumption) | assumption); obtain ⟨ad296, e296, hx296_0⟩ := Kd.at_int HR0.out 4 p296 q296; obtain rfl : ad292 = ad296 := (by injection e296); (try simp only [show (4 : Int).toNat = 4 from rfl, Nat.reduceMul, Nat.reduceEqDiff, Go.Addr.add, ↓reduceIte] at hx296_0); have qi296 : (4 < l0.length) = True := eq_true (by omega); (try rw [show ((4 : Int)).toNat = 4 from rfl] at hx296_0); replace p296 := eq_true p296; replace q296 := eq_true q296) | (go_at_call 94; (with_reducible refine (jsonparser_h2I.calls k (rd l0 4) t297 _ A8.out).mono ?_); rintro e w' ⟨rfl, ⟨nd, rfl⟩⟩; (try first | exact ⟨rfl, _, World.drewN_drewN _ _ _⟩ | exact ⟨rfl, _, Eq.trans (World.drewN_drewN _ _ _) (congrArg (World.drewN _) (Nat.add_assoc _ _ _))⟩); have p298 : 0 ≤ (5 : Int) := (by omega); have q298 : 5 < (l0.length : Int) := of_decide_eq_true (by first | (with_reducible assumption) | assumption); obtain ⟨ad298, e298, hx298_0⟩ := Kd.at_int HR0.out 5 p298 q298; obtain rfl : ad292 = ad298 := (by injection e298); (try simp only [show (5 : Int).toNat = 5 from rfl, Nat.reduceMul, Nat.reduceEqDiff, Go.Addr.add, ↓reduceIte] at hx298_0); have qi298 : (5 < l0.length) = True := eq_true (by omega); (try rw [show ((5 : Int)).toNat = 5 from rfl] at hx298_0); replace p298 := eq_true p298; replace q298 := eq_true q298) | (go_at_call 94; (with_reducible refine (jsonparser_h2I.calls k (rd l0 5) t299 _ A10.out).mono ?_); rintro e w' ⟨rfl, ⟨nd, rfl⟩⟩; (try first | exact ⟨rfl, _, World.drewN_drewN _ _ _⟩ | exact ⟨rfl, _, Eq.trans (World.drewN_drewN _ _ _) (congrArg (World.drewN _) (Nat.add_assoc _ _ _))⟩)))
                repeat (go_quiet (first | (go_at_call 94; (with_reducible refine (jsonparser_h2I.calls k (rd l0 2) t293 _ A4.out).mono ?_); rintro e w' ⟨rfl, ⟨nd, rfl⟩⟩; (try first | exact ⟨rfl, _, World.drewN_drewN _ _ _⟩ | exact ⟨rfl, _, Eq.trans (World.drewN_drewN _ _ _) (congrArg (World.drewN _) (Nat.add_assoc _ _ _))⟩); have p294 : 0 ≤ (3 : Int) := (by omega); have q294 : 3 < (l0.length : Int) := of_decide_eq_true (by first | (with_reducible assumption) | assumption); obtain ⟨ad294, e294, hx294_0⟩ := Kd.at_int HR0.out 3 p294 q294; obtain rfl : ad292 = ad294 := (by injection e294); (try simp only [show (3 : Int).toNat = 3 from rfl, Nat.reduceMul, Nat.reduceEqDiff, Go.Addr.add, ↓reduceIte] at hx294_0); have qi294 : (3 < l0.length) = True := eq_true (by omega); (try rw [show ((3 : Int)).toNat = 3 from rfl] at hx294_0); replace p294 := eq_true p294; replace q294 := eq_true q294) | (go_at_call 94; (with_reducible refine (jsonparser_h2I.calls k (rd l0 3) t295 _ A6.out).mono ?_); rintro e w' ⟨rfl, ⟨nd, rfl⟩⟩; (try first | exact ⟨rfl, _, World.drewN_drewN _ _ _⟩ | exact ⟨rfl, _, Eq.trans (World.drewN_drewN _ _ _) (congrArg (World.drewN _) (Nat.add_assoc _ _ _))⟩); have p296 : 0 ≤ (4 : Int) := (by omega); have q296 : 4 < (l0.length : Int) := of_decide_eq_true (by first | (with_reducible assumption) | assumption); obtain ⟨ad296, e296, hx296_0⟩ := Kd.at_int HR0.out 4 p296 q296; obtain rfl : ad292 = ad296 := (by injection e296); (try simp only [show (4 : Int).toNat = 4 from rfl, Nat.reduceMul, Nat.reduceEqDiff, Go.Addr.add, ↓reduceIte] at hx296_0); have qi296 : (4 < l0.length) = True := eq_true (by omega); (try rw [show ((4 : Int)).toNat = 4 from rfl] at hx296_0); replace p296 := eq_true p296; replace q296 := eq_true q296) | (go_at_call 94; (with_reducible refine (jsonparser_h2I.calls k (rd l0 4) t297 _ A8.out).mono ?_); rintro e w' ⟨rfl, ⟨nd, rfl⟩⟩; (try first | exact ⟨rfl, _, World.drewN_drewN _ _ _⟩ | exact ⟨rfl, _, Eq.trans (World.drewN_drewN _ _ _) (congrArg (World.drewN _) (Nat.add_assoc _ _ _))⟩); have p298 : 0 ≤ (5 : Int) := (by omega); have q298 : 5 < (l0.length : Int) := of_decide_eq_true (by first | (with_reducible assumption) | assumption); obtain ⟨ad298, e298, hx298_0⟩ := Kd.at_int HR0.out 5 p298 q298; obtain rfl : ad292 = ad298 := (by injection e298); (try simp only [show (5 : Int).toNat = 5 from rfl, Nat.reduceMul, Nat.reduceEqDiff, Go.Addr.add, ↓reduceIte] at hx298_0); have qi298 : (5 < l0.length) = True := eq_true (by omega); (try rw [show ((5 : Int)).toNat = 5 from rfl] at hx298_0); replace p298 := eq_true p298; replace q298 := eq_true q298) | (go_at_call 94; (with_reducible refine (jsonparser_h2I.calls k (rd l0 5) t299 _ A10.out).mono ?_); rintro e w' ⟨rfl, ⟨nd, rfl⟩⟩; (try first | exact ⟨rfl, _, World.drewN_drewN _ _ _⟩ | exact ⟨rfl, _, Eq.trans (World.drewN_drewN _ _ _) (congrArg (World.drewN _) (Nat.add_assoc _ _ _))⟩))); try go_wp2_with (first | (go_at_call 94; (with_reducible refine (jsonparser_h2I.calls k (rd l0 2) t293 _ A4.out).mono ?_); rintro e w' ⟨rfl, ⟨nd, rfl⟩⟩; (try first | exact ⟨rfl, _, World.drewN_drewN _ _ _⟩ | exact ⟨rfl, _, Eq.trans (World.drewN_drewN _ _ _) (congrArg (World.drewN _) (Nat.add_assoc _ _ _))⟩); have p294 : 0 ≤ (3 : Int) := (by omega); have q294 : 3 < (l0.length : Int) := of_decide_eq_true (by first | (with_reducible assumption) | assumption); obtain ⟨ad294, e294, hx294_0⟩ := Kd.at_int HR0.out 3 p294 q294; obtain rfl : ad292 = ad294 := (by injection e294); (try simp only [show (3 : Int).toNat = 3 from rfl, Nat.reduceMul, Nat.reduceEqDiff, Go.Addr.add, ↓reduceIte] at hx294_0); have qi294 : (3 < l0.length) = True := eq_true (by omega); (try rw [show ((3 : Int)).toNat = 3 from rfl] at hx294_0); replace p294 := eq_true p294; replace q294 := eq_true q294) | (go_at_call 94; (with_reducible refine (jsonparser_h2I.calls k (rd l0 3) t295 _ A6.out).mono ?_); rintro e w' ⟨rfl, ⟨nd, rfl⟩⟩; (try first | exact ⟨rfl, _, World.drewN_drewN _ _ _⟩ | exact ⟨rfl, _, Eq.trans (World.drewN_drewN _ _ _) (congrArg (World.drewN _) (Nat.add_assoc _ _ _))⟩); have p296 : 0 ≤ (4 : Int) := (by omega); have q296 : 4 < (l0.length : Int) := of_decide_eq_true (by first | (with_reducible assumption) | assumption); obtain ⟨ad296, e296, hx296_0⟩ := Kd.at_int HR0.out 4 p296 q296; obtain rfl : ad292 = ad296 := (by injection e296); (try simp only [show (4 : Int).toNat = 4 from rfl, Nat.reduceMul, Nat.reduceEqDiff, Go.Addr.add, ↓reduceIte] at hx296_0); have qi296 : (4 < l0.length) = True := eq_true (by omega); (try rw [show ((4 : Int)).toNat = 4 from rfl] at hx296_0); replace p296 := eq_true p296; replace q296 := eq_true q296) | (go_at_call 94; (with_reducible refine (jsonparser_h2I.calls k (rd l0 4) t297 _ A8.out).mono ?_); rintro e w' ⟨rfl, ⟨nd, rfl⟩⟩; (try first | exact ⟨rfl, _, World.drewN_drewN _ _ _⟩ | exact ⟨rfl, _, Eq.trans (World.drewN_drewN _ _ _) (congrArg (World.drewN _) (Nat.add_assoc _ _ _))⟩); have p298 : 0 ≤ (5 : Int) := (by omega); have q298 : 5 < (l0.length : Int) := of_decide_eq_true (by first | (with_reducible assumption) | assumption); obtain ⟨ad298, e298, hx298_0⟩ := Kd.at_int HR0.out 5 p298 q298; obtain rfl : ad292 = ad298 := (by injection e298); (try simp only [show (5 : Int).toNat = 5 from rfl, Nat.reduceMul, Nat.reduceEqDiff, Go.Addr.add, ↓reduceIte] at hx298_0); have qi298 : (5 < l0.length) = True := eq_true (by omega); (try rw [show ((5 : Int)).toNat = 5 from rfl] at hx298_0); replace p298 := eq_true p298; replace q298 := eq_true q298) | (go_at_call 94; (with_reducible refine (jsonparser_h2I.calls k (rd l0 5) t299 _ A10.out).mono ?_); rintro e w' ⟨rfl, ⟨nd, rfl⟩⟩; (try first | exact ⟨rfl, _, World.drewN_drewN _ _ _⟩ | exact ⟨rfl, _, Eq.trans (World.drewN_drewN _ _ _) (congrArg (World.drewN _) (Nat.add_assoc _ _ _))⟩))))
                go_ret2
                exact ⟨by first | rfl | (simp; done) | (simp [*]; done), by repeat (first | exact Drawn0.refl _ | apply Drawn0.step)⟩
              · rw [if_neg c12] at H
                have c12b0 : (t295 == (-1)) = false := beq_eq_false_iff_ne.mpr c12
                have c12b1 : (t295 != (-1)) = true := bne_iff_ne.mpr c12
                by_cases c13 : t297 = (-1)
                · rw [if_pos c13] at H
                  have c13b0 : (t297 == (-1)) = true := beq_iff_eq.mpr c13
                  have c13b1 : (t297 != (-1)) = false := bne_eq_false_iff_eq.mpr c13
                  clear c13
                  simp only [Option.some.injEq, Prod.mk.injEq] at H
                  obtain ⟨rfl, rfl⟩ := H
                  have p292 : 0 ≤ (2 : Int) := (by omega)
                  have q292 : 2 < (l0.length : Int) := of_decide_eq_true (by first | (with_reducible assumption) | assumption)
                  obtain ⟨ad292, e292, hx292_0⟩ := Kd.at_int HR0.out 2 p292 q292
                  cases e292
                  (try simp only [show (2 : Int).toNat = 2 from rfl, Nat.reduceMul, Nat.reduceEqDiff, Go.Addr.add, ↓reduceIte] at hx292_0)
                  have qi292 : (2 < l0.length) = True := eq_true (by omega)
                  (try rw [show ((2 : Int)).toNat = 2 from rfl] at hx292_0)
                  replace p292 := eq_true p292
                  replace q292 := eq_true q292
                  go_enter Tryd.func86, Tryd.ntmps86
                  go_wp2_with (first | (go_at_call 94; (with_reducible refine (jsonparser_h2I.calls k (rd l0 2) t293 _ A4.out).mono ?_); rintro e w' ⟨rfl, ⟨nd, rfl⟩⟩; (try first | exact ⟨rfl, _, World.drewN_drewN _ _ _⟩ | exact ⟨rfl, _, Eq.trans (World.drewN_drewN _ _ _) (congrArg (World.drewN _) (Nat.add_assoc _ _ _))⟩); have p294 : 0 ≤ (3 : Int) := (by omega); have q294 : 3 < (l0.length : Int) := of_decide_eq_true (by first | (with_reducible assumption) | assumption); obtain ⟨ad294, e294, hx294_0⟩ := Kd.at_int HR0.out 3 p294 q294; obtain rfl : ad292 = ad294 := (by injection e294); (try simp only [show (3 : Int).toNat = 3 from rfl, Nat.reduceMul, Nat.reduceEqDiff, Go.Addr.add, ↓reduceIte] at hx294_0); have qi294 : (3 < l0.length) = True := eq_true (by omega); (try rw [show ((3 : Int)).toNat = 3 from rfl] at hx294_0); replace p294 := eq_true p294; replace q294 := eq_true q294) | (go_at_call 94; (with_reducible refine (jsonparser_h2I.calls k (rd l0 3) t295 _ A6.out).mono ?_); rintro e w' ⟨rfl, ⟨nd, rfl⟩⟩; (try first | exact ⟨rfl, _, World.drewN_drewN _ _ _⟩ | exact ⟨rfl, _, Eq.trans (World.drewN_drewN _ _ _) (congrArg (World.drewN _) (Nat.add_assoc _ _ _))⟩); have p296 : 0 ≤ (4 : Int) := (by omega); have q296 : 4 < (l0.length : Int) := of_decide_eq_true (by first | (with_reducible assumption) | assumption); obtain ⟨ad296, e296, hx296_0⟩ := Kd.at_int HR0.out 4 p296 q296; obtain rfl : ad292 = ad296 := (by injection e296); (try simp only [show (4 : Int).toNat = 4 from rfl, Nat.reduceMul, Nat.reduceEqDiff, Go.Addr.add, ↓reduceIte] at hx296_0); have qi296 : (4 < l0.length) = True := eq_true (by omega); (try rw [show ((4 : Int)).toNat = 4 from rfl] at hx296_0); replace p296 := eq_true p296; replace q296 := eq_true q296) | (go_at_call 94; (with_reducible refine (jsonparser_h2I.calls k (rd l0 4) t297 _ A8.out).mono ?_); rintro e w' ⟨rfl, ⟨nd, rfl⟩⟩; (try first | exact ⟨rfl, _, World.drewN_drewN _ _ _⟩ | exact ⟨rfl, _, Eq.trans (World.drewN_drewN _ _ _) (congrArg (World.drewN _) (Nat.add_assoc _ _ _))⟩); have p298 : 0 ≤ (5 : Int) := (by omega); have q298 : 5 < (l0.length : Int) := of_decide_eq_true (by first | (with_reducible assumption) | assumption); obtain ⟨ad298, e298, hx298_0⟩ := Kd.at_int HR0.out 5 p298 q298; obtain rfl : ad292 = ad298 := (by injection e298); (try simp only [show (5 : Int).toNat = 5 from rfl, Nat.reduceMul, Nat.reduceEqDiff, Go.Addr.add, ↓reduceIte] at hx298_0); have qi298 : (5 < l0.length) = True := eq_true (by omega); (try rw [show ((5 : Int)).toNat = 5 from rfl] at hx298_0); replace p298 := eq_true p298; replace q298 := eq_true q298) | (go_at_call 94; (with_reducible refine (jsonparser_h2I.calls k (rd l0 5) t299 _ A10.out).mono ?_); rintro e w' ⟨rfl, ⟨nd, rfl⟩⟩; (try first | exact ⟨rfl, _, World.drewN_drewN _ _ _⟩ | exact ⟨rfl, _, Eq.trans (World.drewN_drewN _ _ _) (congrArg (World.drewN _) (Nat.add_assoc _ _ _))⟩)))
                  repeat (go_quiet (first | (go_at_call 94; (with_reducible refine (jsonparser_h2I.calls k (rd l0 2) t293 _ A4.out).mono ?_); rintro e w' ⟨rfl, ⟨nd, rfl⟩⟩; (try first | exact ⟨rfl, _, World.drewN_drewN _ _ _⟩ | exact ⟨rfl, _, Eq.trans (World.drewN_drewN _ _ _) (congrArg (World.drewN _) (Nat.add_assoc _ _ _))⟩); have p294 : 0 ≤ (3 : Int) := (by omega); have q294 : 3 < (l0.length : Int) := of_decide_eq_true (by first | (with_reducible assumption) | assumption); obtain ⟨ad294, e294, hx294_0⟩ := Kd.at_int HR0.out 3 p294 q294; obtain rfl : ad292 = ad294 := (by injection e294); (try simp only [show (3 : Int).toNat = 3 from rfl, Nat.reduceMul, Nat.reduceEqDiff, Go.Addr.add, ↓reduceIte] at hx294_0); have qi294 : (3 < l0.length) = True := eq_true (by omega); (try rw [show ((3 : Int)).toNat = 3 from rfl] at hx294_0); replace p294 := eq_true p294; replace q294 := eq_true q294) | (go_at_call 94; (with_reducible refine (jsonparser_h2I.calls k (rd l0 3) t295 _ A6.out).mono ?_); rintro e w' ⟨rfl, ⟨nd, rfl⟩⟩; (try first | exact ⟨rfl, _, World.drewN_drewN _ _ _⟩ | exact ⟨rfl, _, Eq.trans (World.drewN_drewN _ _ _) (congrArg (World.drewN _) (Nat.add_assoc _ _ _))⟩); have p296 : 0 ≤ (4 : Int) := (by omega); have q296 : 4 < (l0.length : Int) := of_decide_eq_true (by first | (with_reducible assumption) | assumption); obtain ⟨ad296, e296, hx296_0⟩ := Kd.at_int HR0.out 4 p296 q296; obtain rfl : ad292 = ad296 := (by injection e296); (try simp only [show (4 : Int).toNat = 4 from rfl, Nat.reduceMul, Nat.reduceEqDiff, Go.Addr.add, ↓reduceIte] at hx296_0); have qi296 : (4 < l0.length) = True := eq_true (by omega); (try rw [show ((4 : Int)).toNat = 4 from rfl] at hx296_0); replace p296 := eq_true p296; replace q296 := eq_true q296) | (go_at_call 94; (with_reducible refine (jsonparser_h2I.calls k (rd l0 4) t297 _ A8.out).mono ?_); rintro e w' ⟨rfl, ⟨nd, rfl⟩⟩; (try first | exact ⟨rfl, _, World.drewN_drewN _ _ _⟩ | exact ⟨rfl, _, Eq.trans (World.drewN_drewN _ _ _) (congrArg (World.drewN _) (Nat.add_assoc _ _ _))⟩); have p298 : 0 ≤ (5 : Int) := (by omega); have q298 : 5 < (l0.length : Int) := of_decide_eq_true (by first | (with_reducible assumption) | assumption); obtain ⟨ad298, e298, hx298_0⟩ := Kd.at_int HR0.out 5 p298 q298; obtain rfl : ad292 = ad298 := (by injection e298); (try simp only [show (5 : Int).toNat = 5 from rfl, Nat.reduceMul, Nat.reduceEqDiff, Go.Addr.add, ↓reduceIte] at hx298_0); have qi298 : (5 < l0.length) = True := eq_true (by omega); (try rw [show ((5 : Int)).toNat = 5 from rfl] at hx298_0); replace p298 := eq_true p298; replace q298 := eq_true q298) | (go_at_call 94; (with_reducible refine (jsonparser_h2I.calls k (rd l0 5) t299 _ A10.out).mono ?_); rintro e w' ⟨rfl, ⟨nd, rfl⟩⟩; (try first | exact ⟨rfl, _, World.drewN_drewN _ _ _⟩ | exact ⟨rfl, _, Eq.trans (World.drewN_drewN _ _ _) (congrArg (World.drewN _) (Nat.add_assoc _ _ _))⟩))); try go_wp2_with (first | (go_at_call 94; (with_reducible refine (jsonparser_h2I.calls k (rd l0 2) t293 _ A4.out).mono ?_); rintro e w' ⟨rfl, ⟨nd, rfl⟩⟩; (try first | exact ⟨rfl, _, World.drewN_drewN _ _ _⟩ | exact ⟨rfl, _, Eq.trans (World.drewN_drewN _ _ _) (congrArg (World.drewN _) (Nat.add_assoc _ _ _))⟩); have p294 : 0 ≤ (3 : Int) := (by omega); have q294 : 3 < (l0.length : Int) := of_decide_eq_true (by first | (with_reducible assumption) | assumption); obtain ⟨ad294, e294, hx294_0⟩ := Kd.at_int HR0.out 3 p294 q294; obtain rfl : ad292 = ad294 := (by injection e294); (try simp only [show (3 : Int).toNat = 3 from rfl, Nat.reduceMul, Nat.reduceEqDiff, Go.Addr.add, ↓reduceIte] at hx294_0); have qi294 : (3 < l0.length) = True := eq_true (by omega); (try rw [show ((3 : Int)).toNat = 3 from rfl] at hx294_0); replace p294 := eq_true p294; replace q294 := eq_true q294) | (go_at_call 94; (with_reducible refine (jsonparser_h2I.calls k (rd l0 3) t295 _ A6.out).mono ?_); rintro e w' ⟨rfl, ⟨nd, rfl⟩⟩; (try first | exact ⟨rfl, _, World.drewN_drewN _ _ _⟩ | exact ⟨rfl, _, Eq.trans (World.drewN_drewN _ _ _) (congrArg (World.drewN _) (Nat.add_assoc _ _ _))⟩); have p296 : 0 ≤ (4 : Int) := (by omega); have q296 : 4 < (l0.length : Int) := of_decide_eq_true (by first | (with_reducible assumption) | assumption); obtain ⟨ad296, e296, hx296_0⟩ := Kd.at_int HR0.out 4 p296 q296; obtain rfl : ad292 = ad296 := (by injection e296); (try simp only [show (4 : Int).toNat = 4 from rfl, Nat.reduceMul, Nat.reduceEqDiff, Go.Addr.add, ↓reduceIte] at hx296_0); have qi296 : (4 < l0.length) = True := eq_true (by omega); (try rw [show ((4 : Int)).toNat = 4 from rfl] at hx296_0); replace p296 := eq_true p296; replace q296 := eq_true q296) | (go_at_call 94; (with_reducible refine (jsonparser_h2I.calls k (rd l0 4) t297 _ A8.out).mono ?_); rintro e w' ⟨rfl, ⟨nd, rfl⟩⟩; (try first | exact ⟨rfl, _, World.drewN_drewN _ _ _⟩ | exact ⟨rfl, _, Eq.trans (World.drewN_drewN _ _ _) (congrArg (World.drewN _) (Nat.add_assoc _ _ _))⟩); have p298 : 0 ≤ (5 : Int) := (by omega); have q298 : 5 < (l0.length : Int) := of_decide_eq_true (by first | (with_reducible assumption) | assumption); obtain ⟨ad298, e298, hx298_0⟩ := Kd.at_int HR0.out 5 p298 q298; obtain rfl : ad292 = ad298 := (by injection e298); (try simp only [show (5 : Int).toNat = 5 from rfl, Nat.reduceMul, Nat.reduceEqDiff, Go.Addr.add, ↓reduceIte] at hx298_0); have qi298 : (5 < l0.length) = True := eq_true (by omega); (try rw [show ((5 : Int)).toNat = 5 from rfl] at hx298_0); replace p298 := eq_true p298; replace q298 := eq_true q298) | (go_at_call 94; (with_reducible refine (jsonparser_h2I.calls k (rd l0 5) t299 _ A10.out).mono ?_); rintro e w' ⟨rfl, ⟨nd, rfl⟩⟩; (try first | exact ⟨rfl, _, World.drewN_drewN _ _ _⟩ | exact ⟨rfl, _, Eq.trans (World.drewN_drewN _ _ _) (congrArg (World.drewN _) (Nat.add_assoc _ _ _))⟩))))
                  go_ret2
                  exact ⟨by first | rfl | (simp; done) | (simp [*]; done), by repeat (first | exact Drawn0.refl _ | apply Drawn0.step)⟩
                · rw [if_neg c13] at H
                  have c13b0 : (t297 == (-1)) = false := beq_eq_false_iff_ne.mpr c13
                  have c13b1 : (t297 != (-1)) = true := bne_iff_ne.mpr c13
                  by_cases c14 : t299 = (-1)
                  · rw [if_pos c14] at H
                    have c14b0 : (t299 == (-1)) = true := beq_iff_eq.mpr c14
                    have c14b1 : (t299 != (-1)) = false := bne_eq_false_iff_eq.mpr c14
                    clear c14
                    simp only [Option.some.injEq, Prod.mk.injEq] at H
                    obtain ⟨rfl, rfl⟩ := H
                    have p292 : 0 ≤ (2 : Int) := (by omega)
                    have q292 : 2 < (l0.length : Int) := of_decide_eq_true (by first | (with_reducible assumption) | assumption)
                    obtain ⟨ad292, e292, hx292_0⟩ := Kd.at_int HR0.out 2 p292 q292
                    cases e292
                    (try simp only [show (2 : Int).toNat = 2 from rfl, Nat.reduceMul, Nat.reduceEqDiff, Go.Addr.add, ↓reduceIte] at hx292_0)
                    have qi292 : (2 < l0.length) = True := eq_true (by omega)
                    (try rw [show ((2 : Int)).toNat = 2 from rfl] at hx292_0)
                    replace p292 := eq_true p292
                    replace q292 := eq_true q292
                    go_enter Tryd.func86, Tryd.ntmps86
                    go_wp2_with (first | (go_at_call 94; (with_reducible refine (jsonparser_h2I.calls k (rd l0 2) t293 _ A4.out).mono ?_); rintro e w' ⟨rfl, ⟨nd, rfl⟩⟩; (try first | exact ⟨rfl, _, World.drewN_drewN _ _ _⟩ | exact ⟨rfl, _, Eq.trans (World.drewN_drewN _ _ _) (congrArg (World.drewN _) (Nat.add_assoc _ _ _))⟩); have p294 : 0 ≤ (3 : Int) := (by omega); have q294 : 3 < (l0.length : Int) := of_decide_eq_true (by first | (with_reducible assumption) | assumption); obtain ⟨ad294, e294, hx294_0⟩ := Kd.at_int HR0.out 3 p294 q294; obtain rfl : ad292 = ad294 := (by injection e294); (try simp only [show (3 : Int).toNat = 3 from rfl, Nat.reduceMul, Nat.reduceEqDiff, Go.Addr.add, ↓reduceIte] at hx294_0); have qi294 : (3 < l0.length) = True := eq_true (by omega); (try rw [show ((3 : Int)).toNat = 3 from rfl] at hx294_0); replace p294 := eq_true p294; replace q294 := eq_true q294) | (go_at_call 94; (with_reducible refine (jsonparser_h2I.calls k (rd l0 3) t295 _ A6.out).mono ?_); rintro e w' ⟨rfl, ⟨nd, rfl⟩⟩; (try first | exact ⟨rfl, _, World.drewN_drewN _ _ _⟩ | exact ⟨rfl, _, Eq.trans (World.drewN_drewN _ _ _) (congrArg (World.drewN _) (Nat.add_assoc _ _ _))⟩); have p296 : 0 ≤ (4 : Int) := (by omega); have q296 : 4 < (l0.length : Int) := of_decide_eq_true (by first | (with_reducible assumption) | assumption); obtain ⟨ad296, e296, hx296_0⟩ := Kd.at_int HR0.out 4 p296 q296; obtain rfl : ad292 = ad296 := (by injection e296); (try simp only [show (4 : Int).toNat = 4 from rfl, Nat.reduceMul, Nat.reduceEqDiff, Go.Addr.add, ↓reduceIte] at hx296_0); have qi296 : (4 < l0.length) = True := eq_true (by omega); (try rw [show ((4 : Int)).toNat = 4 from rfl] at hx296_0); replace p296 := eq_true p296; replace q296 := eq_true q296) | (go_at_call 94; (with_reducible refine (jsonparser_h2I.calls k (rd l0 4) t297 _ A8.out).mono ?_); rintro e w' ⟨rfl, ⟨nd, rfl⟩⟩; (try first | exact ⟨rfl, _, World.drewN_drewN _ _ _⟩ | exact ⟨rfl, _, Eq.trans (World.drewN_drewN _ _ _) (congrArg (World.drewN _) (Nat.add_assoc _ _ _))⟩); have p298 : 0 ≤ (5 : Int) := (by omega); have q298 : 5 < (l0.length : Int) := of_decide_eq_true (by first | (with_reducible assumption) | assumption); obtain ⟨ad298, e298, hx298_0⟩ := Kd.at_int HR0.out 5 p298 q298; obtain rfl : ad292 = ad298 := (by injection e298); (try simp only [show (5 : Int).toNat = 5 from rfl, Nat.reduceMul, Nat.reduceEqDiff, Go.Addr.add, ↓reduceIte] at hx298_0); have qi298 : (5 < l0.length) = True := eq_true (by omega); (try rw [show ((5 : Int)).toNat = 5 from rfl] at hx298_0); replace p298 := eq_true p298; replace q298 := eq_true q298) | (go_at_call 94; (with_reducible refine (jsonparser_h2I.calls k (rd l0 5) t299 _ A10.out).mono ?_); rintro e w' ⟨rfl, ⟨nd, rfl⟩⟩; (try first | exact ⟨rfl, _, World.drewN_drewN _ _ _⟩ | exact ⟨rfl, _, Eq.trans (World.drewN_drewN _ _ _) (congrArg (World.drewN _) (Nat.add_assoc _ _ _))⟩)))
                    repeat (go_quiet (first | (go_at_call 94; (with_reducible refine (jsonparser_h2I.calls k (rd l0 2) t293 _ A4.out).mono ?_); rintro e w' ⟨rfl, ⟨nd, rfl⟩⟩; (try first | exact ⟨rfl, _, World.drewN_drewN _ _ _⟩ | exact ⟨rfl, _, Eq.trans (World.drewN_drewN _ _ _) (congrArg (World.drewN _) (Nat.add_assoc _ _ _))⟩); have p294 : 0 ≤ (3 : Int) := (by omega); have q294 : 3 < (l0.length : Int) := of_decide_eq_true (by first | (with_reducible assumption) | assumption); obtain ⟨ad294, e294, hx294_0⟩ := Kd.at_int HR0.out 3 p294 q294; obtain rfl : ad292 = ad294 := (by injection e294); (try simp only [show (3 : Int).toNat = 3 from rfl, Nat.reduceMul, Nat.reduceEqDiff, Go.Addr.add, ↓reduceIte] at hx294_0); have qi294 : (3 < l0.length) = True := eq_true (by omega); (try rw [show ((3 : Int)).toNat = 3 from rfl] at hx294_0); replace p294 := eq_true p294; replace q294 := eq_true q294) | (go_at_call 94; (with_reducible refine (jsonparser_h2I.calls k (rd l0 3) t295 _ A6.out).mono ?_); rintro e w' ⟨rfl, ⟨nd, rfl⟩⟩; (try first | exact ⟨rfl, _, World.drewN_drewN _ _ _⟩ | exact ⟨rfl, _, Eq.trans (World.drewN_drewN _ _ _) (congrArg (World.drewN _) (Nat.add_assoc _ _ _))⟩); have p296 : 0 ≤ (4 : Int) := (by omega); have q296 : 4 < (l0.length : Int) := of_decide_eq_true (by first | (with_reducible assumption) | assumption); obtain ⟨ad296, e296, hx296_0⟩ := Kd.at_int HR0.out 4 p296 q296; obtain rfl : ad292 = ad296 := (by injection e296); (try simp only [show (4 : Int).toNat = 4 from rfl, Nat.reduceMul, Nat.reduceEqDiff, Go.Addr.add, ↓reduceIte] at hx296_0); have qi296 : (4 < l0.length) = True := eq_true (by omega); (try rw [show ((4 : Int)).toNat = 4 from rfl] at hx296_0); replace p296 := eq_true p296; replace q296 := eq_true q296) | (go_at_call 94; (with_reducible refine (jsonparser_h2I.calls k (rd l0 4) t297 _ A8.out).mono ?_); rintro e w' ⟨rfl, ⟨nd, rfl⟩⟩; (try first | exact ⟨rfl, _, World.drewN_drewN _ _ _⟩ | exact ⟨rfl, _, Eq.trans (World.drewN_drewN _ _ _) (congrArg (World.drewN _) (Nat.add_assoc _ _ _))⟩); have p298 : 0 ≤ (5 : Int) := (by omega); have q298 : 5 < (l0.length : Int) := of_decide_eq_true (by first | (with_reducible assumption) | assumption); obtain ⟨ad298, e298, hx298_0⟩ := Kd.at_int HR0.out 5 p298 q298; obtain rfl : ad292 = ad298 := (by injection e298); (try simp only [show (5 : Int).toNat = 5 from rfl, Nat.reduceMul, Nat.reduceEqDiff, Go.Addr.add, ↓reduceIte] at hx298_0); have qi298 : (5 < l0.length) = True := eq_true (by omega); (try rw [show ((5 : Int)).toNat = 5 from rfl] at hx298_0); replace p298 := eq_true p298; replace q298 := eq_true q298) | (go_at_call 94; (with_reducible refine (jsonparser_h2I.calls k (rd l0 5) t299 _ A10.out).mono ?_); rintro e w' ⟨rfl, ⟨nd, rfl⟩⟩; (try first | exact ⟨rfl, _, World.drewN_drewN _ _ _⟩ | exact ⟨rfl, _, Eq.trans (World.drewN_drewN _ _ _) (congrArg (World.drewN _) (Nat.add_assoc _ _ _))⟩))); try go_wp2_with (first | (go_at_call 94; (with_reducible refine (jsonparser_h2I.calls k (rd l0 2) t293 _ A4.out).mono ?_); rintro e w' ⟨rfl, ⟨nd, rfl⟩⟩; (try first | exact ⟨rfl, _, World.drewN_drewN _ _ _⟩ | exact ⟨rfl, _, Eq.trans (World.drewN_drewN _ _ _) (congrArg (World.drewN _) (Nat.add_assoc _ _ _))⟩); have p294 : 0 ≤ (3 : Int) := (by omega); have q294 : 3 < (l0.length : Int) := of_decide_eq_true (by first | (with_reducible assumption) | assumption); obtain ⟨ad294, e294, hx294_0⟩ := Kd.at_int HR0.out 3 p294 q294; obtain rfl : ad292 = ad294 := (by injection e294); (try simp only [show (3 : Int).toNat = 3 from rfl, Nat.reduceMul, Nat.reduceEqDiff, Go.Addr.add, ↓reduceIte] at hx294_0); have qi294 : (3 < l0.length) = True := eq_true (by omega); (try rw [show ((3 : Int)).toNat = 3 from rfl] at hx294_0); replace p294 := eq_true p294; replace q294 := eq_true q294) | (go_at_call 94; (with_reducible refine (jsonparser_h2I.calls k (rd l0 3) t295 _ A6.out).mono ?_); rintro e w' ⟨rfl, ⟨nd, rfl⟩⟩; (try first | exact ⟨rfl, _, World.drewN_drewN _ _ _⟩ | exact ⟨rfl, _, Eq.trans (World.drewN_drewN _ _ _) (congrArg (World.drewN _) (Nat.add_assoc _ _ _))⟩); have p296 : 0 ≤ (4 : Int) := (by omega); have q296 : 4 < (l0.length : Int) := of_decide_eq_true (by first | (with_reducible assumption) | assumption); obtain ⟨ad296, e296, hx296_0⟩ := Kd.at_int HR0.out 4 p296 q296; obtain rfl : ad292 = ad296 := (by injection e296); (try simp only [show (4 : Int).toNat = 4 from rfl, Nat.reduceMul, Nat.reduceEqDiff, Go.Addr.add, ↓reduceIte] at hx296_0); have qi296 : (4 < l0.length) = True := eq_true (by omega); (try rw [show ((4 : Int)).toNat = 4 from rfl] at hx296_0); replace p296 := eq_true p296; replace q296 := eq_true q296) | (go_at_call 94; (with_reducible refine (jsonparser_h2I.calls k (rd l0 4) t297 _ A8.out).mono ?_); rintro e w' ⟨rfl, ⟨nd, rfl⟩⟩; (try first | exact ⟨rfl, _, World.drewN_drewN _ _ _⟩ | exact ⟨rfl, _, Eq.trans (World.drewN_drewN _ _ _) (congrArg (World.drewN _) (Nat.add_assoc _ _ _))⟩); have p298 : 0 ≤ (5 : Int) := (by omega); have q298 : 5 < (l0.length : Int) := of_decide_eq_true (by first | (with_reducible assumption) | assumption); obtain ⟨ad298, e298, hx298_0⟩ := Kd.at_int HR0.out 5 p298 q298; obtain rfl : ad292 = ad298 := (by injection e298); (try simp only [show (5 : Int).toNat = 5 from rfl, Nat.reduceMul, Nat.reduceEqDiff, Go.Addr.add, ↓reduceIte] at hx298_0); have qi298 : (5 < l0.length) = True := eq_true (by omega); (try rw [show ((5 : Int)).toNat = 5 from rfl] at hx298_0); replace p298 := eq_true p298; replace q298 := eq_true q298) | (go_at_call 94; (with_reducible refine (jsonparser_h2I.calls k (rd l0 5) t299 _ A10.out).mono ?_); rintro e w' ⟨rfl, ⟨nd, rfl⟩⟩; (try first | exact ⟨rfl, _, World.drewN_drewN _ _ _⟩ | exact ⟨rfl, _, Eq.trans (World.drewN_drewN _ _ _) (congrArg (World.drewN _) (Nat.add_assoc _ _ _))⟩))))
                    go_ret2
                    exact ⟨by first | rfl | (simp; done) | (simp [*]; done), by repeat (first | exact Drawn0.refl _ | apply Drawn0.step)⟩
                  · rw [if_neg c14] at H
                    have c14b0 : (t299 == (-1)) = false := beq_eq_false_iff_ne.mpr c14
                    have c14b1 : (t299 != (-1)) = true := bne_iff_ne.mpr c14
                    simp only [Option.some.injEq, Prod.mk.injEq] at H
                    obtain ⟨rfl, rfl⟩ := H
                    have p292 : 0 ≤ (2 : Int) := (by omega)
                    have q292 : 2 < (l0.length : Int) := of_decide_eq_true (by first | (with_reducible assumption) | assumption)
                    obtain ⟨ad292, e292, hx292_0⟩ := Kd.at_int HR0.out 2 p292 q292
                    cases e292
                    (try simp only [show (2 : Int).toNat = 2 from rfl, Nat.reduceMul, Nat.reduceEqDiff, Go.Addr.add, ↓reduceIte] at hx292_0)
                    have qi292 : (2 < l0.length) = True := eq_true (by omega)
                    (try rw [show ((2 : Int)).toNat = 2 from rfl] at hx292_0)
                    replace p292 := eq_true p292
                    replace q292 := eq_true q292
                    go_enter Tryd.func86, Tryd.ntmps86
                    go_wp2_with (first | (go_at_call 94; (with_reducible refine (jsonparser_h2I.calls k (rd l0 2) t293 _ A4.out).mono ?_); rintro e w' ⟨rfl, ⟨nd, rfl⟩⟩; (try first | exact ⟨rfl, _, World.drewN_drewN _ _ _⟩ | exact ⟨rfl, _, Eq.trans (World.drewN_drewN _ _ _) (congrArg (World.drewN _) (Nat.add_assoc _ _ _))⟩); have p294 : 0 ≤ (3 : Int) := (by omega); have q294 : 3 < (l0.length : Int) := of_decide_eq_true (by first | (with_reducible assumption) | assumption); obtain ⟨ad294, e294, hx294_0⟩ := Kd.at_int HR0.out 3 p294 q294; obtain rfl : ad292 = ad294 := (by injection e294); (try simp only [show (3 : Int).toNat = 3 from rfl, Nat.reduceMul, Nat.reduceEqDiff, Go.Addr.add, ↓reduceIte] at hx294_0); have qi294 : (3 < l0.length) = True := eq_true (by omega); (try rw [show ((3 : Int)).toNat = 3 from rfl] at hx294_0); replace p294 := eq_true p294; replace q294 := eq_true q294) | (go_at_call 94; (with_reducible refine (jsonparser_h2I.calls k (rd l0 3) t295 _ A6.out).mono ?_); rintro e w' ⟨rfl, ⟨nd, rfl⟩⟩; (try first | exact ⟨rfl, _, World.drewN_drewN _ _ _⟩ | exact ⟨rfl, _, Eq.trans (World.drewN_drewN _ _ _) (congrArg (World.drewN _) (Nat.add_assoc _ _ _))⟩); have p296 : 0 ≤ (4 : Int) := (by omega); have q296 : 4 < (l0.length : Int) := of_decide_eq_true (by first | (with_reducible assumption) | assumption); obtain ⟨ad296, e296, hx296_0⟩ := Kd.at_int HR0.out 4 p296 q296; obtain rfl : ad292 = ad296 := (by injection e296); (try simp only [show (4 : Int).toNat = 4 from rfl, Nat.reduceMul, Nat.reduceEqDiff, Go.Addr.add, ↓reduceIte] at hx296_0); have qi296 : (4 < l0.length) = True := eq_true (by omega); (try rw [show ((4 : Int)).toNat = 4 from rfl] at hx296_0); replace p296 := eq_true p296; replace q296 := eq_true q296) | (go_at_call 94; (with_reducible refine (jsonparser_h2I.calls k (rd l0 4) t297 _ A8.out).mono ?_); rintro e w' ⟨rfl, ⟨nd, rfl⟩⟩; (try first | exact ⟨rfl, _, World.drewN_drewN _ _ _⟩ | exact ⟨rfl, _, Eq.trans (World.drewN_drewN _ _ _) (congrArg (World.drewN _) (Nat.add_assoc _ _ _))⟩); have p298 : 0 ≤ (5 : Int) := (by omega); have q298 : 5 < (l0.length : Int) := of_decide_eq_true (by first | (with_reducible assumption) | assumption); obtain ⟨ad298, e298, hx298_0⟩ := Kd.at_int HR0.out 5 p298 q298; obtain rfl : ad292 = ad298 := (by injection e298); (try simp only [show (5 : Int).toNat = 5 from rfl, Nat.reduceMul, Nat.reduceEqDiff, Go.Addr.add, ↓reduceIte] at hx298_0); have qi298 : (5 < l0.length) = True := eq_true (by omega); (try rw [show ((5 : Int)).toNat = 5 from rfl] at hx298_0); replace p298 := eq_true p298; replace q298 := eq_true q298) | (go_at_call 94; (with_reducible refine (jsonparser_h2I.calls k (rd l0 5) t299 _ A10.out).mono ?_); rintro e w' ⟨rfl, ⟨nd, rfl⟩⟩; (try first | exact ⟨rfl, _, World.drewN_drewN _ _ _⟩ | exact ⟨rfl, _, Eq.trans (World.drewN_drewN _ _ _) (congrArg (World.drewN _) (Nat.add_assoc _ _ _))⟩)))
                    repeat (go_quiet (first | (go_at_call 94; (with_reducible refine (jsonparser_h2I.calls k (rd l0 2) t293 _ A4.out).mono ?_); rintro e w' ⟨rfl, ⟨nd, rfl⟩⟩; (try first | exact ⟨rfl, _, World.drewN_drewN _ _ _⟩ | exact ⟨rfl, _, Eq.trans (World.drewN_drewN _ _ _) (congrArg (World.drewN _) (Nat.add_assoc _ _ _))⟩); have p294 : 0 ≤ (3 : Int) := (by omega); have q294 : 3 < (l0.length : Int) := of_decide_eq_true (by first | (with_reducible assumption) | assumption); obtain ⟨ad294, e294, hx294_0⟩ := Kd.at_int HR0.out 3 p294 q294; obtain rfl : ad292 = ad294 := (by injection e294); (try simp only [show (3 : Int).toNat = 3 from rfl, Nat.reduceMul, Nat.reduceEqDiff, Go.Addr.add, ↓reduceIte] at hx294_0); have qi294 : (3 < l0.length) = True := eq_true (by omega); (try rw [show ((3 : Int)).toNat = 3 from rfl] at hx294_0); replace p294 := eq_true p294; replace q294 := eq_true q294) | (go_at_call 94; (with_reducible refine (jsonparser_h2I.calls k (rd l0 3) t295 _ A6.out).mono ?_); rintro e w' ⟨rfl, ⟨nd, rfl⟩⟩; (try first | exact ⟨rfl, _, World.drewN_drewN _ _ _⟩ | exact ⟨rfl, _, Eq.trans (World.drewN_drewN _ _ _) (congrArg (World.drewN _) (Nat.add_assoc _ _ _))⟩); have p296 : 0 ≤ (4 : Int) := (by omega); have q296 : 4 < (l0.length : Int) := of_decide_eq_true (by first | (with_reducible assumption) | assumption); obtain ⟨ad296, e296, hx296_0⟩ := Kd.at_int HR0.out 4 p296 q296; obtain rfl : ad292 = ad296 := (by injection e296); (try simp only [show (4 : Int).toNat = 4 from rfl, Nat.reduceMul, Nat.reduceEqDiff, Go.Addr.add, ↓reduceIte] at hx296_0); have qi296 : (4 < l0.length) = True := eq_true (by omega); (try rw [show ((4 : Int)).toNat = 4 from rfl] at hx296_0); replace p296 := eq_true p296; replace q296 := eq_true q296) | (go_at_call 94; (with_reducible refine (jsonparser_h2I.calls k (rd l0 4) t297 _ A8.out).mono ?_); rintro e w' ⟨rfl, ⟨nd, rfl⟩⟩; (try first | exact ⟨rfl, _, World.drewN_drewN _ _ _⟩ | exact ⟨rfl, _, Eq.trans (World.drewN_drewN _ _ _) (congrArg (World.drewN _) (Nat.add_assoc _ _ _))⟩); have p298 : 0 ≤ (5 : Int) := (by omega); have q298 : 5 < (l0.length : Int) := of_decide_eq_true (by first | (with_reducible assumption) | assumption); obtain ⟨ad298, e298, hx298_0⟩ := Kd.at_int HR0.out 5 p298 q298; obtain rfl : ad292 = ad298 := (by injection e298); (try simp only [show (5 : Int).toNat = 5 from rfl, Nat.reduceMul, Nat.reduceEqDiff, Go.Addr.add, ↓reduceIte] at hx298_0); have qi298 : (5 < l0.length) = True := eq_true (by omega); (try rw [show ((5 : Int)).toNat = 5 from rfl] at hx298_0); replace p298 := eq_true p298; replace q298 := eq_true q298) | (go_at_call 94; (with_reducible refine (jsonparser_h2I.calls k (rd l0 5) t299 _ A10.out).mono ?_); rintro e w' ⟨rfl, ⟨nd, rfl⟩⟩; (try first | exact ⟨rfl, _, World.drewN_drewN _ _ _⟩ | exact ⟨rfl, _, Eq.trans (World.drewN_drewN _ _ _) (congrArg (World.drewN _) (Nat.add_assoc _ _ _))⟩))); try go_wp2_with (first | (go_at_call 94; (with_reducible refine (jsonparser_h2I.calls k (rd l0 2) t293 _ A4.out).mono ?_); rintro e w' ⟨rfl, ⟨nd, rfl⟩⟩; (try first | exact ⟨rfl, _, World.drewN_drewN _ _ _⟩ | exact ⟨rfl, _, Eq.trans (World.drewN_drewN _ _ _) (congrArg (World.drewN _) (Nat.add_assoc _ _ _))⟩); have p294 : 0 ≤ (3 : Int) := (by omega); have q294 : 3 < (l0.length : Int) := of_decide_eq_true (by first | (with_reducible assumption) | assumption); obtain ⟨ad294, e294, hx294_0⟩ := Kd.at_int HR0.out 3 p294 q294; obtain rfl : ad292 = ad294 := (by injection e294); (try simp only [show (3 : Int).toNat = 3 from rfl, Nat.reduceMul, Nat.reduceEqDiff, Go.Addr.add, ↓reduceIte] at hx294_0); have qi294 : (3 < l0.length) = True := eq_true (by omega); (try rw [show ((3 : Int)).toNat = 3 from rfl] at hx294_0); replace p294 := eq_true p294; replace q294 := eq_true q294) | (go_at_call 94; (with_reducible refine (jsonparser_h2I.calls k (rd l0 3) t295 _ A6.out).mono ?_); rintro e w' ⟨rfl, ⟨nd, rfl⟩⟩; (try first | exact ⟨rfl, _, World.drewN_drewN _ _ _⟩ | exact ⟨rfl, _, Eq.trans (World.drewN_drewN _ _ _) (congrArg (World.drewN _) (Nat.add_assoc _ _ _))⟩); have p296 : 0 ≤ (4 : Int) := (by omega); have q296 : 4 < (l0.length : Int) := of_decide_eq_true (by first | (with_reducible assumption) | assumption); obtain ⟨ad296, e296, hx296_0⟩ := Kd.at_int HR0.out 4 p296 q296; obtain rfl : ad292 = ad296 := (by injection e296); (try simp only [show (4 : Int).toNat = 4 from rfl, Nat.reduceMul, Nat.reduceEqDiff, Go.Addr.add, ↓reduceIte] at hx296_0); have qi296 : (4 < l0.length) = True := eq_true (by omega); (try rw [show ((4 : Int)).toNat = 4 from rfl] at hx296_0); replace p296 := eq_true p296; replace q296 := eq_true q296) | (go_at_call 94; (with_reducible refine (jsonparser_h2I.calls k (rd l0 4) t297 _ A8.out).mono ?_); rintro e w' ⟨rfl, ⟨nd, rfl⟩⟩; (try first | exact ⟨rfl, _, World.drewN_drewN _ _ _⟩ | exact ⟨rfl, _, Eq.trans (World.drewN_drewN _ _ _) (congrArg (World.drewN _) (Nat.add_assoc _ _ _))⟩); have p298 : 0 ≤ (5 : Int) := (by omega); have q298 : 5 < (l0.length : Int) := of_decide_eq_true (by first | (with_reducible assumption) | assumption); obtain ⟨ad298, e298, hx298_0⟩ := Kd.at_int HR0.out 5 p298 q298; obtain rfl : ad292 = ad298 := (by injection e298); (try simp only [show (5 : Int).toNat = 5 from rfl, Nat.reduceMul, Nat.reduceEqDiff, Go.Addr.add, ↓reduceIte] at hx298_0); have qi298 : (5 < l0.length) = True := eq_true (by omega); (try rw [show ((5 : Int)).toNat = 5 from rfl] at hx298_0); replace p298 := eq_true p298; replace q298 := eq_true q298) | (go_at_call 94; (with_reducible refine (jsonparser_h2I.calls k (rd l0 5) t299 _ A10.out).mono ?_); rintro e w' ⟨rfl, ⟨nd, rfl⟩⟩; (try first | exact ⟨rfl, _, World.drewN_drewN _ _ _⟩ | exact ⟨rfl, _, Eq.trans (World.drewN_drewN _ _ _) (congrArg (World.drewN _) (Nat.add_assoc _ _ _))⟩))))
                    go_ret2
                    exact ⟨by first | rfl | (simp; done) | (simp [*]; done), by repeat (first | exact Drawn0.refl _ | apply Drawn0.step)⟩
          · rw [if_neg c9] at H
            exact absurd H (by simp)
        · rw [if_neg c7] at H
          exact absurd H (by simp)
      · rw [if_neg c5] at H
        exact absurd H (by simp)
    · rw [if_neg c3] at H
      exact absurd H (by simp)

def jsonparser_isUTF16EncodedRune.f (a0 : Int) : Option (Bool) := if 55296 ≤ a0 then (some (decide (a0 ≤ 57343))) else (some false)
set_option maxHeartbeats 8000000 in
set_option maxRecDepth 100000 in
theorem jsonparser_isUTF16EncodedRune.calls (a0 : Int) (r : Bool) (w : World) (h : jsonparser_isUTF16EncodedRune.f a0 = some r) :
    Calls Tryd.prog 87 #[.int .i32 a0] w fun e w' => e = .returned (.bool r) ∧ Drawn0 w w' := by
  have H : (if 55296 ≤ a0 then (some (decide (a0 ≤ 57343))) else (some false)) = some r := h
  clear h
  by_cases c2 : 55296 ≤ a0
  · rw [if_pos c2] at H
    have c2b0 : decide (55296 ≤ a0) = true := decide_eq_true c2
    clear c2
    obtain rfl := Option.some.inj H
    go_enter Tryd.func87, Tryd.ntmps87
    go_wp2
    go_ret
    exact ⟨by first | rfl | (simp; done) | (simp [*]; done), by repeat (first | exact Drawn0.refl _ | apply Drawn0.step)⟩
  · rw [if_neg c2] at H
    have c2b0 : decide (55296 ≤ a0) = false := decide_eq_false c2
    clear c2
    obtain rfl := Option.some.inj H
    go_enter Tryd.func87, Tryd.ntmps87
    go_wp2
    go_ret
    exact ⟨by first | rfl | (simp; done) | (simp [*]; done), by repeat (first | exact Drawn0.refl _ | apply Drawn0.step)⟩

def jsonparser_combineUTF16Surrogates.f (a0 : Int) (a1 : Int) : Option (Int) := some (wrap32 ((wrap32 (65536 + (wrap32 ((wrap32 (a0 - 55296)) * 1024)))) + (wrap32 (a1 - 56320))))
set_option maxHeartbeats 8000000 in
set_option maxRecDepth 100000 in
theorem jsonparser_combineUTF16Surrogates.calls (a0 : Int) (a1 : Int) (r : Int) (w : World) (h : jsonparser_combineUTF16Surrogates.f a0 a1 = some r) :
    Calls Tryd.prog 88 #[.int .i32 a0, .int .i32 a1] w fun e w' => e = .returned (.int .i32 r) ∧ Drawn0 w w' := by
  have H : (some (wrap32 ((wrap32 (65536 + (wrap32 ((wrap32 (a0 - 55296)) * 1024)))) + (wrap32 (a1 - 56320))))) = some r := h
  clear h
  obtain rfl := Option.some.inj H
  go_enter Tryd.func88, Tryd.ntmps88
  go_wp2
  go_ret
  exact ⟨by first | rfl | (simp; done) | (simp [*]; done), by repeat (first | exact Drawn0.refl _ | apply Drawn0.step)⟩

end Go.Proofs.YthehnffmbdlopaaDoor.PFnJpGetRest

namespace Go.Proofs.YthehnffmbdlopaaDoor.PFnJpGetRest
open Go.RowKit Go.Proofs.YthehnffmbdlopaaDoorW.PrintWords Go.Proofs.YthehnffmbdlopaaDoorW.PrintLast Go.Proofs.YthehnffmbdlopaaDoorW.PrintMore
attribute [local go_sem] max2_int min2_int max_two min_two max_three min_three max_four min_four   -- for this text's walks alone
set_option linter.unusedVariables false
set_option linter.unusedSimpArgs false

def jsonparser_decodeUnicodeEscape.j0 : Nat → List Int → Int → Bool → Option (Int × Int)
  | 0, _, _, _ => none
  | k + 1, x0, x4, x35 => if x35 = true then (some (65533, 6)) else (if 6 ≤ (x0.length : Int) then ((jsonparser_decodeSingleUnicodeEscape.f k (x0.drop 6)).bind fun bt306 => (if bt306.2 = true then (if bt306.1 < 56320 then (some (65533, 6)) else (if bt306.1 > 57343 then (some (65533, 6)) else ((jsonparser_combineUTF16Surrogates.f x4 bt306.1).bind fun t308 => (some (t308, 12))))) else (some (65533, (-1))))) else (none))
def jsonparser_decodeUnicodeEscape.f (k : Nat) (l0 : List Int) : Option (Int × Int) := (jsonparser_decodeSingleUnicodeEscape.f k l0).bind fun bt300 => (if bt300.2 = true then ((jsonparser_isUTF16EncodedRune.f bt300.1).bind fun t302 => (if t302 = true then (if bt300.1 ≥ 56320 then (some (65533, 6)) else (if (l0.length : Int) < 8 then (jsonparser_decodeUnicodeEscape.j0 k l0 bt300.1 true) else (if 6 < (l0.length : Int) then (if (rd l0 6) = 92 then (if 7 < (l0.length : Int) then (jsonparser_decodeUnicodeEscape.j0 k l0 bt300.1 ((rd l0 7) != 117)) else (none)) else (jsonparser_decodeUnicodeEscape.j0 k l0 bt300.1 true)) else (none)))) else (some (bt300.1, 6)))) else (some (65533, (-1))))
theorem jsonparser_decodeUnicodeEscape.mono_l : ∀ k, (∀ y0 y1 y2, LeO (jsonparser_decodeUnicodeEscape.j0 k y0 y1 y2) (jsonparser_decodeUnicodeEscape.j0 (k + 1) y0 y1 y2))
  | 0 => fun _ _ _ r h => by simp [jsonparser_decodeUnicodeEscape.j0] at h
  | k + 1 => by
    have ih0 := jsonparser_decodeUnicodeEscape.mono_l k
    · intro y0 y1 y2
      unfold jsonparser_decodeUnicodeEscape.j0
      repeat' first
      | (with_reducible exact ih0 _ _ _)
      | (with_reducible exact jsonparser_decodeSingleUnicodeEscape.mono _ _)
      | (with_reducible exact LeO.refl _)
      | (with_reducible exact LeO.none _)
      | (with_reducible refine LeO.ite ?_ ?_)
      | (with_reducible refine LeO.bind ?_ (fun _ => ?_))
      | exact ih0 _ _ _
      | exact jsonparser_decodeSingleUnicodeEscape.mono _ _
      | exact LeO.none _
      | refine LeO.ite ?_ ?_
      | refine LeO.bind ?_ (fun _ => ?_)
theorem jsonparser_decodeUnicodeEscape.mono : ∀ a0 k, LeO (jsonparser_decodeUnicodeEscape.f k a0) (jsonparser_decodeUnicodeEscape.f (k + 1) a0) := by
  intro a0 k
  have ih0 := jsonparser_decodeUnicodeEscape.mono_l k
  unfold jsonparser_decodeUnicodeEscape.f
  repeat' first
      | (with_reducible exact ih0 _ _ _)
      | (with_reducible exact jsonparser_decodeSingleUnicodeEscape.mono _ _)
      | (with_reducible exact LeO.refl _)
      | (with_reducible exact LeO.none _)
      | (with_reducible refine LeO.ite ?_ ?_)
      | (with_reducible refine LeO.bind ?_ (fun _ => ?_))
      | exact ih0 _ _ _
      | exact jsonparser_decodeSingleUnicodeEscape.mono _ _
      | exact LeO.none _
      | refine LeO.ite ?_ ?_
      | refine LeO.bind ?_ (fun _ => ?_)
set_option maxHeartbeats 8000000 in
set_option maxRecDepth 100000 in
theorem jsonparser_decodeUnicodeEscape.calls (k : Nat) (A0 : Option Addr) (c0 : Nat) (l0 : List Int) (r1 : Int) (r2 : Int) (w : World) (hr0 : Kd.C (Kd.int .u8) w A0 l0.length l0) (hc0 : l0.length ≤ c0) (h : jsonparser_decodeUnicodeEscape.f k l0 = some (r1, r2)) :
    Calls Tryd.prog 79 #[.slice A0 l0.length c0] w fun e w' => e = .returned (.tuple #[.int .i32 r1, .int .i64 r2]) ∧ Drawn0 w w' := by
  have HR0 := Aside0.mk hr0
  have HC0 := Aside0.mk hc0
  clear hr0 hc0
  have H : ((jsonparser_decodeSingleUnicodeEscape.f k l0).bind fun bt300 => (if bt300.2 = true then ((jsonparser_isUTF16EncodedRune.f bt300.1).bind fun t302 => (if t302 = true then (if bt300.1 ≥ 56320 then (some (65533, 6)) else (if (l0.length : Int) < 8 then (jsonparser_decodeUnicodeEscape.j0 k l0 bt300.1 true) else (if 6 < (l0.length : Int) then (if (rd l0 6) = 92 then (if 7 < (l0.length : Int) then (jsonparser_decodeUnicodeEscape.j0 k l0 bt300.1 ((rd l0 7) != 117)) else (none)) else (jsonparser_decodeUnicodeEscape.j0 k l0 bt300.1 true)) else (none)))) else (some (bt300.1, 6)))) else (some (65533, (-1))))) = some (r1, r2) := h
  clear h
  replace H := Option.bind_eq_some_iff.mp H
  obtain ⟨⟨t300, t301⟩, A20, H⟩ := H
  replace H : (if t301 = true then ((jsonparser_isUTF16EncodedRune.f t300).bind fun t302 => (if t302 = true then (if t300 ≥ 56320 then (some (65533, 6)) else (if (l0.length : Int) < 8 then (jsonparser_decodeUnicodeEscape.j0 k l0 t300 true) else (if 6 < (l0.length : Int) then (if (rd l0 6) = 92 then (if 7 < (l0.length : Int) then (jsonparser_decodeUnicodeEscape.j0 k l0 t300 ((rd l0 7) != 117)) else (none)) else (jsonparser_decodeUnicodeEscape.j0 k l0 t300 true)) else (none)))) else (some (t300, 6)))) else (some (65533, (-1)))) = some (r1, r2) := H
  have A2 := Aside0.mk A20
  clear A20
  by_cases c3 : t301 = true
  · subst c3
    have H1 : ((jsonparser_isUTF16EncodedRune.f t300).bind fun t302 => (if t302 = true then (if t300 ≥ 56320 then (some (65533, 6)) else (if (l0.length : Int) < 8 then (jsonparser_decodeUnicodeEscape.j0 k l0 t300 true) else (if 6 < (l0.length : Int) then (if (rd l0 6) = 92 then (if 7 < (l0.length : Int) then (jsonparser_decodeUnicodeEscape.j0 k l0 t300 ((rd l0 7) != 117)) else (none)) else (jsonparser_decodeUnicodeEscape.j0 k l0 t300 true)) else (none)))) else (some (t300, 6)))) = some (r1, r2) := by rw [if_pos rfl] at H; exact H
    clear H
    have H := H1
    clear H1
    replace H := Option.bind_eq_some_iff.mp H
    obtain ⟨t302, A40, H⟩ := H
    replace H : (if t302 = true then (if t300 ≥ 56320 then (some (65533, 6)) else (if (l0.length : Int) < 8 then (jsonparser_decodeUnicodeEscape.j0 k l0 t300 true) else (if 6 < (l0.length : Int) then (if (rd l0 6) = 92 then (if 7 < (l0.length : Int) then (jsonparser_decodeUnicodeEscape.j0 k l0 t300 ((rd l0 7) != 117)) else (none)) else (jsonparser_decodeUnicodeEscape.j0 k l0 t300 true)) else (none)))) else (some (t300, 6))) = some (r1, r2) := H
    have A4 := Aside0.mk A40
    clear A40
    by_cases c5 : t302 = true
    · subst c5
      have H1 : (if t300 ≥ 56320 then (some (65533, 6)) else (if (l0.length : Int) < 8 then (jsonparser_decodeUnicodeEscape.j0 k l0 t300 true) else (if 6 < (l0.length : Int) then (if (rd l0 6) = 92 then (if 7 < (l0.length : Int) then (jsonparser_decodeUnicodeEscape.j0 k l0 t300 ((rd l0 7) != 117)) else (none)) else (jsonparser_decodeUnicodeEscape.j0 k l0 t300 true)) else (none)))) = some (r1, r2) := by rw [if_pos rfl] at H; exact H
      clear H
      have H := H1
      clear H1
      by_cases c6 : t300 ≥ 56320
      · rw [if_pos c6] at H
        have c6b0 : decide (56320 ≤ t300) = true := decide_eq_true c6
        clear c6
        simp only [Option.some.injEq, Prod.mk.injEq] at H
        obtain ⟨rfl, rfl⟩ := H
        go_enter Tryd.func79, Tryd.ntmps79
        go_wp2_with (first | ((with_reducible refine gate_callee (f := 86) rfl ?_); refine goesL_ (some 10) rfl rfl Tryd.func86 (by kernel_rfl) rfl #[.slice A0 l0.length c0] rfl (by (try simp only [List.map_toArray, List.map_cons, List.map_nil]); first | done | rfl | (simp only [List.length_drop, List.length_take]; rfl)) ?_; (with_reducible refine (jsonparser_decodeSingleUnicodeEscape.calls k _ _ l0 t300 true _ ?side1 ?side2 A2.out).mono ?_); (case side1 => repeat (first | exact HR0.out | (with_reducible refine Kd.C_alloc ?_ _) | (with_reducible refine Kd.C_drewN ?_ _) | (with_reducible refine Kd.C_drew ?_))); (case side2 => exact HC0.out); rintro e w' ⟨rfl, ⟨nd, rfl⟩⟩; refine ⟨_, rfl, ?_⟩) | ((with_reducible refine gate_callee (f := 87) rfl ?_); refine goesL_ (some 16) rfl rfl Tryd.func87 (by kernel_rfl) rfl #[.int .i32 t300] rfl (by (try simp only [List.map_toArray, List.map_cons, List.map_nil]); first | done | rfl | (simp only [List.length_drop, List.length_take]; rfl)) ?_; (with_reducible refine (jsonparser_isUTF16EncodedRune.calls t300 true _ A4.out).mono ?_); rintro e w' ⟨rfl, ⟨nd, rfl⟩⟩; refine ⟨_, rfl, ?_⟩))
        go_ret2
        exact ⟨by first | rfl | (simp; done) | (simp [*]; done), by repeat (first | exact Drawn0.refl _ | apply Drawn0.step)⟩
      · rw [if_neg c6] at H
        have c6b0 : decide (56320 ≤ t300) = false := decide_eq_false c6
        clear c6
        have HC7 := Aside0.mk H
        clear H
        go_enter Tryd.func79, Tryd.ntmps79
        go_upto_region 8 with (first | ((with_reducible refine gate_callee (f := 86) rfl ?_); refine goesL_ (some 10) rfl rfl Tryd.func86 (by kernel_rfl) rfl #[.slice A0 l0.length c0] rfl (by (try simp only [List.map_toArray, List.map_cons, List.map_nil]); first | done | rfl | (simp only [List.length_drop, List.length_take]; rfl)) ?_; (with_reducible refine (jsonparser_decodeSingleUnicodeEscape.calls k _ _ l0 t300 true _ ?side1 ?side2 A2.out).mono ?_); (case side1 => repeat (first | exact HR0.out | (with_reducible refine Kd.C_alloc ?_ _) | (with_reducible refine Kd.C_drewN ?_ _) | (with_reducible refine Kd.C_drew ?_))); (case side2 => exact HC0.out); rintro e w' ⟨rfl, ⟨nd, rfl⟩⟩; refine ⟨_, rfl, ?_⟩) | ((with_reducible refine gate_callee (f := 87) rfl ?_); refine goesL_ (some 16) rfl rfl Tryd.func87 (by kernel_rfl) rfl #[.int .i32 t300] rfl (by (try simp only [List.map_toArray, List.map_cons, List.map_nil]); first | done | rfl | (simp only [List.length_drop, List.length_take]; rfl)) ?_; (with_reducible refine (jsonparser_isUTF16EncodedRune.calls t300 true _ A4.out).mono ?_); rintro e w' ⟨rfl, ⟨nd, rfl⟩⟩; refine ⟨_, rfl, ?_⟩))
        (try simp only [Act.put, List.setIfInBounds_toArray, List.set_cons_zero, List.set_cons_succ])
        go_cut [35] (fun v35 wc => ∃ (kq : Nat) (x35_6 : Bool), v35 = .bool x35_6 ∧ Aside0 (jsonparser_decodeUnicodeEscape.j0 kq l0 t300 x35_6 = some (r1, r2)) ∧ Aside0 (kq ≤ k) ∧ Drawn0 w wc)
        case first =>
          have H := HC7.out
          clear HC7
          by_cases c8 : (l0.length : Int) < 8
          · rw [if_pos c8] at H
            have c8b0 : decide ((l0.length : Int) < 8) = true := decide_eq_true c8
            have c8b1 : decide (l0.length < 8) = true := decide_eq_true (by omega)
            clear c8
            (first | rw [c8b0] | (simp only [i64_w, i32_w]; rw [c8b0]) | skip)
            have H' := Aside0.mk H
            clear H
            go_wp2
            go_meet
            case rel => exact ⟨_, (true), (by first | rfl | (simp; done) | (simp [*]; done)), H', ⟨by first | omega | exact Nat.le_refl _⟩, by repeat (first | exact Drawn0.refl _ | apply Drawn0.step)⟩
          · rw [if_neg c8] at H
            have c8b0 : decide ((l0.length : Int) < 8) = false := decide_eq_false c8
            have c8b1 : decide (l0.length < 8) = false := decide_eq_false (by omega)
            clear c8
            (first | rw [c8b0] | (simp only [i64_w, i32_w]; rw [c8b0]) | skip)
            by_cases c9 : 6 < (l0.length : Int)
            · rw [if_pos c9] at H
              have c9b0 : decide (6 < (l0.length : Int)) = true := decide_eq_true c9
              have c9b1 : decide (6 < l0.length) = true := decide_eq_true (by omega)
              clear c9
              by_cases c10 : (rd l0 6) = 92
              · rw [if_pos c10] at H
                have c10b0 : ((rd l0 6) == 92) = true := beq_iff_eq.mpr c10
                have c10b1 : ((rd l0 6) != 92) = false := bne_eq_false_iff_eq.mpr c10
                clear c10
                by_cases c11 : 7 < (l0.length : Int)
                · rw [if_pos c11] at H
                  have c11b0 : decide (7 < (l0.length : Int)) = true := decide_eq_true c11
                  have c11b1 : decide (7 < l0.length) = true := decide_eq_true (by omega)
                  clear c11
                  have H' := Aside0.mk H
                  clear H
                  have p303 : 0 ≤ (6 : Int) := (by omega)
                  have q303 : 6 < (l0.length : Int) := of_decide_eq_true (by first | (with_reducible assumption) | assumption)
                  obtain ⟨ad303, e303, hx303_0⟩ := Kd.at_int HR0.out 6 p303 q303
                  cases e303
                  (try simp only [show (6 : Int).toNat = 6 from rfl, Nat.reduceMul, Nat.reduceEqDiff, Go.Addr.add, ↓reduceIte] at hx303_0)
                  have qi303 : (6 < l0.length) = True := eq_true (by omega)
                  (try rw [show ((6 : Int)).toNat = 6 from rfl] at hx303_0)
                  replace p303 := eq_true p303
                  replace q303 := eq_true q303
                  have p304 : 0 ≤ (7 : Int) := (by omega)
                  have q304 : 7 < (l0.length : Int) := of_decide_eq_true (by first | (with_reducible assumption) | assumption)
                  obtain ⟨ad304, e304, hx304_0⟩ := Kd.at_int HR0.out 7 p304 q304
                  obtain rfl : ad303 = ad304 := (by injection e304)
                  (try simp only [show (7 : Int).toNat = 7 from rfl, Nat.reduceMul, Nat.reduceEqDiff, Go.Addr.add, ↓reduceIte] at hx304_0)
                  have qi304 : (7 < l0.length) = True := eq_true (by omega)
                  (try rw [show ((7 : Int)).toNat = 7 from rfl] at hx304_0)
                  replace p304 := eq_true p304
                  replace q304 := eq_true q304
                  go_wp2
                  go_meet
                  case rel => exact ⟨_, (((rd l0 7) != 117)), (by first | rfl | (simp; done) | (simp [*]; done)), H', ⟨by first | omega | exact Nat.le_refl _⟩, by repeat (first | exact Drawn0.refl _ | apply Drawn0.step)⟩
                · rw [if_neg c11] at H
                  exact absurd H (by simp)
              · rw [if_neg c10] at H
                have c10b0 : ((rd l0 6) == 92) = false := beq_eq_false_iff_ne.mpr c10
                have c10b1 : ((rd l0 6) != 92) = true := bne_iff_ne.mpr c10
                have H' := Aside0.mk H
                clear H
                have p303 : 0 ≤ (6 : Int) := (by omega)
                have q303 : 6 < (l0.length : Int) := of_decide_eq_true (by first | (with_reducible assumption) | assumption)
                obtain ⟨ad303, e303, hx303_0⟩ := Kd.at_int HR0.out 6 p303 q303
                cases e303
                (try simp only [show (6 : Int).toNat = 6 from rfl, Nat.reduceMul, Nat.reduceEqDiff, Go.Addr.add, ↓reduceIte] at hx303_0)
                have qi303 : (6 < l0.length) = True := eq_true (by omega)
                (try rw [show ((6 : Int)).toNat = 6 from rfl] at hx303_0)
                replace p303 := eq_true p303
                replace q303 := eq_true q303
                go_wp2
                go_meet
                case rel => exact ⟨_, (true), (by first | rfl | (simp; done) | (simp [*]; done)), H', ⟨by first | omega | exact Nat.le_refl _⟩, by repeat (first | exact Drawn0.refl _ | apply Drawn0.step)⟩
            · rw [if_neg c9] at H
              exact absurd H (by simp)
        case rest =>
          clear HC7
          try clear c1
          try clear p2
          try clear c3
          try clear p3
          try clear q3
          try clear hx3
          try clear qi3
          try clear c5
          try clear c6
          try clear c6b0
          try clear c7
          try clear c8
          try clear c8b0
          try clear c8b1
          try clear c9
          try clear c9b0
          try clear c9b1
          try clear c10
          try clear c10b0
          try clear c10b1
          try clear c11
          try clear c11b0
          try clear c11b1
          try clear hx303_0
          try clear hx304_0
          try clear p303
          try clear p304
          try clear q303
          try clear q304
          obtain ⟨kq, x35_6, rfl, HA, HJ6, ⟨mc6, rfl⟩⟩ := hcut
          cases kq with
          | zero => exact absurd HA.out (by simp [jsonparser_decodeUnicodeEscape.j0])
          | succ kj6 =>
            have H := HA.out
            clear HA
            simp only [jsonparser_decodeUnicodeEscape.j0] at H
            by_cases c12 : x35_6 = true
            · subst c12
              have H1 : (some (65533, 6)) = some (r1, r2) := by rw [if_pos rfl] at H; exact H
              clear H
              have H := H1
              clear H1
              simp only [Option.some.injEq, Prod.mk.injEq] at H
              obtain ⟨rfl, rfl⟩ := H
              go_wp2
              go_ret2
              exact ⟨by first | rfl | (simp; done) | (simp [*]; done), by repeat (first | exact Drawn0.refl _ | apply Drawn0.step)⟩
            · replace c12 := Bool.eq_false_iff.mpr c12
              subst c12
              have H1 : (if 6 ≤ (l0.length : Int) then ((jsonparser_decodeSingleUnicodeEscape.f kj6 (l0.drop 6)).bind fun bt306 => (if bt306.2 = true then (if bt306.1 < 56320 then (some (65533, 6)) else (if bt306.1 > 57343 then (some (65533, 6)) else ((jsonparser_combineUTF16Surrogates.f t300 bt306.1).bind fun t308 => (some (t308, 12))))) else (some (65533, (-1))))) else (none)) = some (r1, r2) := by rw [if_neg (show ¬ (false = true) by decide)] at H; exact H
              clear H
              have H := H1
              clear H1
              by_cases c13 : 6 ≤ (l0.length : Int)
              · rw [if_pos c13] at H
                have c13b0 := eq_true c13
                have c13b1 : decide (6 ≤ (l0.length : Int)) = true := decide_eq_true c13
                clear c13
                replace H := Option.bind_eq_some_iff.mp H
                obtain ⟨⟨t306, t307⟩, A140, H⟩ := H
                replace H : (if t307 = true then (if t306 < 56320 then (some (65533, 6)) else (if t306 > 57343 then (some (65533, 6)) else ((jsonparser_combineUTF16Surrogates.f t300 t306).bind fun t308 => (some (t308, 12))))) else (some (65533, (-1)))) = some (r1, r2) := H
                have A14 := Aside0.mk A140
                clear A140
                by_cases c15 : t307 = true
                · subst c15
                  have H1 : (if t306 < 56320 then (some (65533, 6)) else (if t306 > 57343 then (some (65533, 6)) else ((jsonparser_combineUTF16Surrogates.f t300 t306).bind fun t308 => (some (t308, 12))))) = some (r1, r2) := by rw [if_pos rfl] at H; exact H
                  clear H
                  have H := H1
                  clear H1
                  by_cases c16 : t306 < 56320
                  · rw [if_pos c16] at H
                    have c16b0 : decide (t306 < 56320) = true := decide_eq_true c16
                    clear c16
                    simp only [Option.some.injEq, Prod.mk.injEq] at H
                    obtain ⟨rfl, rfl⟩ := H
                    obtain ⟨i017, hi017, _, hsz17, _⟩ := info_parts info5
                    obtain ⟨A17, hcut17, hA17, hC17⟩ := print_drop_of (P := Tryd.prog) (Value.int .u8) 0 57 5 .i64 Tryd.underlying57 hi017 hsz17 A0 c0 l0 6 (by omega) (of_decide_eq_true (by first | (with_reducible assumption) | assumption)) HC0.out
                    have HR305 := Aside0.mk (Kd.C_of_reads (h1 := fun _ => rfl) (hA17 _ (Kd.reads_of_C HR0.out)))
                    have HC305 := Aside0.mk hC17
                    clear hA17 hC17 hi017 hsz17
                    go_wp2_with (first | ((with_reducible refine gate_callee (f := 86) rfl ?_); refine goesL_ (some 39) rfl rfl Tryd.func86 (by kernel_rfl) rfl #[.slice A17 (l0.drop 6).length (c0 - 6)] rfl (by (try simp only [List.map_toArray, List.map_cons, List.map_nil]); first | done | (rw [show (l0.drop 6).length = (l0.length - 6) from List.length_drop] <;> rfl) | rfl | (simp only [List.length_drop, List.length_take]; rfl)) ?_; (with_reducible refine (jsonparser_decodeSingleUnicodeEscape.calls kj6 _ _ (l0.drop 6) t306 true _ ?side1 ?side2 A14.out).mono ?_); (case side1 => repeat (first | exact HR305.out | (with_reducible refine Kd.C_alloc ?_ _) | (with_reducible refine Kd.C_drewN ?_ _) | (with_reducible refine Kd.C_drew ?_))); (case side2 => exact HC305.out); rintro e w' ⟨rfl, ⟨nd, rfl⟩⟩; refine ⟨_, rfl, ?_⟩))
                    go_ret2
                    exact ⟨by first | rfl | (simp; done) | (simp [*]; done), by repeat (first | exact Drawn0.refl _ | apply Drawn0.step)⟩
                  · rw [if_neg c16] at H
                    have c16b0 : decide (t306 < 56320) = false := decide_eq_false c16
                    clear c16
                    by_cases c18 : t306 > 57343
                    · rw [if_pos c18] at H
                      have c18b0 : decide (57343 < t306) = true := decide_eq_true c18
                      clear c18
                      simp only [Option.some.injEq, Prod.mk.injEq] at H
                      obtain ⟨rfl, rfl⟩ := H
                      obtain ⟨i019, hi019, _, hsz19, _⟩ := info_parts info5
                      obtain ⟨A19, hcut19, hA19, hC19⟩ := print_drop_of (P := Tryd.prog) (Value.int .u8) 0 57 5 .i64 Tryd.underlying57 hi019 hsz19 A0 c0 l0 6 (by omega) (of_decide_eq_true (by first | (with_reducible assumption) | assumption)) HC0.out
                      have HR305 := Aside0.mk (Kd.C_of_reads (h1 := fun _ => rfl) (hA19 _ (Kd.reads_of_C HR0.out)))
                      have HC305 := Aside0.mk hC19
                      clear hA19 hC19 hi019 hsz19
                      go_wp2_with (first | ((with_reducible refine gate_callee (f := 86) rfl ?_); refine goesL_ (some 39) rfl rfl Tryd.func86 (by kernel_rfl) rfl #[.slice A19 (l0.drop 6).length (c0 - 6)] rfl (by (try simp only [List.map_toArray, List.map_cons, List.map_nil]); first | done | (rw [show (l0.drop 6).length = (l0.length - 6) from List.length_drop] <;> rfl) | rfl | (simp only [List.length_drop, List.length_take]; rfl)) ?_; (with_reducible refine (jsonparser_decodeSingleUnicodeEscape.calls kj6 _ _ (l0.drop 6) t306 true _ ?side1 ?side2 A14.out).mono ?_); (case side1 => repeat (first | exact HR305.out | (with_reducible refine Kd.C_alloc ?_ _) | (with_reducible refine Kd.C_drewN ?_ _) | (with_reducible refine Kd.C_drew ?_))); (case side2 => exact HC305.out); rintro e w' ⟨rfl, ⟨nd, rfl⟩⟩; refine ⟨_, rfl, ?_⟩))
                      go_ret2
                      exact ⟨by first | rfl | (simp; done) | (simp [*]; done), by repeat (first | exact Drawn0.refl _ | apply Drawn0.step)⟩
                    · rw [if_neg c18] at H
                      have c18b0 : decide (57343 < t306) = false := decide_eq_false c18
                      clear c18
                      replace H := Option.bind_eq_some_iff.mp H
                      obtain ⟨t308, A200, H⟩ := H
                      replace H : (some (t308, 12)) = some (r1, r2) := H
                      have A20 := Aside0.mk A200
                      clear A200
                      simp only [Option.some.injEq, Prod.mk.injEq] at H
                      obtain ⟨rfl, rfl⟩ := H
                      obtain ⟨i021, hi021, _, hsz21, _⟩ := info_parts info5
                      obtain ⟨A21, hcut21, hA21, hC21⟩ := print_drop_of (P := Tryd.prog) (Value.int .u8) 0 57 5 .i64 Tryd.underlying57 hi021 hsz21 A0 c0 l0 6 (by omega) (of_decide_eq_true (by first | (with_reducible assumption) | assumption)) HC0.out
                      have HR305 := Aside0.mk (Kd.C_of_reads (h1 := fun _ => rfl) (hA21 _ (Kd.reads_of_C HR0.out)))
                      have HC305 := Aside0.mk hC21
                      clear hA21 hC21 hi021 hsz21
                      go_wp2_with (first | ((with_reducible refine gate_callee (f := 86) rfl ?_); refine goesL_ (some 39) rfl rfl Tryd.func86 (by kernel_rfl) rfl #[.slice A21 (l0.drop 6).length (c0 - 6)] rfl (by (try simp only [List.map_toArray, List.map_cons, List.map_nil]); first | done | (rw [show (l0.drop 6).length = (l0.length - 6) from List.length_drop] <;> rfl) | rfl | (simp only [List.length_drop, List.length_take]; rfl)) ?_; (with_reducible refine (jsonparser_decodeSingleUnicodeEscape.calls kj6 _ _ (l0.drop 6) t306 true _ ?side1 ?side2 A14.out).mono ?_); (case side1 => repeat (first | exact HR305.out | (with_reducible refine Kd.C_alloc ?_ _) | (with_reducible refine Kd.C_drewN ?_ _) | (with_reducible refine Kd.C_drew ?_))); (case side2 => exact HC305.out); rintro e w' ⟨rfl, ⟨nd, rfl⟩⟩; refine ⟨_, rfl, ?_⟩) | ((with_reducible refine gate_callee (f := 88) rfl ?_); refine goesL_ (some 52) rfl rfl Tryd.func88 (by kernel_rfl) rfl #[.int .i32 t300, .int .i32 t306] rfl (by (try simp only [List.map_toArray, List.map_cons, List.map_nil]); first | done | rfl | (simp only [List.length_drop, List.length_take]; rfl)) ?_; (with_reducible refine (jsonparser_combineUTF16Surrogates.calls t300 t306 t308 _ A20.out).mono ?_); rintro e w' ⟨rfl, ⟨nd, rfl⟩⟩; refine ⟨_, rfl, ?_⟩))
                      go_ret2
                      exact ⟨by first | rfl | (simp; done) | (simp [*]; done), by repeat (first | exact Drawn0.refl _ | apply Drawn0.step)⟩
                · replace c15 := Bool.eq_false_iff.mpr c15
                  subst c15
                  have H1 : (some (65533, (-1))) = some (r1, r2) := by rw [if_neg (show ¬ (false = true) by decide)] at H; exact H
                  clear H
                  have H := H1
                  clear H1
                  simp only [Option.some.injEq, Prod.mk.injEq] at H
                  obtain ⟨rfl, rfl⟩ := H
                  obtain ⟨i022, hi022, _, hsz22, _⟩ := info_parts info5
                  obtain ⟨A22, hcut22, hA22, hC22⟩ := print_drop_of (P := Tryd.prog) (Value.int .u8) 0 57 5 .i64 Tryd.underlying57 hi022 hsz22 A0 c0 l0 6 (by omega) (of_decide_eq_true (by first | (with_reducible assumption) | assumption)) HC0.out
                  have HR305 := Aside0.mk (Kd.C_of_reads (h1 := fun _ => rfl) (hA22 _ (Kd.reads_of_C HR0.out)))
                  have HC305 := Aside0.mk hC22
                  clear hA22 hC22 hi022 hsz22
                  go_wp2_with (first | ((with_reducible refine gate_callee (f := 86) rfl ?_); refine goesL_ (some 39) rfl rfl Tryd.func86 (by kernel_rfl) rfl #[.slice A22 (l0.drop 6).length (c0 - 6)] rfl (by (try simp only [List.map_toArray, List.map_cons, List.map_nil]); first | done | (rw [show (l0.drop 6).length = (l0.length - 6) from List.length_drop] <;> rfl) | rfl | (simp only [List.length_drop, List.length_take]; rfl)) ?_; (with_reducible refine (jsonparser_decodeSingleUnicodeEscape.calls kj6 _ _ (l0.drop 6) t306 false _ ?side1 ?side2 A14.out).mono ?_); (case side1 => repeat (first | exact HR305.out | (with_reducible refine Kd.C_alloc ?_ _) | (with_reducible refine Kd.C_drewN ?_ _) | (with_reducible refine Kd.C_drew ?_))); (case side2 => exact HC305.out); rintro e w' ⟨rfl, ⟨nd, rfl⟩⟩; refine ⟨_, rfl, ?_⟩))
                  go_ret2
                  exact ⟨by first | rfl | (simp; done) | (simp [*]; done), by repeat (first | exact Drawn0.refl _ | apply Drawn0.step)⟩
              · rw [if_neg c13] at H
                exact absurd H (by simp)
    · replace c5 := Bool.eq_false_iff.mpr c5
      subst c5
      have H1 : (some (t300, 6)) = some (r1, r2) := by rw [if_neg (show ¬ (false = true) by decide)] at H; exact H
      clear H
      have H := H1
      clear H1
      simp only [Option.some.injEq, Prod.mk.injEq] at H
      obtain ⟨rfl, rfl⟩ := H
      go_enter Tryd.func79, Tryd.ntmps79
      go_wp2_with (first | ((with_reducible refine gate_callee (f := 86) rfl ?_); refine goesL_ (some 10) rfl rfl Tryd.func86 (by kernel_rfl) rfl #[.slice A0 l0.length c0] rfl (by (try simp only [List.map_toArray, List.map_cons, List.map_nil]); first | done | rfl | (simp only [List.length_drop, List.length_take]; rfl)) ?_; (with_reducible refine (jsonparser_decodeSingleUnicodeEscape.calls k _ _ l0 t300 true _ ?side1 ?side2 A2.out).mono ?_); (case side1 => repeat (first | exact HR0.out | (with_reducible refine Kd.C_alloc ?_ _) | (with_reducible refine Kd.C_drewN ?_ _) | (with_reducible refine Kd.C_drew ?_))); (case side2 => exact HC0.out); rintro e w' ⟨rfl, ⟨nd, rfl⟩⟩; refine ⟨_, rfl, ?_⟩) | ((with_reducible refine gate_callee (f := 87) rfl ?_); refine goesL_ (some 16) rfl rfl Tryd.func87 (by kernel_rfl) rfl #[.int .i32 t300] rfl (by (try simp only [List.map_toArray, List.map_cons, List.map_nil]); first | done | rfl | (simp only [List.length_drop, List.length_take]; rfl)) ?_; (with_reducible refine (jsonparser_isUTF16EncodedRune.calls t300 false _ A4.out).mono ?_); rintro e w' ⟨rfl, ⟨nd, rfl⟩⟩; refine ⟨_, rfl, ?_⟩))
      go_ret2
      exact ⟨by first | rfl | (simp; done) | (simp [*]; done), by repeat (first | exact Drawn0.refl _ | apply Drawn0.step)⟩
  · replace c3 := Bool.eq_false_iff.mpr c3
    subst c3
    have H1 : (some (65533, (-1))) = some (r1, r2) := by rw [if_neg (show ¬ (false = true) by decide)] at H; exact H
    clear H
    have H := H1
    clear H1
    simp only [Option.some.injEq, Prod.mk.injEq] at H
    obtain ⟨rfl, rfl⟩ := H
    go_enter Tryd.func79, Tryd.ntmps79
    go_wp2_with (first | ((with_reducible refine gate_callee (f := 86) rfl ?_); refine goesL_ (some 10) rfl rfl Tryd.func86 (by kernel_rfl) rfl #[.slice A0 l0.length c0] rfl (by (try simp only [List.map_toArray, List.map_cons, List.map_nil]); first | done | rfl | (simp only [List.length_drop, List.length_take]; rfl)) ?_; (with_reducible refine (jsonparser_decodeSingleUnicodeEscape.calls k _ _ l0 t300 false _ ?side1 ?side2 A2.out).mono ?_); (case side1 => repeat (first | exact HR0.out | (with_reducible refine Kd.C_alloc ?_ _) | (with_reducible refine Kd.C_drewN ?_ _) | (with_reducible refine Kd.C_drew ?_))); (case side2 => exact HC0.out); rintro e w' ⟨rfl, ⟨nd, rfl⟩⟩; refine ⟨_, rfl, ?_⟩))
    go_ret2
    exact ⟨by first | rfl | (simp; done) | (simp [*]; done), by repeat (first | exact Drawn0.refl _ | apply Drawn0.step)⟩


end Go.Proofs.YthehnffmbdlopaaDoor.PFnJpGetRest
