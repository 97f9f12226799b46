/- The functions of the law FnGjSplitPipe over splitPossiblePipe. -/
import Derived.Test.YtjpbjbcdobibbaaPFnGjSplitPipex0
import Derived.Test.YtjpbjbcdobibbaaPFnGjSplitPipex1
import Derived.Test.YtjpbjbcdobibbaaSx3
namespace Go.Proofs.Ytjpbjbcdobibbaa.PFnGjSplitPipe
open Go.RowKit Go.Proofs.YtjpbjbcdobibbaaW.PrintWords Go.Proofs.YtjpbjbcdobibbaaW.PrintLast Go.Proofs.YtjpbjbcdobibbaaW.PrintMore
attribute [local go_sem] max2_int min2_int max_two min_two max_three min_three max_four min_four   -- for this text's walks alone
set_option linter.unusedVariables false
set_option linter.unusedSimpArgs false

/-! ### gjson_DoorPipe: function 9 -/
def gjson_DoorPipe.f (k : Nat) (a0 : ByteArray) : Option (ByteArray × ByteArray × Bool) := (gjson_splitPossiblePipe.f k a0).bind fun bt119 => (some (bt119.1, bt119.2.1, bt119.2.2))
theorem gjson_DoorPipe.mono : ∀ a0 k, LeO (gjson_DoorPipe.f k a0) (gjson_DoorPipe.f (k + 1) a0) := by
  intro a0 k
  unfold gjson_DoorPipe.f
  repeat' first
      | (with_reducible exact gjson_splitPossiblePipe.mono _ _)
      | (with_reducible exact LeO.refl _)
      | (with_reducible exact LeO.none _)
      | (with_reducible refine LeO.ite ?_ ?_)
      | (with_reducible refine LeO.bind ?_ (fun _ => ?_))
      | exact gjson_splitPossiblePipe.mono _ _
      | exact LeO.none _
      | refine LeO.ite ?_ ?_
      | refine LeO.bind ?_ (fun _ => ?_)
set_option maxHeartbeats 8000000 in
set_option maxRecDepth 100000 in
theorem gjson_DoorPipe.calls (k : Nat) (a0 : ByteArray) (r1 : ByteArray) (r2 : ByteArray) (r3 : Bool) (w : World) (h : gjson_DoorPipe.f k a0 = some (r1, r2, r3)) :
    Calls Try.prog 9 #[.string a0] w fun e w' => e = .returned (.tuple #[.string r1, .string r2, .bool r3]) ∧ Drawn0 w w' := by
  have H : ((gjson_splitPossiblePipe.f k a0).bind fun bt119 => (some (bt119.1, bt119.2.1, bt119.2.2))) = some (r1, r2, r3) := h
  clear h
  replace H := Option.bind_eq_some_iff.mp H
  obtain ⟨⟨t119, t120, t121⟩, A20, H⟩ := H
  replace H : (some (t119, t120, t121)) = some (r1, r2, r3) := H
  have A2 := Aside0.mk A20
  clear A20
  simp only [Option.some.injEq, Prod.mk.injEq] at H
  obtain ⟨rfl, rfl, rfl⟩ := H
  go_enter Try.func9, Try.ntmps9
  go_wp2_with (first | ((with_reducible refine gate_callee (f := 11) rfl ?_); refine goesL_ (some 6) rfl rfl Try.func11 (by kernel_rfl) rfl #[.string a0] rfl (by (try simp only [List.map_toArray, List.map_cons, List.map_nil]); first | done | rfl | (simp only [List.length_drop, List.length_take]; rfl)) ?_; (with_reducible refine (gjson_splitPossiblePipe.calls k a0 t119 t120 t121 _ A2.out).mono ?_); rintro e w' ⟨rfl, ⟨nd, rfl⟩⟩; refine ⟨_, rfl, ?_⟩))
  go_ret3
  exact ⟨by first | rfl | (simp; done) | (simp [*]; done), by repeat (first | exact Drawn0.refl _ | apply Drawn0.step)⟩

/-! ### impl_GjSplitPipe: function 7 -/
def impl_GjSplitPipe.f (k : Nat) (a0 : ByteArray) : Option (ByteArray × ByteArray × Bool) := (gjson_DoorPipe.f k a0).bind fun bt122 => (some (bt122.1, bt122.2.1, bt122.2.2))
theorem impl_GjSplitPipe.mono : ∀ a0 k, LeO (impl_GjSplitPipe.f k a0) (impl_GjSplitPipe.f (k + 1) a0) := by
  intro a0 k
  unfold impl_GjSplitPipe.f
  repeat' first
      | (with_reducible exact gjson_DoorPipe.mono _ _)
      | (with_reducible exact LeO.refl _)
      | (with_reducible exact LeO.none _)
      | (with_reducible refine LeO.ite ?_ ?_)
      | (with_reducible refine LeO.bind ?_ (fun _ => ?_))
      | exact gjson_DoorPipe.mono _ _
      | exact LeO.none _
      | refine LeO.ite ?_ ?_
      | refine LeO.bind ?_ (fun _ => ?_)
set_option maxHeartbeats 8000000 in
set_option maxRecDepth 100000 in
theorem impl_GjSplitPipe.calls (k : Nat) (a0 : ByteArray) (r1 : ByteArray) (r2 : ByteArray) (r3 : Bool) (w : World) (h : impl_GjSplitPipe.f k a0 = some (r1, r2, r3)) :
    Calls Try.prog 7 #[.string a0] w fun e w' => e = .returned (.tuple #[.string r1, .string r2, .bool r3]) ∧ Drawn0 w w' := by
  have H : ((gjson_DoorPipe.f k a0).bind fun bt122 => (some (bt122.1, bt122.2.1, bt122.2.2))) = some (r1, r2, r3) := h
  clear h
  replace H := Option.bind_eq_some_iff.mp H
  obtain ⟨⟨t122, t123, t124⟩, A20, H⟩ := H
  replace H : (some (t122, t123, t124)) = some (r1, r2, r3) := H
  have A2 := Aside0.mk A20
  clear A20
  simp only [Option.some.injEq, Prod.mk.injEq] at H
  obtain ⟨rfl, rfl, rfl⟩ := H
  go_enter Try.func7, Try.ntmps7
  go_wp2_with (first | ((with_reducible refine gate_callee (f := 9) rfl ?_); refine goesL_ (some 6) rfl rfl Try.func9 (by kernel_rfl) rfl #[.string a0] rfl (by (try simp only [List.map_toArray, List.map_cons, List.map_nil]); first | done | rfl | (simp only [List.length_drop, List.length_take]; rfl)) ?_; (with_reducible refine (gjson_DoorPipe.calls k a0 t122 t123 t124 _ A2.out).mono ?_); rintro e w' ⟨rfl, ⟨nd, rfl⟩⟩; refine ⟨_, rfl, ?_⟩))
  go_ret3
  exact ⟨by first | rfl | (simp; done) | (simp [*]; done), by repeat (first | exact Drawn0.refl _ | apply Drawn0.step)⟩

/-! ### laws_FnGjSplitPipe: function 3 -/
def laws_FnGjSplitPipe.j0 : Nat → List ByteArray → Int → Bool → Option (Bool)
  | 0, _, _, _ => none
  | k + 1, x0, x1, x33 => if x33 = true then (some true) else (if 0 ≤ x1 then (if x1 ≤ (x0.length : Int) then ((spec_PathOf.f k (x0.take (x1 : Int).toNat)).bind fun t128 => ((spec_PathOf.f k (x0.drop (x1 : Int).toNat)).bind fun t130 => (if t128.size + 1 ≤ 9223372036854775807 then (if (t128 ++ (⟨#[124]⟩ : ByteArray)).size + t130.size ≤ 9223372036854775807 then ((impl_GjSplitPipe.f k ((t128 ++ (⟨#[124]⟩ : ByteArray)) ++ t130)).bind fun bt131 => ((impl_GjSplitPipe.f k t128).bind fun bt134 => (if bt131.2.2 = true then (if bt134.2.2 = true then (some false) else (if bt131.1.toList = t128.toList then (some (bt131.2.1.toList == t130.toList)) else (some false))) else (some false)))) else (none)) else (none)))) else (none)) else (none))
def laws_FnGjSplitPipe.f (k : Nat) (l0 : List ByteArray) (a1 : Int) : Option (Bool) := (laws_zzFits1.f k l0).bind fun t125 => (if t125 = true then ((laws_gjRest.f k l0).bind fun t126 => (if t126 = true then (if (l0.length : Int) > 64 then (laws_FnGjSplitPipe.j0 k l0 a1 true) else (if a1 < 1 then (laws_FnGjSplitPipe.j0 k l0 a1 true) else (laws_FnGjSplitPipe.j0 k l0 a1 (decide (a1 ≥ (l0.length : Int)))))) else (laws_FnGjSplitPipe.j0 k l0 a1 true))) else (some true))
theorem laws_FnGjSplitPipe.mono_l : ∀ k, (∀ y0 y1 y2, LeO (laws_FnGjSplitPipe.j0 k y0 y1 y2) (laws_FnGjSplitPipe.j0 (k + 1) y0 y1 y2))
  | 0 => fun _ _ _ r h => by simp [laws_FnGjSplitPipe.j0] at h
  | k + 1 => by
    have ih0 := laws_FnGjSplitPipe.mono_l k
    · intro y0 y1 y2
      unfold laws_FnGjSplitPipe.j0
      repeat' first
      | (with_reducible exact ih0 _ _ _)
      | (with_reducible exact impl_GjSplitPipe.mono _ _)
      | (with_reducible exact laws_gjRest.mono _ _)
      | (with_reducible exact laws_zzFits1.mono _ _)
      | (with_reducible exact spec_PathOf.mono _ _)
      | (with_reducible exact LeO.refl _)
      | (with_reducible exact LeO.none _)
      | (with_reducible refine LeO.ite ?_ ?_)
      | (with_reducible refine LeO.bind ?_ (fun _ => ?_))
      | exact ih0 _ _ _
      | exact impl_GjSplitPipe.mono _ _
      | exact laws_gjRest.mono _ _
      | exact laws_zzFits1.mono _ _
      | exact spec_PathOf.mono _ _
      | exact LeO.none _
      | refine LeO.ite ?_ ?_
      | refine LeO.bind ?_ (fun _ => ?_)
theorem laws_FnGjSplitPipe.mono : ∀ a0 a1 k, LeO (laws_FnGjSplitPipe.f k a0 a1) (laws_FnGjSplitPipe.f (k + 1) a0 a1) := by
  intro a0 a1 k
  have ih0 := laws_FnGjSplitPipe.mono_l k
  unfold laws_FnGjSplitPipe.f
  repeat' first
      | (with_reducible exact ih0 _ _ _)
      | (with_reducible exact impl_GjSplitPipe.mono _ _)
      | (with_reducible exact laws_gjRest.mono _ _)
      | (with_reducible exact laws_zzFits1.mono _ _)
      | (with_reducible exact spec_PathOf.mono _ _)
      | (with_reducible exact LeO.refl _)
      | (with_reducible exact LeO.none _)
      | (with_reducible refine LeO.ite ?_ ?_)
      | (with_reducible refine LeO.bind ?_ (fun _ => ?_))
      | exact ih0 _ _ _
      | exact impl_GjSplitPipe.mono _ _
      | exact laws_gjRest.mono _ _
      | exact laws_zzFits1.mono _ _
      | exact spec_PathOf.mono _ _
      | exact LeO.none _
      | refine LeO.ite ?_ ?_
      | refine LeO.bind ?_ (fun _ => ?_)
def laws_FnGjSplitPipe.T5 : Bool × List (List Nat × List Nat) := (true, [([], []), ([], []), ([0, 1], [0, 1]), ([2], [2]), ([], []), ([], []), ([4, 5], [4, 5]), ([6, 3], [6]), ([3, 7, 0, 1, 2, 3], [3]), ([7, 8, 0, 1, 2, 3, 4, 5, 6, 7, 8], [7])])
def laws_FnGjSplitPipe.B5 : List Nat := [0, 0, 3, 7, 0, 0, 48, 127, 255, 511]
theorem laws_FnGjSplitPipe.tab5 : rtab .any (opsOf Try.f3 5) = laws_FnGjSplitPipe.T5 := by kernel_rfl
theorem laws_FnGjSplitPipe.bits5 : waitsOk laws_FnGjSplitPipe.T5.2 laws_FnGjSplitPipe.B5 = true := by kernel_rfl
set_option maxHeartbeats 8000000 in
set_option maxRecDepth 100000 in
theorem laws_FnGjSplitPipe.calls (k : Nat) (A0 : Option Addr) (c0 : Nat) (l0 : List ByteArray) (a1 : Int) (r : Bool) (w : World) (hr0 : Kd.C Kd.string w A0 l0.length l0) (hc0 : l0.length ≤ c0) (h : laws_FnGjSplitPipe.f k l0 a1 = some r) :
    Calls Try.prog 3 #[.slice A0 l0.length c0, .int .i64 a1] w fun e w' => e = .returned (.bool r) ∧ Below w.heap.size w w' := by
  have HR0 := Aside0.mk hr0
  have HC0 := Aside0.mk hc0
  clear hr0 hc0
  have HB := Aside0.mk (Below.refl w.heap.size w)
  have H : ((laws_zzFits1.f k l0).bind fun t125 => (if t125 = true then ((laws_gjRest.f k l0).bind fun t126 => (if t126 = true then (if (l0.length : Int) > 64 then (laws_FnGjSplitPipe.j0 k l0 a1 true) else (if a1 < 1 then (laws_FnGjSplitPipe.j0 k l0 a1 true) else (laws_FnGjSplitPipe.j0 k l0 a1 (decide (a1 ≥ (l0.length : Int)))))) else (laws_FnGjSplitPipe.j0 k l0 a1 true))) else (some true))) = some r := h
  clear h
  replace H := Option.bind_eq_some_iff.mp H
  obtain ⟨t125, A30, H⟩ := H
  replace H : (if t125 = true then ((laws_gjRest.f k l0).bind fun t126 => (if t126 = true then (if (l0.length : Int) > 64 then (laws_FnGjSplitPipe.j0 k l0 a1 true) else (if a1 < 1 then (laws_FnGjSplitPipe.j0 k l0 a1 true) else (laws_FnGjSplitPipe.j0 k l0 a1 (decide (a1 ≥ (l0.length : Int)))))) else (laws_FnGjSplitPipe.j0 k l0 a1 true))) else (some true)) = some r := H
  have A3 := Aside0.mk A30
  clear A30
  by_cases c4 : t125 = true
  · subst c4
    have H1 : ((laws_gjRest.f k l0).bind fun t126 => (if t126 = true then (if (l0.length : Int) > 64 then (laws_FnGjSplitPipe.j0 k l0 a1 true) else (if a1 < 1 then (laws_FnGjSplitPipe.j0 k l0 a1 true) else (laws_FnGjSplitPipe.j0 k l0 a1 (decide (a1 ≥ (l0.length : Int)))))) else (laws_FnGjSplitPipe.j0 k l0 a1 true))) = some r := by rw [if_pos rfl] at H; exact H
    clear H
    have H := H1
    clear H1
    have HC5 := Aside0.mk H
    clear H
    go_enter Try.func3, Try.ntmps3
    go_upto_region 3 with (first | ((with_reducible refine gate_callee (f := 4) rfl ?_); refine goesL_ (some 14) rfl rfl Try.func4 (by kernel_rfl) rfl #[.slice A0 l0.length c0] rfl (by (try simp only [List.map_toArray, List.map_cons, List.map_nil]); first | done | rfl | (simp only [List.length_drop, List.length_take]; rfl)) ?_; (with_reducible refine (laws_zzFits1.calls k _ _ l0 true _ ?side1 ?side2 A3.out).mono ?_); (case side1 => repeat (first | exact HR0.out | (with_reducible refine Kd.C_alloc ?_ _) | (with_reducible refine Kd.C_drewN ?_ _) | (with_reducible refine Kd.C_drew ?_))); (case side2 => exact HC0.out); rintro e w' ⟨rfl, ⟨nd, rfl⟩⟩; refine ⟨_, rfl, ?_⟩))
    (try simp only [Act.put, List.setIfInBounds_toArray, List.set_cons_zero, List.set_cons_succ])
    go_cut [33] (fun v33 wc => ∃ (kq : Nat) (x33_4 : Bool), v33 = .bool x33_4 ∧ Aside0 (laws_FnGjSplitPipe.j0 kq l0 a1 x33_4 = some r) ∧ Aside0 (kq ≤ k) ∧ Aside0 (Below w.heap.size w wc))
    case first =>
      have H := HC5.out
      clear HC5
      replace H := Option.bind_eq_some_iff.mp H
      obtain ⟨t126, A60, H⟩ := H
      replace H : (if t126 = true then (if (l0.length : Int) > 64 then (laws_FnGjSplitPipe.j0 k l0 a1 true) else (if a1 < 1 then (laws_FnGjSplitPipe.j0 k l0 a1 true) else (laws_FnGjSplitPipe.j0 k l0 a1 (decide (a1 ≥ (l0.length : Int)))))) else (laws_FnGjSplitPipe.j0 k l0 a1 true)) = some r := H
      have A6 := Aside0.mk A60
      clear A60
      by_cases c7 : t126 = true
      · subst c7
        have H1 : (if (l0.length : Int) > 64 then (laws_FnGjSplitPipe.j0 k l0 a1 true) else (if a1 < 1 then (laws_FnGjSplitPipe.j0 k l0 a1 true) else (laws_FnGjSplitPipe.j0 k l0 a1 (decide (a1 ≥ (l0.length : Int)))))) = some r := by rw [if_pos rfl] at H; exact H
        clear H
        have H := H1
        clear H1
        by_cases c8 : (l0.length : Int) > 64
        · rw [if_pos c8] at H
          have c8b0 : decide (64 < (l0.length : Int)) = true := decide_eq_true c8
          have c8b1 : decide (64 < l0.length) = true := decide_eq_true (by omega)
          clear c8
          (first | rw [c8b0] | (simp only [i64_w, i32_w]; rw [c8b0]) | skip)
          have H' := Aside0.mk H
          clear H
          go_wp2_with (first | ((with_reducible refine gate_callee (f := 5) rfl ?_); refine goesL_ (some 17) rfl rfl Try.func5 (by kernel_rfl) rfl #[.slice A0 l0.length c0] rfl (by (try simp only [List.map_toArray, List.map_cons, List.map_nil]); first | done | rfl | (simp only [List.length_drop, List.length_take]; rfl)) ?_; (with_reducible refine (laws_gjRest.calls k _ _ l0 true _ ?side1 ?side2 A6.out).mono ?_); (case side1 => repeat (first | exact (Kd.C_below HR0.out HB.out) | (with_reducible refine Kd.C_alloc ?_ _) | (with_reducible refine Kd.C_drewN ?_ _) | (with_reducible refine Kd.C_drew ?_))); (case side2 => exact HC0.out); rintro e w' ⟨rfl, ⟨nd, rfl⟩⟩; refine ⟨_, rfl, ?_⟩))
          go_meet
          case rel => exact ⟨_, (true), (by first | rfl | (simp; done) | (simp [*]; done)), H', ⟨by first | omega | exact Nat.le_refl _⟩, ⟨by repeat (first | (with_reducible first | exact HB.out | apply below_alloc | apply pw_below_drewN | apply below_drew1) | exact HB.out)⟩⟩
        · rw [if_neg c8] at H
          have c8b0 : decide (64 < (l0.length : Int)) = false := decide_eq_false c8
          have c8b1 : decide (64 < l0.length) = false := decide_eq_false (by omega)
          clear c8
          (first | rw [c8b0] | (simp only [i64_w, i32_w]; rw [c8b0]) | skip)
          by_cases c9 : a1 < 1
          · rw [if_pos c9] at H
            have c9b0 : decide (a1 < 1) = true := decide_eq_true c9
            clear c9
            have H' := Aside0.mk H
            clear H
            go_wp2_with (first | ((with_reducible refine gate_callee (f := 5) rfl ?_); refine goesL_ (some 17) rfl rfl Try.func5 (by kernel_rfl) rfl #[.slice A0 l0.length c0] rfl (by (try simp only [List.map_toArray, List.map_cons, List.map_nil]); first | done | rfl | (simp only [List.length_drop, List.length_take]; rfl)) ?_; (with_reducible refine (laws_gjRest.calls k _ _ l0 true _ ?side1 ?side2 A6.out).mono ?_); (case side1 => repeat (first | exact (Kd.C_below HR0.out HB.out) | (with_reducible refine Kd.C_alloc ?_ _) | (with_reducible refine Kd.C_drewN ?_ _) | (with_reducible refine Kd.C_drew ?_))); (case side2 => exact HC0.out); rintro e w' ⟨rfl, ⟨nd, rfl⟩⟩; refine ⟨_, rfl, ?_⟩))
            go_meet
            case rel => exact ⟨_, (true), (by first | rfl | (simp; done) | (simp [*]; done)), H', ⟨by first | omega | exact Nat.le_refl _⟩, ⟨by repeat (first | (with_reducible first | exact HB.out | apply below_alloc | apply pw_below_drewN | apply below_drew1) | exact HB.out)⟩⟩
          · rw [if_neg c9] at H
            have c9b0 : decide (a1 < 1) = false := decide_eq_false c9
            clear c9
            have H' := Aside0.mk H
            clear H
            go_wp2_with (first | ((with_reducible refine gate_callee (f := 5) rfl ?_); refine goesL_ (some 17) rfl rfl Try.func5 (by kernel_rfl) rfl #[.slice A0 l0.length c0] rfl (by (try simp only [List.map_toArray, List.map_cons, List.map_nil]); first | done | rfl | (simp only [List.length_drop, List.length_take]; rfl)) ?_; (with_reducible refine (laws_gjRest.calls k _ _ l0 true _ ?side1 ?side2 A6.out).mono ?_); (case side1 => repeat (first | exact (Kd.C_below HR0.out HB.out) | (with_reducible refine Kd.C_alloc ?_ _) | (with_reducible refine Kd.C_drewN ?_ _) | (with_reducible refine Kd.C_drew ?_))); (case side2 => exact HC0.out); rintro e w' ⟨rfl, ⟨nd, rfl⟩⟩; refine ⟨_, rfl, ?_⟩))
            go_meet
            case rel => exact ⟨_, (decide (a1 ≥ (l0.length : Int))), (by first | rfl | (simp; done) | (simp [*]; done)), H', ⟨by first | omega | exact Nat.le_refl _⟩, ⟨by repeat (first | (with_reducible first | exact HB.out | apply below_alloc | apply pw_below_drewN | apply below_drew1) | exact HB.out)⟩⟩
      · replace c7 := Bool.eq_false_iff.mpr c7
        subst c7
        have H1 : (laws_FnGjSplitPipe.j0 k l0 a1 true) = some r := by rw [if_neg (show ¬ (false = true) by decide)] at H; exact H
        clear H
        have H := H1
        clear H1
        have H' := Aside0.mk H
        clear H
        go_wp2_with (first | ((with_reducible refine gate_callee (f := 5) rfl ?_); refine goesL_ (some 17) rfl rfl Try.func5 (by kernel_rfl) rfl #[.slice A0 l0.length c0] rfl (by (try simp only [List.map_toArray, List.map_cons, List.map_nil]); first | done | rfl | (simp only [List.length_drop, List.length_take]; rfl)) ?_; (with_reducible refine (laws_gjRest.calls k _ _ l0 false _ ?side1 ?side2 A6.out).mono ?_); (case side1 => repeat (first | exact (Kd.C_below HR0.out HB.out) | (with_reducible refine Kd.C_alloc ?_ _) | (with_reducible refine Kd.C_drewN ?_ _) | (with_reducible refine Kd.C_drew ?_))); (case side2 => exact HC0.out); rintro e w' ⟨rfl, ⟨nd, rfl⟩⟩; refine ⟨_, rfl, ?_⟩))
        go_meet
        case rel => exact ⟨_, (true), (by first | rfl | (simp; done) | (simp [*]; done)), H', ⟨by first | omega | exact Nat.le_refl _⟩, ⟨by repeat (first | (with_reducible first | exact HB.out | apply below_alloc | apply pw_below_drewN | apply below_drew1) | exact HB.out)⟩⟩
    case rest =>
      clear HC5
      try clear p2
      try clear c3
      try clear c4
      try clear c5
      try clear c7
      try clear c8
      try clear c8b0
      try clear c8b1
      try clear c9
      try clear c9b0
      obtain ⟨kq, x33_4, rfl, HA, HJ4, HB⟩ := hcut
      cases kq with
      | zero => exact absurd HA.out (by simp [laws_FnGjSplitPipe.j0])
      | succ kj4 =>
        have H := HA.out
        clear HA
        simp only [laws_FnGjSplitPipe.j0] at H
        by_cases c10 : x33_4 = true
        · subst c10
          have H1 : (some true) = some r := by rw [if_pos rfl] at H; exact H
          clear H
          have H := H1
          clear H1
          obtain rfl := Option.some.inj H
          go_wp2
          go_ret
          exact ⟨by first | rfl | (simp [errW_none, errW_some] <;> rfl) | (simp [*, errW_none, errW_some] <;> rfl), by repeat (first | (with_reducible first | exact HB.out | apply below_alloc | apply pw_below_drewN | apply below_drew1) | exact HB.out)⟩
        · replace c10 := Bool.eq_false_iff.mpr c10
          subst c10
          have H1 : (if 0 ≤ a1 then (if a1 ≤ (l0.length : Int) then ((spec_PathOf.f kj4 (l0.take (a1 : Int).toNat)).bind fun t128 => ((spec_PathOf.f kj4 (l0.drop (a1 : Int).toNat)).bind fun t130 => (if t128.size + 1 ≤ 9223372036854775807 then (if (t128 ++ (⟨#[124]⟩ : ByteArray)).size + t130.size ≤ 9223372036854775807 then ((impl_GjSplitPipe.f kj4 ((t128 ++ (⟨#[124]⟩ : ByteArray)) ++ t130)).bind fun bt131 => ((impl_GjSplitPipe.f kj4 t128).bind fun bt134 => (if bt131.2.2 = true then (if bt134.2.2 = true then (some false) else (if bt131.1.toList = t128.toList then (some (bt131.2.1.toList == t130.toList)) else (some false))) else (some false)))) else (none)) else (none)))) else (none)) else (none)) = some r := by rw [if_neg (show ¬ (false = true) by decide)] at H; exact H
          clear H
          have H := H1
          clear H1
          by_cases c11 : 0 ≤ a1
          · rw [if_pos c11] at H
            have c11b0 := eq_true c11
            have c11b1 : decide (0 ≤ a1) = true := decide_eq_true c11
            clear c11
            by_cases c12 : a1 ≤ (l0.length : Int)
            · rw [if_pos c12] at H
              have c12b0 := eq_true c12
              have c12b1 : decide (a1 ≤ (l0.length : Int)) = true := decide_eq_true c12
              clear c12
              replace H := Option.bind_eq_some_iff.mp H
              obtain ⟨t128, A130, H⟩ := H
              replace H : ((spec_PathOf.f kj4 (l0.drop (a1 : Int).toNat)).bind fun t130 => (if t128.size + 1 ≤ 9223372036854775807 then (if (t128 ++ (⟨#[124]⟩ : ByteArray)).size + t130.size ≤ 9223372036854775807 then ((impl_GjSplitPipe.f kj4 ((t128 ++ (⟨#[124]⟩ : ByteArray)) ++ t130)).bind fun bt131 => ((impl_GjSplitPipe.f kj4 t128).bind fun bt134 => (if bt131.2.2 = true then (if bt134.2.2 = true then (some false) else (if bt131.1.toList = t128.toList then (some (bt131.2.1.toList == t130.toList)) else (some false))) else (some false)))) else (none)) else (none))) = some r := H
              have A13 := Aside0.mk A130
              clear A130
              have c14b0 := eq_true (of_decide_eq_true (by first | (with_reducible assumption) | assumption) : 0 ≤ a1)
              have c15b0 := eq_true (of_decide_eq_true (by first | (with_reducible assumption) | assumption) : a1 ≤ (l0.length : Int))
              replace H := Option.bind_eq_some_iff.mp H
              obtain ⟨t130, A160, H⟩ := H
              replace H : (if t128.size + 1 ≤ 9223372036854775807 then (if (t128 ++ (⟨#[124]⟩ : ByteArray)).size + t130.size ≤ 9223372036854775807 then ((impl_GjSplitPipe.f kj4 ((t128 ++ (⟨#[124]⟩ : ByteArray)) ++ t130)).bind fun bt131 => ((impl_GjSplitPipe.f kj4 t128).bind fun bt134 => (if bt131.2.2 = true then (if bt134.2.2 = true then (some false) else (if bt131.1.toList = t128.toList then (some (bt131.2.1.toList == t130.toList)) else (some false))) else (some false)))) else (none)) else (none)) = some r := H
              have A16 := Aside0.mk A160
              clear A160
              by_cases c17 : t128.size + 1 ≤ 9223372036854775807
              · rw [if_pos c17] at H
                have c17b0 := eq_true c17
                have c17b1 : decide (t128.size + 1 ≤ 9223372036854775807) = true := decide_eq_true c17
                try have c17b2 : (9223372036854775807 < t128.size + 1) = False := eq_false (Nat.not_lt.2 c17)
                by_cases c18 : (t128 ++ (⟨#[124]⟩ : ByteArray)).size + t130.size ≤ 9223372036854775807
                · rw [if_pos c18] at H
                  have c18b0 := eq_true c18
                  have c18b1 : decide ((t128 ++ (⟨#[124]⟩ : ByteArray)).size + t130.size ≤ 9223372036854775807) = true := decide_eq_true c18
                  try have c18b2 : (9223372036854775807 < (t128 ++ (⟨#[124]⟩ : ByteArray)).size + t130.size) = False := eq_false (Nat.not_lt.2 c18)
                  replace H := Option.bind_eq_some_iff.mp H
                  obtain ⟨⟨t131, t132, t133⟩, A190, H⟩ := H
                  replace H : ((impl_GjSplitPipe.f kj4 t128).bind fun bt134 => (if t133 = true then (if bt134.2.2 = true then (some false) else (if t131.toList = t128.toList then (some (t132.toList == t130.toList)) else (some false))) else (some false))) = some r := H
                  have A19 := Aside0.mk A190
                  clear A190
                  replace H := Option.bind_eq_some_iff.mp H
                  obtain ⟨⟨t134, t135, t136⟩, A200, H⟩ := H
                  replace H : (if t133 = true then (if t136 = true then (some false) else (if t131.toList = t128.toList then (some (t132.toList == t130.toList)) else (some false))) else (some false)) = some r := H
                  have A20 := Aside0.mk A200
                  clear A200
                  by_cases c21 : t133 = true
                  · subst c21
                    have H1 : (if t136 = true then (some false) else (if t131.toList = t128.toList then (some (t132.toList == t130.toList)) else (some false))) = some r := by rw [if_pos rfl] at H; exact H
                    clear H
                    have H := H1
                    clear H1
                    by_cases c22 : t136 = true
                    · subst c22
                      have H1 : (some false) = some r := by rw [if_pos rfl] at H; exact H
                      clear H
                      have H := H1
                      clear H1
                      obtain rfl := Option.some.inj H
                      try go_wp2
                      have n0_ := Aside0.mk (below_drew1 HB.out)
                      clear HB
                      have HB := n0_
                      clear n0_
                      obtain ⟨i024, hi024, _, hsz24, _⟩ := info_parts info9
                      obtain ⟨hcut24, hA24, hC24⟩ := print_take_of (P := Try.prog) Value.string (⟨#[]⟩ : ByteArray) 22 9 .i64 Try.underlying22 hi024 hsz24 A0 c0 l0 a1 (of_decide_eq_true (by first | (with_reducible assumption) | assumption)) (of_decide_eq_true (by first | (with_reducible assumption) | assumption)) HC0.out
                      have HR127 := Aside0.mk (Kd.C_of_reads (h1 := fun _ => rfl) (hA24 _ (Kd.reads_of_C HR0.out)))
                      have HC127 := Aside0.mk hC24
                      clear hA24 hC24 hi024 hsz24
                      obtain ⟨i025, hi025, _, hsz25, _⟩ := info_parts info9
                      obtain ⟨A25, hcut25, hA25, hC25⟩ := print_drop_of (P := Try.prog) Value.string (⟨#[]⟩ : ByteArray) 22 9 .i64 Try.underlying22 hi025 hsz25 A0 c0 l0 a1 (of_decide_eq_true (by first | (with_reducible assumption) | assumption)) (of_decide_eq_true (by first | (with_reducible assumption) | assumption)) HC0.out
                      have HR129 := Aside0.mk (Kd.C_of_reads (h1 := fun _ => rfl) (hA25 _ (Kd.reads_of_C HR0.out)))
                      have HC129 := Aside0.mk hC25
                      clear hA25 hC25 hi025 hsz25
                      refine start_ (n := 10) (S := fun w' => True) (ds := []) #[false, false, false, false, false, false, false, false, false, false] (by kernel_rfl) rfl rfl trivial (fun hHeld => ?_); refine with_tabW laws_FnGjSplitPipe.tab5 laws_FnGjSplitPipe.bits5 (fun HT_ HW_ => ?_)
                      generalize wc.drew = w23 at HB HR127 HR129 hHeld ⊢
                      refine pure_ (i := 0) (N := some 34) (v := ?_) (a' := ?_) #[true, false, false, false, false, false, false, false, false, false] rfl rfl (any_of HT_.out (by kernel_rfl)) (fun _ _ _ h => h) (Or.inl ⟨by rfl, ?_⟩) ?_ ?_
                      rotate_left
                      · intro w'
                        go_simp
                        with_reducible rfl
                      rotate_left
                      · simp only [Act.put, List.setIfInBounds_toArray, List.set_cons_zero, List.set_cons_succ, i64_w, i32_w]
                        rfl
                      refine pure_ (i := 1) (N := some 35) (v := ?_) (a' := ?_) #[true, true, false, false, false, false, false, false, false, false] rfl rfl (any_of HT_.out (by kernel_rfl)) (fun _ _ _ h => h) (Or.inl ⟨by rfl, ?_⟩) ?_ ?_
                      rotate_left
                      · intro w'
                        go_simp
                        with_reducible rfl
                      rotate_left
                      · simp only [Act.put, List.setIfInBounds_toArray, List.set_cons_zero, List.set_cons_succ, i64_w, i32_w]
                        rfl
                      refine pure_ (i := 2) (N := some 36) (v := ?_) (a' := ?_) #[true, true, true, false, false, false, false, false, false, false] rfl rfl (any_of HT_.out (by kernel_rfl)) (fun _ _ _ h => h) (Or.inl ⟨by rfl, ?_⟩) ?_ ?_
                      rotate_left
                      · intro w'
                        go_simp
                        with_reducible rfl
                      rotate_left
                      · simp only [Act.put, List.setIfInBounds_toArray, List.set_cons_zero, List.set_cons_succ, i64_w, i32_w]
                        rfl
                      refine pure_ (i := 4) (N := some 38) (v := ?_) (a' := ?_) #[true, true, true, false, true, false, false, false, false, false] rfl rfl (any_of HT_.out (by kernel_rfl)) (fun _ _ _ h => h) (Or.inl ⟨by rfl, ?_⟩) ?_ ?_
                      rotate_left
                      · intro w'
                        go_simp
                        with_reducible rfl
                      rotate_left
                      · simp only [Act.put, List.setIfInBounds_toArray, List.set_cons_zero, List.set_cons_succ, i64_w, i32_w]
                        rfl
                      refine pure_ (i := 5) (N := some 39) (v := ?_) (a' := ?_) #[true, true, true, false, true, true, false, false, false, false] rfl rfl (any_of HT_.out (by kernel_rfl)) (fun _ _ _ h => h) (Or.inl ⟨by rfl, ?_⟩) ?_ ?_
                      rotate_left
                      · intro w'
                        go_simp
                        with_reducible rfl
                      rotate_left
                      · simp only [Act.put, List.setIfInBounds_toArray, List.set_cons_zero, List.set_cons_succ, i64_w, i32_w]
                        rfl
                      refine pure_ (i := 6) (N := some 40) (v := ?_) (a' := ?_) #[true, true, true, false, true, true, true, false, false, false] rfl rfl (any_of HT_.out (by kernel_rfl)) (fun _ _ _ h => h) (Or.inl ⟨by rfl, ?_⟩) ?_ ?_
                      rotate_left
                      · intro w'
                        go_simp
                        with_reducible rfl
                      rotate_left
                      · simp only [Act.put, List.setIfInBounds_toArray, List.set_cons_zero, List.set_cons_succ, i64_w, i32_w]
                        rfl
                      refine one_ (i := 3) (N := some 37) #[true, true, true, true, true, true, true, false, false, false] rfl rfl (one_of HT_.out (by kernel_rfl)) (by decide) (fun K hK => ?_)
                      refine goes_ Try.func6 (by kernel_rfl) rfl #[.slice A0 (l0.take (a1 : Int).toNat).length c0] (by rfl) rfl rfl (by (try simp only [List.map_toArray, List.map_cons, List.map_nil]); first | done | (rw [show (l0.take (a1 : Int).toNat).length = a1.toNat from (by rw [List.length_take]; have h_ : (a1 : Int) ≤ (l0.length : Int) := of_decide_eq_true (by first | (with_reducible assumption) | assumption); omega)] <;> rfl) | rfl | (simp only [List.length_drop, List.length_take]; rfl)) ?_
                      with_reducible refine (spec_PathOf.calls kj4 _ _ (l0.take (a1 : Int).toNat) t128 _ ?side1 ?side2 A13.out).mono ?_
                      (case side1 => repeat (first | exact (Kd.C_below HR127.out HB.out) | (with_reducible refine Kd.C_alloc ?_ _) | (with_reducible refine Kd.C_drewN ?_ _) | (with_reducible refine Kd.C_drew ?_)))
                      (case side2 => exact HC127.out)
                      rintro e w26 ⟨rfl, hb⟩
                      refine ⟨_, rfl, ?_⟩
                      have n0_ := Aside0.mk (below_step (by repeat (first | (with_reducible first | exact HB.out | apply below_alloc | apply pw_below_drewN | apply below_drew1) | exact HB.out)) hb)
                      clear HB
                      have HB := n0_
                      clear n0_
                      (try clear hb)
                      (try clear hb2)
                      (try clear hk)
                      (try clear hi)
                      refine hK.out _ _ trivial (fun hHeld => ?_)
                      clear hK K
                      refine norm_ (a' := ?_) ?_ ?_
                      rotate_left
                      · show Act.put _ (some 37) _ = _
                        simp only [Act.put, List.setIfInBounds_toArray, List.set_cons_zero, List.set_cons_succ, i64_w, i32_w]
                        rfl
                      refine one_ (i := 7) (N := some 41) #[true, true, true, true, true, true, true, true, false, false] rfl rfl (one_of HT_.out (by kernel_rfl)) (by decide) (fun K hK => ?_)
                      refine goes_ Try.func6 (by kernel_rfl) rfl #[.slice A25 (l0.drop (a1 : Int).toNat).length (c0 - a1.toNat)] (by rfl) rfl rfl (by (try simp only [List.map_toArray, List.map_cons, List.map_nil]); first | done | (rw [show (l0.drop (a1 : Int).toNat).length = (l0.length - a1.toNat) from List.length_drop] <;> rfl) | rfl | (simp only [List.length_drop, List.length_take]; rfl)) ?_
                      with_reducible refine (spec_PathOf.calls kj4 _ _ (l0.drop (a1 : Int).toNat) t130 _ ?side1 ?side2 A16.out).mono ?_
                      (case side1 => repeat (first | exact (Kd.C_below HR129.out HB.out) | (with_reducible refine Kd.C_alloc ?_ _) | (with_reducible refine Kd.C_drewN ?_ _) | (with_reducible refine Kd.C_drew ?_)))
                      (case side2 => exact HC129.out)
                      rintro e w27 ⟨rfl, hb⟩
                      refine ⟨_, rfl, ?_⟩
                      have n0_ := Aside0.mk (below_step (by repeat (first | (with_reducible first | exact HB.out | apply below_alloc | apply pw_below_drewN | apply below_drew1) | exact HB.out)) hb)
                      clear HB
                      have HB := n0_
                      clear n0_
                      (try clear hb)
                      (try clear hb2)
                      (try clear hk)
                      (try clear hi)
                      refine hK.out _ _ trivial (fun hHeld => ?_)
                      clear hK K
                      refine norm_ (a' := ?_) ?_ ?_
                      rotate_left
                      · show Act.put _ (some 41) _ = _
                        simp only [Act.put, List.setIfInBounds_toArray, List.set_cons_zero, List.set_cons_succ, i64_w, i32_w]
                        rfl
                      refine pure_ (i := 8) (N := some 5) (v := ?_) (a' := ?_) #[true, true, true, true, true, true, true, true, true, false] rfl rfl (any_of HT_.out (by kernel_rfl)) (fun _ _ _ h => h) (Or.inl ⟨by rfl, ?_⟩) ?_ ?_
                      rotate_left
                      · intro w'
                        go_simp
                        with_reducible rfl
                      rotate_left
                      · simp only [Act.put, List.setIfInBounds_toArray, List.set_cons_zero, List.set_cons_succ, i64_w, i32_w]
                        rfl
                      refine pure_ (i := 9) (N := some 6) (v := ?_) (a' := ?_) #[true, true, true, true, true, true, true, true, true, true] rfl rfl (any_of HT_.out (by kernel_rfl)) (fun _ _ _ h => h) (Or.inl ⟨by rfl, ?_⟩) ?_ ?_
                      rotate_left
                      · intro w'
                        go_simp
                        with_reducible rfl
                      rotate_left
                      · simp only [Act.put, List.setIfInBounds_toArray, List.set_cons_zero, List.set_cons_succ, i64_w, i32_w]
                        rfl
                      refine done_ (done_of HT_.out (by kernel_rfl)) ?_
                      try go_wp2_with (first | ((with_reducible refine gate_callee (f := 7) rfl ?_); refine goesL_ (some 47) rfl rfl Try.func7 (by kernel_rfl) rfl #[.string ((t128 ++ (⟨#[124]⟩ : ByteArray)) ++ t130)] rfl (by (try simp only [List.map_toArray, List.map_cons, List.map_nil]); first | done | rfl | (simp only [List.length_drop, List.length_take]; rfl)) ?_; (with_reducible refine (impl_GjSplitPipe.calls kj4 ((t128 ++ (⟨#[124]⟩ : ByteArray)) ++ t130) t131 t132 true _ A19.out).mono ?_); rintro e w' ⟨rfl, ⟨nd, rfl⟩⟩; refine ⟨_, rfl, ?_⟩) | ((with_reducible refine gate_callee (f := 7) rfl ?_); refine goesL_ (some 53) rfl rfl Try.func7 (by kernel_rfl) rfl #[.string t128] rfl (by (try simp only [List.map_toArray, List.map_cons, List.map_nil]); first | done | rfl | (simp only [List.length_drop, List.length_take]; rfl)) ?_; (with_reducible refine (impl_GjSplitPipe.calls kj4 t128 t134 t135 true _ A20.out).mono ?_); rintro e w' ⟨rfl, ⟨nd, rfl⟩⟩; refine ⟨_, rfl, ?_⟩))
                      go_ret
                      exact ⟨by first | rfl | (simp [errW_none, errW_some] <;> rfl) | (simp [*, errW_none, errW_some] <;> rfl), by repeat (first | (with_reducible first | exact HB.out | apply below_alloc | apply pw_below_drewN | apply below_drew1) | exact HB.out)⟩
                    · replace c22 := Bool.eq_false_iff.mpr c22
                      subst c22
                      have H1 : (if t131.toList = t128.toList then (some (t132.toList == t130.toList)) else (some false)) = some r := by rw [if_neg (show ¬ (false = true) by decide)] at H; exact H
                      clear H
                      have H := H1
                      clear H1
                      by_cases c28 : t131.toList = t128.toList
                      · rw [if_pos c28] at H
                        have c28b0 : (t131.toList == t128.toList) = true := beq_iff_eq.mpr c28
                        have c28b1 : (t131.toList != t128.toList) = false := bne_eq_false_iff_eq.mpr c28
                        clear c28
                        obtain rfl := Option.some.inj H
                        try go_wp2
                        have n0_ := Aside0.mk (below_drew1 HB.out)
                        clear HB
                        have HB := n0_
                        clear n0_
                        obtain ⟨i030, hi030, _, hsz30, _⟩ := info_parts info9
                        obtain ⟨hcut30, hA30, hC30⟩ := print_take_of (P := Try.prog) Value.string (⟨#[]⟩ : ByteArray) 22 9 .i64 Try.underlying22 hi030 hsz30 A0 c0 l0 a1 (of_decide_eq_true (by first | (with_reducible assumption) | assumption)) (of_decide_eq_true (by first | (with_reducible assumption) | assumption)) HC0.out
                        have HR127 := Aside0.mk (Kd.C_of_reads (h1 := fun _ => rfl) (hA30 _ (Kd.reads_of_C HR0.out)))
                        have HC127 := Aside0.mk hC30
                        clear hA30 hC30 hi030 hsz30
                        obtain ⟨i031, hi031, _, hsz31, _⟩ := info_parts info9
                        obtain ⟨A31, hcut31, hA31, hC31⟩ := print_drop_of (P := Try.prog) Value.string (⟨#[]⟩ : ByteArray) 22 9 .i64 Try.underlying22 hi031 hsz31 A0 c0 l0 a1 (of_decide_eq_true (by first | (with_reducible assumption) | assumption)) (of_decide_eq_true (by first | (with_reducible assumption) | assumption)) HC0.out
                        have HR129 := Aside0.mk (Kd.C_of_reads (h1 := fun _ => rfl) (hA31 _ (Kd.reads_of_C HR0.out)))
                        have HC129 := Aside0.mk hC31
                        clear hA31 hC31 hi031 hsz31
                        refine start_ (n := 10) (S := fun w' => True) (ds := []) #[false, false, false, false, false, false, false, false, false, false] (by kernel_rfl) rfl rfl trivial (fun hHeld => ?_); refine with_tabW laws_FnGjSplitPipe.tab5 laws_FnGjSplitPipe.bits5 (fun HT_ HW_ => ?_)
                        generalize wc.drew = w29 at HB HR127 HR129 hHeld ⊢
                        refine pure_ (i := 0) (N := some 34) (v := ?_) (a' := ?_) #[true, false, false, false, false, false, false, false, false, false] rfl rfl (any_of HT_.out (by kernel_rfl)) (fun _ _ _ h => h) (Or.inl ⟨by rfl, ?_⟩) ?_ ?_
                        rotate_left
                        · intro w'
                          go_simp
                          with_reducible rfl
                        rotate_left
                        · simp only [Act.put, List.setIfInBounds_toArray, List.set_cons_zero, List.set_cons_succ, i64_w, i32_w]
                          rfl
                        refine pure_ (i := 1) (N := some 35) (v := ?_) (a' := ?_) #[true, true, false, false, false, false, false, false, false, false] rfl rfl (any_of HT_.out (by kernel_rfl)) (fun _ _ _ h => h) (Or.inl ⟨by rfl, ?_⟩) ?_ ?_
                        rotate_left
                        · intro w'
                          go_simp
                          with_reducible rfl
                        rotate_left
                        · simp only [Act.put, List.setIfInBounds_toArray, List.set_cons_zero, List.set_cons_succ, i64_w, i32_w]
                          rfl
                        refine pure_ (i := 2) (N := some 36) (v := ?_) (a' := ?_) #[true, true, true, false, false, false, false, false, false, false] rfl rfl (any_of HT_.out (by kernel_rfl)) (fun _ _ _ h => h) (Or.inl ⟨by rfl, ?_⟩) ?_ ?_
                        rotate_left
                        · intro w'
                          go_simp
                          with_reducible rfl
                        rotate_left
                        · simp only [Act.put, List.setIfInBounds_toArray, List.set_cons_zero, List.set_cons_succ, i64_w, i32_w]
                          rfl
                        refine pure_ (i := 4) (N := some 38) (v := ?_) (a' := ?_) #[true, true, true, false, true, false, false, false, false, false] rfl rfl (any_of HT_.out (by kernel_rfl)) (fun _ _ _ h => h) (Or.inl ⟨by rfl, ?_⟩) ?_ ?_
                        rotate_left
                        · intro w'
                          go_simp
                          with_reducible rfl
                        rotate_left
                        · simp only [Act.put, List.setIfInBounds_toArray, List.set_cons_zero, List.set_cons_succ, i64_w, i32_w]
                          rfl
                        refine pure_ (i := 5) (N := some 39) (v := ?_) (a' := ?_) #[true, true, true, false, true, true, false, false, false, false] rfl rfl (any_of HT_.out (by kernel_rfl)) (fun _ _ _ h => h) (Or.inl ⟨by rfl, ?_⟩) ?_ ?_
                        rotate_left
                        · intro w'
                          go_simp
                          with_reducible rfl
                        rotate_left
                        · simp only [Act.put, List.setIfInBounds_toArray, List.set_cons_zero, List.set_cons_succ, i64_w, i32_w]
                          rfl
                        refine pure_ (i := 6) (N := some 40) (v := ?_) (a' := ?_) #[true, true, true, false, true, true, true, false, false, false] rfl rfl (any_of HT_.out (by kernel_rfl)) (fun _ _ _ h => h) (Or.inl ⟨by rfl, ?_⟩) ?_ ?_
                        rotate_left
                        · intro w'
                          go_simp
                          with_reducible rfl
                        rotate_left
                        · simp only [Act.put, List.setIfInBounds_toArray, List.set_cons_zero, List.set_cons_succ, i64_w, i32_w]
                          rfl
                        refine one_ (i := 3) (N := some 37) #[true, true, true, true, true, true, true, false, false, false] rfl rfl (one_of HT_.out (by kernel_rfl)) (by decide) (fun K hK => ?_)
                        refine goes_ Try.func6 (by kernel_rfl) rfl #[.slice A0 (l0.take (a1 : Int).toNat).length c0] (by rfl) rfl rfl (by (try simp only [List.map_toArray, List.map_cons, List.map_nil]); first | done | (rw [show (l0.take (a1 : Int).toNat).length = a1.toNat from (by rw [List.length_take]; have h_ : (a1 : Int) ≤ (l0.length : Int) := of_decide_eq_true (by first | (with_reducible assumption) | assumption); omega)] <;> rfl) | rfl | (simp only [List.length_drop, List.length_take]; rfl)) ?_
                        with_reducible refine (spec_PathOf.calls kj4 _ _ (l0.take (a1 : Int).toNat) t128 _ ?side1 ?side2 A13.out).mono ?_
                        (case side1 => repeat (first | exact (Kd.C_below HR127.out HB.out) | (with_reducible refine Kd.C_alloc ?_ _) | (with_reducible refine Kd.C_drewN ?_ _) | (with_reducible refine Kd.C_drew ?_)))
                        (case side2 => exact HC127.out)
                        rintro e w32 ⟨rfl, hb⟩
                        refine ⟨_, rfl, ?_⟩
                        have n0_ := Aside0.mk (below_step (by repeat (first | (with_reducible first | exact HB.out | apply below_alloc | apply pw_below_drewN | apply below_drew1) | exact HB.out)) hb)
                        clear HB
                        have HB := n0_
                        clear n0_
                        (try clear hb)
                        (try clear hb2)
                        (try clear hk)
                        (try clear hi)
                        refine hK.out _ _ trivial (fun hHeld => ?_)
                        clear hK K
                        refine norm_ (a' := ?_) ?_ ?_
                        rotate_left
                        · show Act.put _ (some 37) _ = _
                          simp only [Act.put, List.setIfInBounds_toArray, List.set_cons_zero, List.set_cons_succ, i64_w, i32_w]
                          rfl
                        refine one_ (i := 7) (N := some 41) #[true, true, true, true, true, true, true, true, false, false] rfl rfl (one_of HT_.out (by kernel_rfl)) (by decide) (fun K hK => ?_)
                        refine goes_ Try.func6 (by kernel_rfl) rfl #[.slice A31 (l0.drop (a1 : Int).toNat).length (c0 - a1.toNat)] (by rfl) rfl rfl (by (try simp only [List.map_toArray, List.map_cons, List.map_nil]); first | done | (rw [show (l0.drop (a1 : Int).toNat).length = (l0.length - a1.toNat) from List.length_drop] <;> rfl) | rfl | (simp only [List.length_drop, List.length_take]; rfl)) ?_
                        with_reducible refine (spec_PathOf.calls kj4 _ _ (l0.drop (a1 : Int).toNat) t130 _ ?side1 ?side2 A16.out).mono ?_
                        (case side1 => repeat (first | exact (Kd.C_below HR129.out HB.out) | (with_reducible refine Kd.C_alloc ?_ _) | (with_reducible refine Kd.C_drewN ?_ _) | (with_reducible refine Kd.C_drew ?_)))
                        (case side2 => exact HC129.out)
                        rintro e w33 ⟨rfl, hb⟩
                        refine ⟨_, rfl, ?_⟩
                        have n0_ := Aside0.mk (below_step (by repeat (first | (with_reducible first | exact HB.out | apply below_alloc | apply pw_below_drewN | apply below_drew1) | exact HB.out)) hb)
                        clear HB
                        have HB := n0_
                        clear n0_
                        (try clear hb)
                        (try clear hb2)
                        (try clear hk)
                        (try clear hi)
                        refine hK.out _ _ trivial (fun hHeld => ?_)
                        clear hK K
                        refine norm_ (a' := ?_) ?_ ?_
                        rotate_left
                        · show Act.put _ (some 41) _ = _
                          simp only [Act.put, List.setIfInBounds_toArray, List.set_cons_zero, List.set_cons_succ, i64_w, i32_w]
                          rfl
                        refine pure_ (i := 8) (N := some 5) (v := ?_) (a' := ?_) #[true, true, true, true, true, true, true, true, true, false] rfl rfl (any_of HT_.out (by kernel_rfl)) (fun _ _ _ h => h) (Or.inl ⟨by rfl, ?_⟩) ?_ ?_
                        rotate_left
                        · intro w'
                          go_simp
                          with_reducible rfl
                        rotate_left
                        · simp only [Act.put, List.setIfInBounds_toArray, List.set_cons_zero, List.set_cons_succ, i64_w, i32_w]
                          rfl
                        refine pure_ (i := 9) (N := some 6) (v := ?_) (a' := ?_) #[true, true, true, true, true, true, true, true, true, true] rfl rfl (any_of HT_.out (by kernel_rfl)) (fun _ _ _ h => h) (Or.inl ⟨by rfl, ?_⟩) ?_ ?_
                        rotate_left
                        · intro w'
                          go_simp
                          with_reducible rfl
                        rotate_left
                        · simp only [Act.put, List.setIfInBounds_toArray, List.set_cons_zero, List.set_cons_succ, i64_w, i32_w]
                          rfl
                        refine done_ (done_of HT_.out (by kernel_rfl)) ?_
                        try go_wp2_with (first | ((with_reducible refine gate_callee (f := 7) rfl ?_); refine goesL_ (some 47) rfl rfl Try.func7 (by kernel_rfl) rfl #[.string ((t128 ++ (⟨#[124]⟩ : ByteArray)) ++ t130)] rfl (by (try simp only [List.map_toArray, List.map_cons, List.map_nil]); first | done | rfl | (simp only [List.length_drop, List.length_take]; rfl)) ?_; (with_reducible refine (impl_GjSplitPipe.calls kj4 ((t128 ++ (⟨#[124]⟩ : ByteArray)) ++ t130) t131 t132 true _ A19.out).mono ?_); rintro e w' ⟨rfl, ⟨nd, rfl⟩⟩; refine ⟨_, rfl, ?_⟩) | ((with_reducible refine gate_callee (f := 7) rfl ?_); refine goesL_ (some 53) rfl rfl Try.func7 (by kernel_rfl) rfl #[.string t128] rfl (by (try simp only [List.map_toArray, List.map_cons, List.map_nil]); first | done | rfl | (simp only [List.length_drop, List.length_take]; rfl)) ?_; (with_reducible refine (impl_GjSplitPipe.calls kj4 t128 t134 t135 false _ A20.out).mono ?_); rintro e w' ⟨rfl, ⟨nd, rfl⟩⟩; refine ⟨_, rfl, ?_⟩))
                        go_ret
                        exact ⟨by first | rfl | (simp [errW_none, errW_some] <;> rfl) | (simp [*, errW_none, errW_some] <;> rfl), by repeat (first | (with_reducible first | exact HB.out | apply below_alloc | apply pw_below_drewN | apply below_drew1) | exact HB.out)⟩
                      · rw [if_neg c28] at H
                        have c28b0 : (t131.toList == t128.toList) = false := beq_eq_false_iff_ne.mpr c28
                        have c28b1 : (t131.toList != t128.toList) = true := bne_iff_ne.mpr c28
                        obtain rfl := Option.some.inj H
                        try go_wp2
                        have n0_ := Aside0.mk (below_drew1 HB.out)
                        clear HB
                        have HB := n0_
                        clear n0_
                        obtain ⟨i035, hi035, _, hsz35, _⟩ := info_parts info9
                        obtain ⟨hcut35, hA35, hC35⟩ := print_take_of (P := Try.prog) Value.string (⟨#[]⟩ : ByteArray) 22 9 .i64 Try.underlying22 hi035 hsz35 A0 c0 l0 a1 (of_decide_eq_true (by first | (with_reducible assumption) | assumption)) (of_decide_eq_true (by first | (with_reducible assumption) | assumption)) HC0.out
                        have HR127 := Aside0.mk (Kd.C_of_reads (h1 := fun _ => rfl) (hA35 _ (Kd.reads_of_C HR0.out)))
                        have HC127 := Aside0.mk hC35
                        clear hA35 hC35 hi035 hsz35
                        obtain ⟨i036, hi036, _, hsz36, _⟩ := info_parts info9
                        obtain ⟨A36, hcut36, hA36, hC36⟩ := print_drop_of (P := Try.prog) Value.string (⟨#[]⟩ : ByteArray) 22 9 .i64 Try.underlying22 hi036 hsz36 A0 c0 l0 a1 (of_decide_eq_true (by first | (with_reducible assumption) | assumption)) (of_decide_eq_true (by first | (with_reducible assumption) | assumption)) HC0.out
                        have HR129 := Aside0.mk (Kd.C_of_reads (h1 := fun _ => rfl) (hA36 _ (Kd.reads_of_C HR0.out)))
                        have HC129 := Aside0.mk hC36
                        clear hA36 hC36 hi036 hsz36
                        refine start_ (n := 10) (S := fun w' => True) (ds := []) #[false, false, false, false, false, false, false, false, false, false] (by kernel_rfl) rfl rfl trivial (fun hHeld => ?_); refine with_tabW laws_FnGjSplitPipe.tab5 laws_FnGjSplitPipe.bits5 (fun HT_ HW_ => ?_)
                        generalize wc.drew = w34 at HB HR127 HR129 hHeld ⊢
                        refine pure_ (i := 0) (N := some 34) (v := ?_) (a' := ?_) #[true, false, false, false, false, false, false, false, false, false] rfl rfl (any_of HT_.out (by kernel_rfl)) (fun _ _ _ h => h) (Or.inl ⟨by rfl, ?_⟩) ?_ ?_
                        rotate_left
                        · intro w'
                          go_simp
                          with_reducible rfl
                        rotate_left
                        · simp only [Act.put, List.setIfInBounds_toArray, List.set_cons_zero, List.set_cons_succ, i64_w, i32_w]
                          rfl
                        refine pure_ (i := 1) (N := some 35) (v := ?_) (a' := ?_) #[true, true, false, false, false, false, false, false, false, false] rfl rfl (any_of HT_.out (by kernel_rfl)) (fun _ _ _ h => h) (Or.inl ⟨by rfl, ?_⟩) ?_ ?_
                        rotate_left
                        · intro w'
                          go_simp
                          with_reducible rfl
                        rotate_left
                        · simp only [Act.put, List.setIfInBounds_toArray, List.set_cons_zero, List.set_cons_succ, i64_w, i32_w]
                          rfl
                        refine pure_ (i := 2) (N := some 36) (v := ?_) (a' := ?_) #[true, true, true, false, false, false, false, false, false, false] rfl rfl (any_of HT_.out (by kernel_rfl)) (fun _ _ _ h => h) (Or.inl ⟨by rfl, ?_⟩) ?_ ?_
                        rotate_left
                        · intro w'
                          go_simp
                          with_reducible rfl
                        rotate_left
                        · simp only [Act.put, List.setIfInBounds_toArray, List.set_cons_zero, List.set_cons_succ, i64_w, i32_w]
                          rfl
                        refine pure_ (i := 4) (N := some 38) (v := ?_) (a' := ?_) #[true, true, true, false, true, false, false, false, false, false] rfl rfl (any_of HT_.out (by kernel_rfl)) (fun _ _ _ h => h) (Or.inl ⟨by rfl, ?_⟩) ?_ ?_
                        rotate_left
                        · intro w'
                          go_simp
                          with_reducible rfl
                        rotate_left
                        · simp only [Act.put, List.setIfInBounds_toArray, List.set_cons_zero, List.set_cons_succ, i64_w, i32_w]
                          rfl
                        refine pure_ (i := 5) (N := some 39) (v := ?_) (a' := ?_) #[true, true, true, false, true, true, false, false, false, false] rfl rfl (any_of HT_.out (by kernel_rfl)) (fun _ _ _ h => h) (Or.inl ⟨by rfl, ?_⟩) ?_ ?_
                        rotate_left
                        · intro w'
                          go_simp
                          with_reducible rfl
                        rotate_left
                        · simp only [Act.put, List.setIfInBounds_toArray, List.set_cons_zero, List.set_cons_succ, i64_w, i32_w]
                          rfl
                        refine pure_ (i := 6) (N := some 40) (v := ?_) (a' := ?_) #[true, true, true, false, true, true, true, false, false, false] rfl rfl (any_of HT_.out (by kernel_rfl)) (fun _ _ _ h => h) (Or.inl ⟨by rfl, ?_⟩) ?_ ?_
                        rotate_left
                        · intro w'
                          go_simp
                          with_reducible rfl
                        rotate_left
                        · simp only [Act.put, List.setIfInBounds_toArray, List.set_cons_zero, List.set_cons_succ, i64_w, i32_w]
                          rfl
                        refine one_ (i := 3) (N := some 37) #[true, true, true, true, true, true, true, false, false, false] rfl rfl (one_of HT_.out (by kernel_rfl)) (by decide) (fun K hK => ?_)
                        refine goes_ Try.func6 (by kernel_rfl) rfl #[.slice A0 (l0.take (a1 : Int).toNat).length c0] (by rfl) rfl rfl (by (try simp only [List.map_toArray, List.map_cons, List.map_nil]); first | done | (rw [show (l0.take (a1 : Int).toNat).length = a1.toNat from (by rw [List.length_take]; have h_ : (a1 : Int) ≤ (l0.length : Int) := of_decide_eq_true (by first | (with_reducible assumption) | assumption); omega)] <;> rfl) | rfl | (simp only [List.length_drop, List.length_take]; rfl)) ?_
                        with_reducible refine (spec_PathOf.calls kj4 _ _ (l0.take (a1 : Int).toNat) t128 _ ?side1 ?side2 A13.out).mono ?_
                        (case side1 => repeat (first | exact (Kd.C_below HR127.out HB.out) | (with_reducible refine Kd.C_alloc ?_ _) | (with_reducible refine Kd.C_drewN ?_ _) | (with_reducible refine Kd.C_drew ?_)))
                        (case side2 => exact HC127.out)
                        rintro e w37 ⟨rfl, hb⟩
                        refine ⟨_, rfl, ?_⟩
                        have n0_ := Aside0.mk (below_step (by repeat (first | (with_reducible first | exact HB.out | apply below_alloc | apply pw_below_drewN | apply below_drew1) | exact HB.out)) hb)
                        clear HB
                        have HB := n0_
                        clear n0_
                        (try clear hb)
                        (try clear hb2)
                        (try clear hk)
                        (try clear hi)
                        refine hK.out _ _ trivial (fun hHeld => ?_)
                        clear hK K
                        refine norm_ (a' := ?_) ?_ ?_
                        rotate_left
                        · show Act.put _ (some 37) _ = _
                          simp only [Act.put, List.setIfInBounds_toArray, List.set_cons_zero, List.set_cons_succ, i64_w, i32_w]
                          rfl
                        refine one_ (i := 7) (N := some 41) #[true, true, true, true, true, true, true, true, false, false] rfl rfl (one_of HT_.out (by kernel_rfl)) (by decide) (fun K hK => ?_)
                        refine goes_ Try.func6 (by kernel_rfl) rfl #[.slice A36 (l0.drop (a1 : Int).toNat).length (c0 - a1.toNat)] (by rfl) rfl rfl (by (try simp only [List.map_toArray, List.map_cons, List.map_nil]); first | done | (rw [show (l0.drop (a1 : Int).toNat).length = (l0.length - a1.toNat) from List.length_drop] <;> rfl) | rfl | (simp only [List.length_drop, List.length_take]; rfl)) ?_
                        with_reducible refine (spec_PathOf.calls kj4 _ _ (l0.drop (a1 : Int).toNat) t130 _ ?side1 ?side2 A16.out).mono ?_
                        (case side1 => repeat (first | exact (Kd.C_below HR129.out HB.out) | (with_reducible refine Kd.C_alloc ?_ _) | (with_reducible refine Kd.C_drewN ?_ _) | (with_reducible refine Kd.C_drew ?_)))
                        (case side2 => exact HC129.out)
                        rintro e w38 ⟨rfl, hb⟩
                        refine ⟨_, rfl, ?_⟩
                        have n0_ := Aside0.mk (below_step (by repeat (first | (with_reducible first | exact HB.out | apply below_alloc | apply pw_below_drewN | apply below_drew1) | exact HB.out)) hb)
                        clear HB
                        have HB := n0_
                        clear n0_
                        (try clear hb)
                        (try clear hb2)
                        (try clear hk)
                        (try clear hi)
                        refine hK.out _ _ trivial (fun hHeld => ?_)
                        clear hK K
                        refine norm_ (a' := ?_) ?_ ?_
                        rotate_left
                        · show Act.put _ (some 41) _ = _
                          simp only [Act.put, List.setIfInBounds_toArray, List.set_cons_zero, List.set_cons_succ, i64_w, i32_w]
                          rfl
                        refine pure_ (i := 8) (N := some 5) (v := ?_) (a' := ?_) #[true, true, true, true, true, true, true, true, true, false] rfl rfl (any_of HT_.out (by kernel_rfl)) (fun _ _ _ h => h) (Or.inl ⟨by rfl, ?_⟩) ?_ ?_
                        rotate_left
                        · intro w'
                          go_simp
                          with_reducible rfl
                        rotate_left
                        · simp only [Act.put, List.setIfInBounds_toArray, List.set_cons_zero, List.set_cons_succ, i64_w, i32_w]
                          rfl
                        refine pure_ (i := 9) (N := some 6) (v := ?_) (a' := ?_) #[true, true, true, true, true, true, true, true, true, true] rfl rfl (any_of HT_.out (by kernel_rfl)) (fun _ _ _ h => h) (Or.inl ⟨by rfl, ?_⟩) ?_ ?_
                        rotate_left
                        · intro w'
                          go_simp
                          with_reducible rfl
                        rotate_left
                        · simp only [Act.put, List.setIfInBounds_toArray, List.set_cons_zero, List.set_cons_succ, i64_w, i32_w]
                          rfl
                        refine done_ (done_of HT_.out (by kernel_rfl)) ?_
                        try go_wp2_with (first | ((with_reducible refine gate_callee (f := 7) rfl ?_); refine goesL_ (some 47) rfl rfl Try.func7 (by kernel_rfl) rfl #[.string ((t128 ++ (⟨#[124]⟩ : ByteArray)) ++ t130)] rfl (by (try simp only [List.map_toArray, List.map_cons, List.map_nil]); first | done | rfl | (simp only [List.length_drop, List.length_take]; rfl)) ?_; (with_reducible refine (impl_GjSplitPipe.calls kj4 ((t128 ++ (⟨#[124]⟩ : ByteArray)) ++ t130) t131 t132 true _ A19.out).mono ?_); rintro e w' ⟨rfl, ⟨nd, rfl⟩⟩; refine ⟨_, rfl, ?_⟩) | ((with_reducible refine gate_callee (f := 7) rfl ?_); refine goesL_ (some 53) rfl rfl Try.func7 (by kernel_rfl) rfl #[.string t128] rfl (by (try simp only [List.map_toArray, List.map_cons, List.map_nil]); first | done | rfl | (simp only [List.length_drop, List.length_take]; rfl)) ?_; (with_reducible refine (impl_GjSplitPipe.calls kj4 t128 t134 t135 false _ A20.out).mono ?_); rintro e w' ⟨rfl, ⟨nd, rfl⟩⟩; refine ⟨_, rfl, ?_⟩))
                        go_ret
                        exact ⟨by first | rfl | (simp [errW_none, errW_some] <;> rfl) | (simp [*, errW_none, errW_some] <;> rfl), by repeat (first | (with_reducible first | exact HB.out | apply below_alloc | apply pw_below_drewN | apply below_drew1) | exact HB.out)⟩
                  · replace c21 := Bool.eq_false_iff.mpr c21
                    subst c21
                    have H1 : (some false) = some r := by rw [if_neg (show ¬ (false = true) by decide)] at H; exact H
                    clear H
                    have H := H1
                    clear H1
                    obtain rfl := Option.some.inj H
                    try go_wp2
                    have n0_ := Aside0.mk (below_drew1 HB.out)
                    clear HB
                    have HB := n0_
                    clear n0_
                    obtain ⟨i040, hi040, _, hsz40, _⟩ := info_parts info9
                    obtain ⟨hcut40, hA40, hC40⟩ := print_take_of (P := Try.prog) Value.string (⟨#[]⟩ : ByteArray) 22 9 .i64 Try.underlying22 hi040 hsz40 A0 c0 l0 a1 (of_decide_eq_true (by first | (with_reducible assumption) | assumption)) (of_decide_eq_true (by first | (with_reducible assumption) | assumption)) HC0.out
                    have HR127 := Aside0.mk (Kd.C_of_reads (h1 := fun _ => rfl) (hA40 _ (Kd.reads_of_C HR0.out)))
                    have HC127 := Aside0.mk hC40
                    clear hA40 hC40 hi040 hsz40
                    obtain ⟨i041, hi041, _, hsz41, _⟩ := info_parts info9
                    obtain ⟨A41, hcut41, hA41, hC41⟩ := print_drop_of (P := Try.prog) Value.string (⟨#[]⟩ : ByteArray) 22 9 .i64 Try.underlying22 hi041 hsz41 A0 c0 l0 a1 (of_decide_eq_true (by first | (with_reducible assumption) | assumption)) (of_decide_eq_true (by first | (with_reducible assumption) | assumption)) HC0.out
                    have HR129 := Aside0.mk (Kd.C_of_reads (h1 := fun _ => rfl) (hA41 _ (Kd.reads_of_C HR0.out)))
                    have HC129 := Aside0.mk hC41
                    clear hA41 hC41 hi041 hsz41
                    refine start_ (n := 10) (S := fun w' => True) (ds := []) #[false, false, false, false, false, false, false, false, false, false] (by kernel_rfl) rfl rfl trivial (fun hHeld => ?_); refine with_tabW laws_FnGjSplitPipe.tab5 laws_FnGjSplitPipe.bits5 (fun HT_ HW_ => ?_)
                    generalize wc.drew = w39 at HB HR127 HR129 hHeld ⊢
                    refine pure_ (i := 0) (N := some 34) (v := ?_) (a' := ?_) #[true, false, false, false, false, false, false, false, false, false] rfl rfl (any_of HT_.out (by kernel_rfl)) (fun _ _ _ h => h) (Or.inl ⟨by rfl, ?_⟩) ?_ ?_
                    rotate_left
                    · intro w'
                      go_simp
                      with_reducible rfl
                    rotate_left
                    · simp only [Act.put, List.setIfInBounds_toArray, List.set_cons_zero, List.set_cons_succ, i64_w, i32_w]
                      rfl
                    refine pure_ (i := 1) (N := some 35) (v := ?_) (a' := ?_) #[true, true, false, false, false, false, false, false, false, false] rfl rfl (any_of HT_.out (by kernel_rfl)) (fun _ _ _ h => h) (Or.inl ⟨by rfl, ?_⟩) ?_ ?_
                    rotate_left
                    · intro w'
                      go_simp
                      with_reducible rfl
                    rotate_left
                    · simp only [Act.put, List.setIfInBounds_toArray, List.set_cons_zero, List.set_cons_succ, i64_w, i32_w]
                      rfl
                    refine pure_ (i := 2) (N := some 36) (v := ?_) (a' := ?_) #[true, true, true, false, false, false, false, false, false, false] rfl rfl (any_of HT_.out (by kernel_rfl)) (fun _ _ _ h => h) (Or.inl ⟨by rfl, ?_⟩) ?_ ?_
                    rotate_left
                    · intro w'
                      go_simp
                      with_reducible rfl
                    rotate_left
                    · simp only [Act.put, List.setIfInBounds_toArray, List.set_cons_zero, List.set_cons_succ, i64_w, i32_w]
                      rfl
                    refine pure_ (i := 4) (N := some 38) (v := ?_) (a' := ?_) #[true, true, true, false, true, false, false, false, false, false] rfl rfl (any_of HT_.out (by kernel_rfl)) (fun _ _ _ h => h) (Or.inl ⟨by rfl, ?_⟩) ?_ ?_
                    rotate_left
                    · intro w'
                      go_simp
                      with_reducible rfl
                    rotate_left
                    · simp only [Act.put, List.setIfInBounds_toArray, List.set_cons_zero, List.set_cons_succ, i64_w, i32_w]
                      rfl
                    refine pure_ (i := 5) (N := some 39) (v := ?_) (a' := ?_) #[true, true, true, false, true, true, false, false, false, false] rfl rfl (any_of HT_.out (by kernel_rfl)) (fun _ _ _ h => h) (Or.inl ⟨by rfl, ?_⟩) ?_ ?_
                    rotate_left
                    · intro w'
                      go_simp
                      with_reducible rfl
                    rotate_left
                    · simp only [Act.put, List.setIfInBounds_toArray, List.set_cons_zero, List.set_cons_succ, i64_w, i32_w]
                      rfl
                    refine pure_ (i := 6) (N := some 40) (v := ?_) (a' := ?_) #[true, true, true, false, true, true, true, false, false, false] rfl rfl (any_of HT_.out (by kernel_rfl)) (fun _ _ _ h => h) (Or.inl ⟨by rfl, ?_⟩) ?_ ?_
                    rotate_left
                    · intro w'
                      go_simp
                      with_reducible rfl
                    rotate_left
                    · simp only [Act.put, List.setIfInBounds_toArray, List.set_cons_zero, List.set_cons_succ, i64_w, i32_w]
                      rfl
                    refine one_ (i := 3) (N := some 37) #[true, true, true, true, true, true, true, false, false, false] rfl rfl (one_of HT_.out (by kernel_rfl)) (by decide) (fun K hK => ?_)
                    refine goes_ Try.func6 (by kernel_rfl) rfl #[.slice A0 (l0.take (a1 : Int).toNat).length c0] (by rfl) rfl rfl (by (try simp only [List.map_toArray, List.map_cons, List.map_nil]); first | done | (rw [show (l0.take (a1 : Int).toNat).length = a1.toNat from (by rw [List.length_take]; have h_ : (a1 : Int) ≤ (l0.length : Int) := of_decide_eq_true (by first | (with_reducible assumption) | assumption); omega)] <;> rfl) | rfl | (simp only [List.length_drop, List.length_take]; rfl)) ?_
                    with_reducible refine (spec_PathOf.calls kj4 _ _ (l0.take (a1 : Int).toNat) t128 _ ?side1 ?side2 A13.out).mono ?_
                    (case side1 => repeat (first | exact (Kd.C_below HR127.out HB.out) | (with_reducible refine Kd.C_alloc ?_ _) | (with_reducible refine Kd.C_drewN ?_ _) | (with_reducible refine Kd.C_drew ?_)))
                    (case side2 => exact HC127.out)
                    rintro e w42 ⟨rfl, hb⟩
                    refine ⟨_, rfl, ?_⟩
                    have n0_ := Aside0.mk (below_step (by repeat (first | (with_reducible first | exact HB.out | apply below_alloc | apply pw_below_drewN | apply below_drew1) | exact HB.out)) hb)
                    clear HB
                    have HB := n0_
                    clear n0_
                    (try clear hb)
                    (try clear hb2)
                    (try clear hk)
                    (try clear hi)
                    refine hK.out _ _ trivial (fun hHeld => ?_)
                    clear hK K
                    refine norm_ (a' := ?_) ?_ ?_
                    rotate_left
                    · show Act.put _ (some 37) _ = _
                      simp only [Act.put, List.setIfInBounds_toArray, List.set_cons_zero, List.set_cons_succ, i64_w, i32_w]
                      rfl
                    refine one_ (i := 7) (N := some 41) #[true, true, true, true, true, true, true, true, false, false] rfl rfl (one_of HT_.out (by kernel_rfl)) (by decide) (fun K hK => ?_)
                    refine goes_ Try.func6 (by kernel_rfl) rfl #[.slice A41 (l0.drop (a1 : Int).toNat).length (c0 - a1.toNat)] (by rfl) rfl rfl (by (try simp only [List.map_toArray, List.map_cons, List.map_nil]); first | done | (rw [show (l0.drop (a1 : Int).toNat).length = (l0.length - a1.toNat) from List.length_drop] <;> rfl) | rfl | (simp only [List.length_drop, List.length_take]; rfl)) ?_
                    with_reducible refine (spec_PathOf.calls kj4 _ _ (l0.drop (a1 : Int).toNat) t130 _ ?side1 ?side2 A16.out).mono ?_
                    (case side1 => repeat (first | exact (Kd.C_below HR129.out HB.out) | (with_reducible refine Kd.C_alloc ?_ _) | (with_reducible refine Kd.C_drewN ?_ _) | (with_reducible refine Kd.C_drew ?_)))
                    (case side2 => exact HC129.out)
                    rintro e w43 ⟨rfl, hb⟩
                    refine ⟨_, rfl, ?_⟩
                    have n0_ := Aside0.mk (below_step (by repeat (first | (with_reducible first | exact HB.out | apply below_alloc | apply pw_below_drewN | apply below_drew1) | exact HB.out)) hb)
                    clear HB
                    have HB := n0_
                    clear n0_
                    (try clear hb)
                    (try clear hb2)
                    (try clear hk)
                    (try clear hi)
                    refine hK.out _ _ trivial (fun hHeld => ?_)
                    clear hK K
                    refine norm_ (a' := ?_) ?_ ?_
                    rotate_left
                    · show Act.put _ (some 41) _ = _
                      simp only [Act.put, List.setIfInBounds_toArray, List.set_cons_zero, List.set_cons_succ, i64_w, i32_w]
                      rfl
                    refine pure_ (i := 8) (N := some 5) (v := ?_) (a' := ?_) #[true, true, true, true, true, true, true, true, true, false] rfl rfl (any_of HT_.out (by kernel_rfl)) (fun _ _ _ h => h) (Or.inl ⟨by rfl, ?_⟩) ?_ ?_
                    rotate_left
                    · intro w'
                      go_simp
                      with_reducible rfl
                    rotate_left
                    · simp only [Act.put, List.setIfInBounds_toArray, List.set_cons_zero, List.set_cons_succ, i64_w, i32_w]
                      rfl
                    refine pure_ (i := 9) (N := some 6) (v := ?_) (a' := ?_) #[true, true, true, true, true, true, true, true, true, true] rfl rfl (any_of HT_.out (by kernel_rfl)) (fun _ _ _ h => h) (Or.inl ⟨by rfl, ?_⟩) ?_ ?_
                    rotate_left
                    · intro w'
                      go_simp
                      with_reducible rfl
                    rotate_left
                    · simp only [Act.put, List.setIfInBounds_toArray, List.set_cons_zero, List.set_cons_succ, i64_w, i32_w]
                      rfl
                    refine done_ (done_of HT_.out (by kernel_rfl)) ?_
                    try go_wp2_with (first | ((with_reducible refine gate_callee (f := 7) rfl ?_); refine goesL_ (some 47) rfl rfl Try.func7 (by kernel_rfl) rfl #[.string ((t128 ++ (⟨#[124]⟩ : ByteArray)) ++ t130)] rfl (by (try simp only [List.map_toArray, List.map_cons, List.map_nil]); first | done | rfl | (simp only [List.length_drop, List.length_take]; rfl)) ?_; (with_reducible refine (impl_GjSplitPipe.calls kj4 ((t128 ++ (⟨#[124]⟩ : ByteArray)) ++ t130) t131 t132 false _ A19.out).mono ?_); rintro e w' ⟨rfl, ⟨nd, rfl⟩⟩; refine ⟨_, rfl, ?_⟩) | ((with_reducible refine gate_callee (f := 7) rfl ?_); refine goesL_ (some 53) rfl rfl Try.func7 (by kernel_rfl) rfl #[.string t128] rfl (by (try simp only [List.map_toArray, List.map_cons, List.map_nil]); first | done | rfl | (simp only [List.length_drop, List.length_take]; rfl)) ?_; (with_reducible refine (impl_GjSplitPipe.calls kj4 t128 t134 t135 t136 _ A20.out).mono ?_); rintro e w' ⟨rfl, ⟨nd, rfl⟩⟩; refine ⟨_, rfl, ?_⟩))
                    go_ret
                    exact ⟨by first | rfl | (simp [errW_none, errW_some] <;> rfl) | (simp [*, errW_none, errW_some] <;> rfl), by repeat (first | (with_reducible first | exact HB.out | apply below_alloc | apply pw_below_drewN | apply below_drew1) | exact HB.out)⟩
                · rw [if_neg c18] at H
                  exact absurd H (by simp)
              · rw [if_neg c17] at H
                exact absurd H (by simp)
            · rw [if_neg c12] at H
              exact absurd H (by simp)
          · rw [if_neg c11] at H
            exact absurd H (by simp)
  · replace c4 := Bool.eq_false_iff.mpr c4
    subst c4
    have H1 : (some true) = some r := by rw [if_neg (show ¬ (false = true) by decide)] at H; exact H
    clear H
    have H := H1
    clear H1
    obtain rfl := Option.some.inj H
    go_enter Try.func3, Try.ntmps3
    go_wp2_with (first | ((with_reducible refine gate_callee (f := 4) rfl ?_); refine goesL_ (some 14) rfl rfl Try.func4 (by kernel_rfl) rfl #[.slice A0 l0.length c0] rfl (by (try simp only [List.map_toArray, List.map_cons, List.map_nil]); first | done | rfl | (simp only [List.length_drop, List.length_take]; rfl)) ?_; (with_reducible refine (laws_zzFits1.calls k _ _ l0 false _ ?side1 ?side2 A3.out).mono ?_); (case side1 => repeat (first | exact HR0.out | (with_reducible refine Kd.C_alloc ?_ _) | (with_reducible refine Kd.C_drewN ?_ _) | (with_reducible refine Kd.C_drew ?_))); (case side2 => exact HC0.out); rintro e w' ⟨rfl, ⟨nd, rfl⟩⟩; refine ⟨_, rfl, ?_⟩))
    go_ret
    exact ⟨by first | rfl | (simp [errW_none, errW_some] <;> rfl) | (simp [*, errW_none, errW_some] <;> rfl), by repeat (first | (with_reducible first | exact HB.out | apply below_alloc | apply pw_below_drewN | apply below_drew1) | exact HB.out)⟩

end Go.Proofs.Ytjpbjbcdobibbaa.PFnGjSplitPipe
