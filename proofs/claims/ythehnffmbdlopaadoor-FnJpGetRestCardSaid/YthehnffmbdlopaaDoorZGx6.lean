/- Several texts in one. -/
import Derived.Test.YthehnffmbdlopaaDoorZPFnJpGetRestx0
import Derived.Test.YthehnffmbdlopaaDoorZGx5
namespace Go.Proofs.YthehnffmbdlopaaDoor.PFnJpGetRest
open Go.RowKit Go.Proofs.YthehnffmbdlopaaDoorW.PrintWords Go.Proofs.YthehnffmbdlopaaDoorW.PrintLast Go.Proofs.YthehnffmbdlopaaDoorW.PrintMore
attribute [local go_sem] max2_int min2_int max_two min_two max_three min_three max_four min_four   -- for this text's walks alone
set_option linter.unusedVariables false
set_option linter.unusedSimpArgs false

def spec_Bracket.f (k : Nat) (a0 : ByteArray) : Option (Int × Bool) := if (a0.size : Int) < 3 then (some (0, false)) else (if 0 < (a0.size : Int) then (if (bt a0 0) = 91 then (if 0 ≤ (wrap64 ((a0.size : Int) - 1)) then (if (wrap64 ((a0.size : Int) - 1)) < (a0.size : Int) then (if (bt a0 (wrap64 ((a0.size : Int) - 1))) = 93 then (if 1 ≤ (wrap64 ((a0.size : Int) - 1)) then (if (wrap64 ((a0.size : Int) - 1)) ≤ (a0.size : Int) then ((spec_Index.f k (a0.extract 1 ((wrap64 ((a0.size : Int) - 1)) : Int).toNat)).bind fun bt249 => (some (bt249.1, bt249.2))) else (none)) else (none)) else (some (0, false))) else (none)) else (none)) else (some (0, false))) else (none))
theorem spec_Bracket.mono : ∀ a0 k, LeO (spec_Bracket.f k a0) (spec_Bracket.f (k + 1) a0) := by
  intro a0 k
  unfold spec_Bracket.f
  repeat' first
      | (with_reducible exact spec_Index.mono _ _)
      | (with_reducible exact LeO.refl _)
      | (with_reducible exact LeO.none _)
      | (with_reducible refine LeO.ite ?_ ?_)
      | (with_reducible refine LeO.bind ?_ (fun _ => ?_))
      | exact spec_Index.mono _ _
      | exact LeO.none _
      | refine LeO.ite ?_ ?_
      | refine LeO.bind ?_ (fun _ => ?_)
set_option maxHeartbeats 8000000 in
set_option maxRecDepth 100000 in
theorem spec_Bracket.calls (k : Nat) (a0 : ByteArray) (r1 : Int) (r2 : Bool) (w : World) (h : spec_Bracket.f k a0 = some (r1, r2)) :
    Calls Tryd.prog 43 #[.string a0] w fun e w' => e = .returned (.tuple #[.int .i64 r1, .bool r2]) ∧ Drawn0 w w' := by
  have H : (if (a0.size : Int) < 3 then (some (0, false)) else (if 0 < (a0.size : Int) then (if (bt a0 0) = 91 then (if 0 ≤ (wrap64 ((a0.size : Int) - 1)) then (if (wrap64 ((a0.size : Int) - 1)) < (a0.size : Int) then (if (bt a0 (wrap64 ((a0.size : Int) - 1))) = 93 then (if 1 ≤ (wrap64 ((a0.size : Int) - 1)) then (if (wrap64 ((a0.size : Int) - 1)) ≤ (a0.size : Int) then ((spec_Index.f k (a0.extract 1 ((wrap64 ((a0.size : Int) - 1)) : Int).toNat)).bind fun bt249 => (some (bt249.1, bt249.2))) else (none)) else (none)) else (some (0, false))) else (none)) else (none)) else (some (0, false))) else (none))) = some (r1, r2) := h
  clear h
  by_cases c2 : (a0.size : Int) < 3
  · rw [if_pos c2] at H
    have c2b0 : decide ((a0.size : Int) < 3) = true := decide_eq_true c2
    have c2b1 : decide (a0.size < 3) = true := decide_eq_true (by omega)
    clear c2
    simp only [Option.some.injEq, Prod.mk.injEq] at H
    obtain ⟨rfl, rfl⟩ := H
    go_enter Tryd.func43, Tryd.ntmps43
    go_wp2
    go_ret2
    exact ⟨by first | rfl | (simp; done) | (simp [*]; done), by repeat (first | exact Drawn0.refl _ | apply Drawn0.step)⟩
  · rw [if_neg c2] at H
    have c2b0 : decide ((a0.size : Int) < 3) = false := decide_eq_false c2
    have c2b1 : decide (a0.size < 3) = false := decide_eq_false (by omega)
    clear c2
    by_cases c3 : 0 < (a0.size : Int)
    · rw [if_pos c3] at H
      have c3b0 : decide (0 < (a0.size : Int)) = true := decide_eq_true c3
      have c3b1 : decide (0 < a0.size) = true := decide_eq_true (by omega)
      clear c3
      by_cases c5 : (bt a0 0) = 91
      · rw [if_pos c5] at H
        have c5b0 : ((bt a0 0) == 91) = true := beq_iff_eq.mpr c5
        have c5b1 : ((bt a0 0) != 91) = false := bne_eq_false_iff_eq.mpr c5
        clear c5
        obtain ⟨ji6, hji6⟩ : ∃ j_ : Int, (wrap64 ((a0.size : Int) - 1)) = j_ := ⟨_, rfl⟩
        replace H : (if 0 ≤ (ji6) then (if (ji6) < (a0.size : Int) then (if (bt a0 (ji6)) = 93 then (if 1 ≤ (ji6) then (if (ji6) ≤ (a0.size : Int) then ((spec_Index.f k (a0.extract 1 ((ji6) : Int).toNat)).bind fun bt249 => (some (bt249.1, bt249.2))) else (none)) else (none)) else (some (0, false))) else (none)) else (none)) = some (r1, r2) := by first | (rw [hji6] at H; exact H) | (simp only [hji6] at H ⊢; exact H)
        have hji6w : (IntKind.i64.wrap ((a0.size : Int) - 1)) = ji6 := (i64_w _).trans hji6
        by_cases c7 : 0 ≤ (ji6)
        · rw [if_pos c7] at H
          have c7b0 : decide (0 ≤ (ji6)) = true := decide_eq_true c7
          clear c7
          by_cases c8 : (ji6) < (a0.size : Int)
          · rw [if_pos c8] at H
            have c8b0 : decide ((ji6) < (a0.size : Int)) = true := decide_eq_true c8
            clear c8
            by_cases c10 : (bt a0 (ji6)) = 93
            · rw [if_pos c10] at H
              have c10b0 : ((bt a0 (ji6)) == 93) = true := beq_iff_eq.mpr c10
              have c10b1 : ((bt a0 (ji6)) != 93) = false := bne_eq_false_iff_eq.mpr c10
              clear c10
              by_cases c11 : 1 ≤ (ji6)
              · rw [if_pos c11] at H
                have c11b0 := eq_true c11
                have c11b1 : decide (1 ≤ (ji6)) = true := decide_eq_true c11
                clear c11
                by_cases c12 : (ji6) ≤ (a0.size : Int)
                · rw [if_pos c12] at H
                  have c12b0 := eq_true c12
                  have c12b1 : decide ((ji6) ≤ (a0.size : Int)) = true := decide_eq_true c12
                  clear c12
                  replace H := Option.bind_eq_some_iff.mp H
                  obtain ⟨⟨t249, t250⟩, A130, H⟩ := H
                  replace H : (some (t249, t250)) = some (r1, r2) := H
                  have A13 := Aside0.mk A130
                  clear A130
                  simp only [Option.some.injEq, Prod.mk.injEq] at H
                  obtain ⟨rfl, rfl⟩ := H
                  have p4 : 0 ≤ (0 : Int) := (by omega)
                  have q4 : 0 < a0.size := (by have : (0 : Int) < (a0.size : Int) := of_decide_eq_true (by first | (with_reducible assumption) | assumption); omega)
                  have hx4 : ∀ h : 0 < a0.size, ((a0[0]'h).toNat : Int) = bt a0 0 := bt_at a0 0
                  clear p4
                  have qi4 : (0 < (a0.size : Int)) = True := eq_true (of_decide_eq_true (by first | (with_reducible assumption) | assumption))
                  replace q4 := eq_true q4
                  have p9 : 0 ≤ ((ji6) : Int) := of_decide_eq_true (by first | (with_reducible assumption) | assumption)
                  have q9 : (ji6) < (a0.size : Int) := of_decide_eq_true (by first | (with_reducible assumption) | assumption)
                  have hx9 := bt_at a0 (ji6)
                  replace p9 := eq_true p9
                  replace q9 := eq_true q9
                  go_enter Tryd.func43, Tryd.ntmps43
                  go_wp2_with (first | ((with_reducible refine gate_callee (f := 51) rfl ?_); refine goesL_ (some 25) rfl rfl Tryd.func51 (by kernel_rfl) rfl #[.string (a0.extract 1 ((ji6) : Int).toNat)] rfl (by (try simp only [List.map_toArray, List.map_cons, List.map_nil]); first | done | (simp only [hji6]; rfl) | rfl | (simp only [List.length_drop, List.length_take]; rfl)) ?_; (with_reducible refine (spec_Index.calls k (a0.extract 1 ((ji6) : Int).toNat) t249 t250 _ A13.out).mono ?_); rintro e w' ⟨rfl, ⟨nd, rfl⟩⟩; refine ⟨_, rfl, ?_⟩))
                  go_ret2
                  exact ⟨by first | rfl | (simp; done) | (simp only [← hji6] <;> (first | rfl | simp)) | (simp [*]; done), by repeat (first | exact Drawn0.refl _ | apply Drawn0.step)⟩
                · rw [if_neg c12] at H
                  exact absurd H (by simp)
              · rw [if_neg c11] at H
                exact absurd H (by simp)
            · rw [if_neg c10] at H
              have c10b0 : ((bt a0 (ji6)) == 93) = false := beq_eq_false_iff_ne.mpr c10
              have c10b1 : ((bt a0 (ji6)) != 93) = true := bne_iff_ne.mpr c10
              simp only [Option.some.injEq, Prod.mk.injEq] at H
              obtain ⟨rfl, rfl⟩ := H
              have p4 : 0 ≤ (0 : Int) := (by omega)
              have q4 : 0 < a0.size := (by have : (0 : Int) < (a0.size : Int) := of_decide_eq_true (by first | (with_reducible assumption) | assumption); omega)
              have hx4 : ∀ h : 0 < a0.size, ((a0[0]'h).toNat : Int) = bt a0 0 := bt_at a0 0
              clear p4
              have qi4 : (0 < (a0.size : Int)) = True := eq_true (of_decide_eq_true (by first | (with_reducible assumption) | assumption))
              replace q4 := eq_true q4
              have p9 : 0 ≤ ((ji6) : Int) := of_decide_eq_true (by first | (with_reducible assumption) | assumption)
              have q9 : (ji6) < (a0.size : Int) := of_decide_eq_true (by first | (with_reducible assumption) | assumption)
              have hx9 := bt_at a0 (ji6)
              replace p9 := eq_true p9
              replace q9 := eq_true q9
              go_enter Tryd.func43, Tryd.ntmps43
              go_wp2
              go_ret2
              exact ⟨by first | rfl | (simp; done) | (simp only [← hji6] <;> (first | rfl | simp)) | (simp [*]; done), by repeat (first | exact Drawn0.refl _ | apply Drawn0.step)⟩
          · rw [if_neg c8] at H
            exact absurd H (by simp)
        · rw [if_neg c7] at H
          exact absurd H (by simp)
      · rw [if_neg c5] at H
        have c5b0 : ((bt a0 0) == 91) = false := beq_eq_false_iff_ne.mpr c5
        have c5b1 : ((bt a0 0) != 91) = true := bne_iff_ne.mpr c5
        simp only [Option.some.injEq, Prod.mk.injEq] at H
        obtain ⟨rfl, rfl⟩ := H
        have p4 : 0 ≤ (0 : Int) := (by omega)
        have q4 : 0 < a0.size := (by have : (0 : Int) < (a0.size : Int) := of_decide_eq_true (by first | (with_reducible assumption) | assumption); omega)
        have hx4 : ∀ h : 0 < a0.size, ((a0[0]'h).toNat : Int) = bt a0 0 := bt_at a0 0
        clear p4
        have qi4 : (0 < (a0.size : Int)) = True := eq_true (of_decide_eq_true (by first | (with_reducible assumption) | assumption))
        replace q4 := eq_true q4
        go_enter Tryd.func43, Tryd.ntmps43
        go_wp2
        go_ret2
        exact ⟨by first | rfl | (simp; done) | (simp [*]; done), by repeat (first | exact Drawn0.refl _ | apply Drawn0.step)⟩
    · rw [if_neg c3] at H
      exact absurd H (by simp)

def spec_Step.j0 : Nat → Int → Int → Bool → Int → Int → Int → List (S43) → List (S27) → Option (Int × Int × Int × (List (S43)) × (List (S27)) × Bool)
  | 0, _, _, _, _, _, _, _, _ => none
  | k + 1, x8, x9, x33, x252000, x252001, x252002, x252003, x252004 => if x33 = true then (if x9 < 0 then (some (0, 0, 0, ([] : List (S43)), ([] : List (S27)), false)) else (if 0 ≤ x9 then (if x9 < (x252004.length : Int) then (some ((rd_T27 x252004 x9).f0, (rd_T27 x252004 x9).f1, (rd_T27 x252004 x9).f2, (rd_T27 x252004 x9).f3, (rd_T27 x252004 x9).f4, true)) else (none)) else (none))) else (if x8 < 0 then (some (0, 0, 0, ([] : List (S43)), ([] : List (S27)), false)) else (if 0 ≤ x8 then (if x8 < (x252004.length : Int) then (some ((rd_T27 x252004 x8).f0, (rd_T27 x252004 x8).f1, (rd_T27 x252004 x8).f2, (rd_T27 x252004 x8).f3, (rd_T27 x252004 x8).f4, true)) else (none)) else (none)))
def spec_Step.f (k : Nat) (a0 : ByteArray) (a1_0 : Int) (a1_1 : Int) (a1_2 : Int) (l1_3 : List (S43)) (l1_4 : List (S27)) (a2 : ByteArray) : Option (Int × Int × Int × (List (S43)) × (List (S27)) × Bool) := if a1_0 = 6 then ((spec_Named.f k a0 a1_0 a1_1 a1_2 l1_3 l1_4 a2).bind fun t253 => (if t253 < 0 then (some (0, 0, 0, ([] : List (S43)), ([] : List (S27)), false)) else (if 0 ≤ t253 then (if t253 < (l1_4.length : Int) then (some ((rd_T27 l1_4 t253).f0, (rd_T27 l1_4 t253).f1, (rd_T27 l1_4 t253).f2, (rd_T27 l1_4 t253).f3, (rd_T27 l1_4 t253).f4, true)) else (none)) else (none)))) else (if a1_0 = 5 then ((spec_Bracket.f k a2).bind fun bt255 => (if bt255.2 = true then (spec_Step.j0 k (-1) bt255.1 (decide (bt255.1 < (l1_4.length : Int))) a1_0 a1_1 a1_2 l1_3 l1_4) else (spec_Step.j0 k (-1) bt255.1 false a1_0 a1_1 a1_2 l1_3 l1_4))) else (if (-1) < 0 then (some (0, 0, 0, ([] : List (S43)), ([] : List (S27)), false)) else (if 0 ≤ (-1) then (if (-1) < (l1_4.length : Int) then (some ((rd_T27 l1_4 (-1)).f0, (rd_T27 l1_4 (-1)).f1, (rd_T27 l1_4 (-1)).f2, (rd_T27 l1_4 (-1)).f3, (rd_T27 l1_4 (-1)).f4, true)) else (none)) else (none))))
theorem spec_Step.mono_l : ∀ k, (∀ y0 y1 y2 y3 y4 y5 y6 y7, LeO (spec_Step.j0 k y0 y1 y2 y3 y4 y5 y6 y7) (spec_Step.j0 (k + 1) y0 y1 y2 y3 y4 y5 y6 y7))
  | 0 => fun _ _ _ _ _ _ _ _ r h => by simp [spec_Step.j0] at h
  | k + 1 => by
    have ih0 := spec_Step.mono_l k
    · intro y0 y1 y2 y3 y4 y5 y6 y7
      unfold spec_Step.j0
      repeat' first
      | (with_reducible exact ih0 _ _ _ _ _ _ _ _)
      | (with_reducible exact spec_Bracket.mono _ _)
      | (with_reducible exact spec_Named.mono _ _ _ _ _ _ _ _)
      | (with_reducible exact LeO.refl _)
      | (with_reducible exact LeO.none _)
      | (with_reducible refine LeO.ite ?_ ?_)
      | (with_reducible refine LeO.bind ?_ (fun _ => ?_))
      | exact ih0 _ _ _ _ _ _ _ _
      | exact spec_Bracket.mono _ _
      | exact spec_Named.mono _ _ _ _ _ _ _ _
      | exact LeO.none _
      | refine LeO.ite ?_ ?_
      | refine LeO.bind ?_ (fun _ => ?_)
theorem spec_Step.mono : ∀ a0 a1 a2 a3 a4 a5 a6 k, LeO (spec_Step.f k a0 a1 a2 a3 a4 a5 a6) (spec_Step.f (k + 1) a0 a1 a2 a3 a4 a5 a6) := by
  intro a0 a1 a2 a3 a4 a5 a6 k
  have ih0 := spec_Step.mono_l k
  unfold spec_Step.f
  repeat' first
      | (with_reducible exact ih0 _ _ _ _ _ _ _ _)
      | (with_reducible exact spec_Bracket.mono _ _)
      | (with_reducible exact spec_Named.mono _ _ _ _ _ _ _ _)
      | (with_reducible exact LeO.refl _)
      | (with_reducible exact LeO.none _)
      | (with_reducible refine LeO.ite ?_ ?_)
      | (with_reducible refine LeO.bind ?_ (fun _ => ?_))
      | exact ih0 _ _ _ _ _ _ _ _
      | exact spec_Bracket.mono _ _
      | exact spec_Named.mono _ _ _ _ _ _ _ _
      | exact LeO.none _
      | refine LeO.ite ?_ ?_
      | refine LeO.bind ?_ (fun _ => ?_)
set_option maxHeartbeats 8000000 in
set_option maxRecDepth 100000 in
theorem spec_Step.calls (k : Nat) (a0 : ByteArray) (a1_0 : Int) (a1_1 : Int) (a1_2 : Int) (A1_3 : Option Addr) (c1_3 : Nat) (l1_3 : List (S43)) (P1_4_ : Nat → Prop) (A1_4 : Option Addr) (c1_4 : Nat) (l1_4 : List (S27)) (a2 : ByteArray) (r1 : Int) (r2 : Int) (r3 : Int) (r4 : List (S43)) (r5 : List (S27)) (r6 : Bool) (w : World) (hr1_3 : Kd.C k43 w A1_3 l1_3.length l1_3) (hc1_3 : l1_3.length ≤ c1_3) (hs1_4 : Kd.V k27 27 w w.heap.size (fun k_ => P1_4_ k_) (.slice A1_4 l1_4.length c1_4) l1_4) (h : spec_Step.f k a0 a1_0 a1_1 a1_2 l1_3 l1_4 a2 = some (r1, r2, r3, r4, r5, r6)) :
    Calls Tryd.prog 26 #[.string a0, .agg #[.int .i64 a1_0, .int .i64 a1_1, .int .i64 a1_2, .slice A1_3 l1_3.length c1_3, .slice A1_4 l1_4.length c1_4], .string a2] w fun e w' => ∃ v3_ v4_ : Value, e = .returned (.tuple #[.agg #[.int .i64 r1, .int .i64 r2, .int .i64 r3, v3_, v4_], .bool r6]) ∧ Kd.V k43 43 w' w.heap.size (fun k_ => (P1_4_ k_ ∨ w.heap.size ≤ k_)) v3_ r4 ∧ Kd.V k27 27 w' w.heap.size (fun k_ => (P1_4_ k_ ∨ w.heap.size ≤ k_)) v4_ r5 ∧ Below w.heap.size w w' := by
  have hu27 := Tryd.underlying27
  have HR1_3 := Aside0.mk hr1_3
  have HC1_3 := Aside0.mk hc1_3
  clear hr1_3 hc1_3
  have HO1_4 := Aside0.mk (show Kd.V k27 27 w w.heap.size (fun k_ => (P1_4_ k_ ∨ w.heap.size ≤ k_)) (.slice A1_4 l1_4.length c1_4) l1_4 from Kd.V_mono hs1_4 (fun k_ hk => .inl hk))
  have HB := Aside0.mk (Below.refl w.heap.size w)
  have H : (if a1_0 = 6 then ((spec_Named.f k a0 a1_0 a1_1 a1_2 l1_3 l1_4 a2).bind fun t253 => (if t253 < 0 then (some (0, 0, 0, ([] : List (S43)), ([] : List (S27)), false)) else (if 0 ≤ t253 then (if t253 < (l1_4.length : Int) then (some ((rd_T27 l1_4 t253).f0, (rd_T27 l1_4 t253).f1, (rd_T27 l1_4 t253).f2, (rd_T27 l1_4 t253).f3, (rd_T27 l1_4 t253).f4, true)) else (none)) else (none)))) else (if a1_0 = 5 then ((spec_Bracket.f k a2).bind fun bt255 => (if bt255.2 = true then (spec_Step.j0 k (-1) bt255.1 (decide (bt255.1 < (l1_4.length : Int))) a1_0 a1_1 a1_2 l1_3 l1_4) else (spec_Step.j0 k (-1) bt255.1 false a1_0 a1_1 a1_2 l1_3 l1_4))) else (if (-1) < 0 then (some (0, 0, 0, ([] : List (S43)), ([] : List (S27)), false)) else (if 0 ≤ (-1) then (if (-1) < (l1_4.length : Int) then (some ((rd_T27 l1_4 (-1)).f0, (rd_T27 l1_4 (-1)).f1, (rd_T27 l1_4 (-1)).f2, (rd_T27 l1_4 (-1)).f3, (rd_T27 l1_4 (-1)).f4, true)) else (none)) else (none))))) = some (r1, r2, r3, r4, r5, r6) := h
  clear h
  by_cases c4 : a1_0 = 6
  · rw [if_pos c4] at H
    have c4b0 : (a1_0 == 6) = true := beq_iff_eq.mpr c4
    have c4b1 : (a1_0 != 6) = false := bne_eq_false_iff_eq.mpr c4
    clear c4
    replace H := Option.bind_eq_some_iff.mp H
    obtain ⟨t253, A50, H⟩ := H
    replace H : (if t253 < 0 then (some (0, 0, 0, ([] : List (S43)), ([] : List (S27)), false)) else (if 0 ≤ t253 then (if t253 < (l1_4.length : Int) then (some ((rd_T27 l1_4 t253).f0, (rd_T27 l1_4 t253).f1, (rd_T27 l1_4 t253).f2, (rd_T27 l1_4 t253).f3, (rd_T27 l1_4 t253).f4, true)) else (none)) else (none))) = some (r1, r2, r3, r4, r5, r6) := H
    have A5 := Aside0.mk A50
    clear A50
    by_cases c6 : t253 < 0
    · rw [if_pos c6] at H
      have c6b0 : decide (t253 < 0) = true := decide_eq_true c6
      clear c6
      simp only [Option.some.injEq, Prod.mk.injEq] at H
      obtain ⟨rfl, rfl, rfl, rfl, rfl, rfl⟩ := H
      go_enter Tryd.func26, Tryd.ntmps26
      go_wp2_with (first | ((with_reducible refine gate_dst (N := 4) rfl ?_); (try (refine gate_guard (by rfl) ?_; dsimp only)); refine box_event ?hg (N := 4) ?hd (cs := #[.int .i64 a1_0, .int .i64 a1_1, .int .i64 a1_2, .slice A1_3 l1_3.length c1_3, .slice A1_4 l1_4.length c1_4]) (t := 27) ?hr ?_; (case hd => rfl); (case hg => rfl); (case hr => first | (go_simp; done) | (go_simp; rfl)); intro gb251 hg w7 hbox hb; have n0_ := Aside0.mk (Kd.V_below (Kd.V_elderB (by (with_reducible repeat (first | apply Kd.V_alloc | apply Kd.V_drewN | apply Kd.V_drew)); exact HO1_4.out) gb251 (Nat.le_of_eq hg.symm)) hb); have n1_ := Aside0.mk (below_step (by repeat (first | (with_reducible first | exact HB.out | apply below_alloc | apply pw_below_drewN | apply below_drew1) | exact HB.out)) hb); have n2_ := Aside0.mk (hbox); have n3_ := Aside0.mk ((by rw [hg]; exact (below_size (by repeat (first | (with_reducible first | exact HB.out | apply below_alloc | apply pw_below_drewN | apply below_drew1) | exact HB.out))) : w.heap.size ≤ gb251)); have n4_ := Aside0.mk ((by rw [hg]; exact (below_size (by repeat (first | (with_reducible first | exact HB.out | apply below_alloc | apply pw_below_drewN | apply below_drew1) | exact HB.out))) : w.heap.size ≤ gb251)); clear HO1_4; clear HB; have HO1_4 := n0_; have HB := n1_; have BK251 := n2_; have GW251 := n3_; have GE251 := n4_; clear n0_ n1_ n2_ n3_ n4_; clear hb hbox hg) | ((with_reducible refine gate_dst (N := 6) rfl ?_); (try (refine gate_guard (by rfl) ?_; dsimp only)); refine box_event ?hg (N := 6) ?hd (cs := #[.int .i64 0, .int .i64 0, .int .i64 0, .slice none 0 0, .slice none 0 0]) (t := 27) ?hr ?_; (case hd => rfl); (case hg => rfl); (case hr => first | (go_simp; done) | (go_simp; rfl)); intro gb252 hg w8 hbox hb; have n0_ := Aside0.mk (Kd.V_below (Kd.V_elderB (by (with_reducible repeat (first | apply Kd.V_alloc | apply Kd.V_drewN | apply Kd.V_drew)); exact HO1_4.out) gb252 (Nat.le_of_eq hg.symm)) hb); have n1_ := Aside0.mk (blk_below (g := gb251) (o := .cells #[.int .i64 a1_0, .int .i64 a1_1, .int .i64 a1_2, .slice A1_3 l1_3.length c1_3, .slice A1_4 l1_4.length c1_4] 27 (0, 0)) (by (with_reducible repeat (first | refine blk_drewN ?_ _ | refine blk_drew ?_ | refine blk_alloc ?_ _)); exact BK251.out) hb); have n2_ := Aside0.mk (below_step (by repeat (first | (with_reducible first | exact HB.out | apply below_alloc | apply pw_below_drewN | apply below_drew1 | refine below_set ?_ GE251.out) | exact HB.out)) hb); have n3_ := Aside0.mk (hbox); have n4_ := Aside0.mk ((by rw [hg]; exact (below_size (by repeat (first | (with_reducible first | exact HB.out | apply below_alloc | apply pw_below_drewN | apply below_drew1 | refine below_set ?_ GE251.out) | exact HB.out))) : w.heap.size ≤ gb252)); have n5_ := Aside0.mk ((by rw [hg]; exact (below_size (by repeat (first | (with_reducible first | exact HB.out | apply below_alloc | apply pw_below_drewN | apply below_drew1 | refine below_set ?_ GE251.out) | exact HB.out))) : w.heap.size ≤ gb252)); have n6_ := Aside0.mk ((by rw [hg]; exact Nat.ne_of_lt (blk_lt (g := gb251) (o := .cells #[.int .i64 a1_0, .int .i64 a1_1, .int .i64 a1_2, .slice A1_3 l1_3.length c1_3, .slice A1_4 l1_4.length c1_4] 27 (0, 0)) (by (with_reducible repeat (first | refine blk_drewN ?_ _ | refine blk_drew ?_ | refine blk_alloc ?_ _)); exact BK251.out)) : gb251 ≠ gb252)); have n7_ := Aside0.mk ((by rw [hg]; exact Nat.ne_of_gt (blk_lt (g := gb251) (o := .cells #[.int .i64 a1_0, .int .i64 a1_1, .int .i64 a1_2, .slice A1_3 l1_3.length c1_3, .slice A1_4 l1_4.length c1_4] 27 (0, 0)) (by (with_reducible repeat (first | refine blk_drewN ?_ _ | refine blk_drew ?_ | refine blk_alloc ?_ _)); exact BK251.out)) : gb252 ≠ gb251)); clear HO1_4; clear BK251; clear HB; have HO1_4 := n0_; have BK251 := n1_; have HB := n2_; have BK252 := n3_; have GW252 := n4_; have GE252 := n5_; have NB251_252 := n6_; have NB252_251 := n7_; clear n0_ n1_ n2_ n3_ n4_ n5_ n6_ n7_; clear hb hbox hg; have hnb9 := NB251_252.out; have hnc9 := NB252_251.out; have hcz10_0 : w8.cell? ⟨gb251, 0, none⟩ = some (.int .i64 a1_0) := (blk_cell BK251.out 0).trans rfl; have hcz10_1 : w8.cell? ⟨gb251, 1, none⟩ = some (.int .i64 a1_1) := (blk_cell BK251.out 1).trans rfl; have hcz10_2 : w8.cell? ⟨gb251, 2, none⟩ = some (.int .i64 a1_2) := (blk_cell BK251.out 2).trans rfl; have hcz10_3 : w8.cell? ⟨gb251, 3, none⟩ = some (.slice A1_3 l1_3.length c1_3) := (blk_cell BK251.out 3).trans rfl; have hcz10_4 : w8.cell? ⟨gb251, 4, none⟩ = some (.slice A1_4 l1_4.length c1_4) := (blk_cell BK251.out 4).trans rfl; have hfz10_0 := blk_frozen BK251.out 0; have hfz10_1 := blk_frozen BK251.out 1; have hfz10_2 := blk_frozen BK251.out 2; have hfz10_3 := blk_frozen BK251.out 3; have hfz10_4 := blk_frozen BK251.out 4) | ((with_reducible refine gate_callee (f := 16) rfl ?_); refine goesL_ (some 18) rfl rfl Tryd.func16 (by kernel_rfl) rfl #[.string a0, .agg #[.int .i64 a1_0, .int .i64 a1_1, .int .i64 a1_2, .slice A1_3 l1_3.length c1_3, .slice A1_4 l1_4.length c1_4], .string a2] rfl (by (try simp only [List.map_toArray, List.map_cons, List.map_nil]); first | done | rfl | (simp only [List.length_drop, List.length_take]; rfl)) ?_; (with_reducible refine (spec_Named.calls k a0 a1_0 a1_1 a1_2 _ _ l1_3 _ _ l1_4 a2 t253 _ ?side1 ?side2 ?side3 ?side4 A5.out).mono ?_); (case side1 => repeat (first | exact (Kd.C_below HR1_3.out HB.out) | (with_reducible refine Kd.C_alloc ?_ _) | (with_reducible refine Kd.C_drewN ?_ _) | (with_reducible refine Kd.C_drew ?_))); (case side2 => exact HC1_3.out); (case side3 => repeat (first | exact (Kd.V_reads' HO1_4.out).2.2 | (with_reducible refine Kd.C_alloc ?_ _) | (with_reducible refine Kd.C_drewN ?_ _) | (with_reducible refine Kd.C_drew ?_))); (case side4 => exact (Kd.V_reads' HO1_4.out).2.1); rintro e w11 ⟨rfl, hb⟩; refine ⟨_, rfl, ?_⟩; have n0_ := Aside0.mk (Kd.V_below (by (with_reducible repeat (first | apply Kd.V_alloc | apply Kd.V_drewN | apply Kd.V_drew)); exact HO1_4.out) hb); have n1_ := Aside0.mk (blk_below (g := gb251) (o := .cells #[.int .i64 a1_0, .int .i64 a1_1, .int .i64 a1_2, .slice A1_3 l1_3.length c1_3, .slice A1_4 l1_4.length c1_4] 27 (0, 0)) (by (with_reducible repeat (first | refine blk_drewN ?_ _ | refine blk_drew ?_ | refine blk_alloc ?_ _)); exact BK251.out) hb); have n2_ := Aside0.mk (blk_below (g := gb252) (o := .cells #[.int .i64 0, .int .i64 0, .int .i64 0, .slice none 0 0, .slice none 0 0] 27 (0, 0)) (by (with_reducible repeat (first | refine blk_drewN ?_ _ | refine blk_drew ?_ | refine blk_alloc ?_ _)); exact BK252.out) hb); have n3_ := Aside0.mk (below_step (by repeat (first | (with_reducible first | exact HB.out | apply below_alloc | apply pw_below_drewN | apply below_drew1 | refine below_set ?_ GE251.out | refine below_set ?_ GE252.out) | exact HB.out)) hb); clear HO1_4; clear BK251; clear BK252; clear HB; have HO1_4 := n0_; have BK251 := n1_; have BK252 := n2_; have HB := n3_; clear n0_ n1_ n2_ n3_; (try clear hb); (try clear hb2); (try clear hk); (try clear hi); have hcz12_0 : w11.cell? ⟨gb252, 0, none⟩ = some (.int .i64 0) := (blk_cell BK252.out 0).trans rfl; have hcz12_1 : w11.cell? ⟨gb252, 1, none⟩ = some (.int .i64 0) := (blk_cell BK252.out 1).trans rfl; have hcz12_2 : w11.cell? ⟨gb252, 2, none⟩ = some (.int .i64 0) := (blk_cell BK252.out 2).trans rfl; have hcz12_3 : w11.cell? ⟨gb252, 3, none⟩ = some (.slice none 0 0) := (blk_cell BK252.out 3).trans rfl; have hcz12_4 : w11.cell? ⟨gb252, 4, none⟩ = some (.slice none 0 0) := (blk_cell BK252.out 4).trans rfl; have hfz12_0 := blk_frozen BK252.out 0; have hfz12_1 := blk_frozen BK252.out 1; have hfz12_2 := blk_frozen BK252.out 2; have hfz12_3 := blk_frozen BK252.out 3; have hfz12_4 := blk_frozen BK252.out 4))
      refine bodyPost_ret (results_ct rfl _ _ gb252 27 #[.int .i64 0, .int .i64 0, .int .i64 0, .slice none 0 0, .slice none 0 0] (0, 0) _ rfl (by (with_reducible repeat (first | refine blk_drewN ?_ _ | refine blk_drew ?_ | refine blk_alloc ?_ _)); refine blk_put (cs := #[.int .i64 0, .int .i64 0, .int .i64 0, .slice none 0 0, .slice none 0 0]) ?_ 4 _ rfl; (with_reducible repeat (first | refine blk_drewN ?_ _ | refine blk_drew ?_ | refine blk_alloc ?_ _)); refine blk_put (cs := #[.int .i64 0, .int .i64 0, .int .i64 0, .slice none 0 0, .slice none 0 0]) ?_ 3 _ rfl; (with_reducible repeat (first | refine blk_drewN ?_ _ | refine blk_drew ?_ | refine blk_alloc ?_ _)); refine blk_put (cs := #[.int .i64 0, .int .i64 0, .int .i64 0, .slice none 0 0, .slice none 0 0]) ?_ 2 _ rfl; (with_reducible repeat (first | refine blk_drewN ?_ _ | refine blk_drew ?_ | refine blk_alloc ?_ _)); refine blk_put (cs := #[.int .i64 0, .int .i64 0, .int .i64 0, .slice none 0 0, .slice none 0 0]) ?_ 1 _ rfl; (with_reducible repeat (first | refine blk_drewN ?_ _ | refine blk_drew ?_ | refine blk_alloc ?_ _)); refine blk_put (cs := #[.int .i64 0, .int .i64 0, .int .i64 0, .slice none 0 0, .slice none 0 0]) ?_ 0 _ rfl; (with_reducible repeat (first | refine blk_drewN ?_ _ | refine blk_drew ?_ | refine blk_alloc ?_ _)); exact BK252.out) Tryd.underlying27 rfl (by kernel_rfl)) rfl ?_
      exact ⟨_, _, by first | rfl | (simp [errW_none, errW_some] <;> rfl) | (simp [*, errW_none, errW_some] <;> rfl), Kd.V_nil _ _ _ _ _, Kd.V_nil _ _ _ _ _, by repeat (first | (with_reducible first | exact HB.out | apply below_alloc | apply pw_below_drewN | apply below_drew1 | refine below_set ?_ GE251.out | refine below_set ?_ GE252.out) | exact HB.out)⟩
    · rw [if_neg c6] at H
      have c6b0 : decide (t253 < 0) = false := decide_eq_false c6
      clear c6
      by_cases c13 : 0 ≤ t253
      · rw [if_pos c13] at H
        have c13b0 : decide (0 ≤ t253) = true := decide_eq_true c13
        clear c13
        by_cases c14 : t253 < (l1_4.length : Int)
        · rw [if_pos c14] at H
          have c14b0 : decide (t253 < (l1_4.length : Int)) = true := decide_eq_true c14
          clear c14
          simp only [Option.some.injEq, Prod.mk.injEq] at H
          obtain ⟨rfl, rfl, rfl, rfl, rfl, rfl⟩ := H
          go_enter Tryd.func26, Tryd.ntmps26
          go_wp2_with (first | ((with_reducible refine gate_dst (N := 4) rfl ?_); (try (refine gate_guard (by rfl) ?_; dsimp only)); refine box_event ?hg (N := 4) ?hd (cs := #[.int .i64 a1_0, .int .i64 a1_1, .int .i64 a1_2, .slice A1_3 l1_3.length c1_3, .slice A1_4 l1_4.length c1_4]) (t := 27) ?hr ?_; (case hd => rfl); (case hg => rfl); (case hr => first | (go_simp; done) | (go_simp; rfl)); intro gb251 hg w15 hbox hb; have n0_ := Aside0.mk (Kd.V_below (Kd.V_elderB (by (with_reducible repeat (first | apply Kd.V_alloc | apply Kd.V_drewN | apply Kd.V_drew)); exact HO1_4.out) gb251 (Nat.le_of_eq hg.symm)) hb); have n1_ := Aside0.mk (below_step (by repeat (first | (with_reducible first | exact HB.out | apply below_alloc | apply pw_below_drewN | apply below_drew1) | exact HB.out)) hb); have n2_ := Aside0.mk (hbox); have n3_ := Aside0.mk ((by rw [hg]; exact (below_size (by repeat (first | (with_reducible first | exact HB.out | apply below_alloc | apply pw_below_drewN | apply below_drew1) | exact HB.out))) : w.heap.size ≤ gb251)); have n4_ := Aside0.mk ((by rw [hg]; exact (below_size (by repeat (first | (with_reducible first | exact HB.out | apply below_alloc | apply pw_below_drewN | apply below_drew1) | exact HB.out))) : w.heap.size ≤ gb251)); clear HO1_4; clear HB; have HO1_4 := n0_; have HB := n1_; have BK251 := n2_; have GW251 := n3_; have GE251 := n4_; clear n0_ n1_ n2_ n3_ n4_; clear hb hbox hg) | ((with_reducible refine gate_dst (N := 6) rfl ?_); (try (refine gate_guard (by rfl) ?_; dsimp only)); refine box_event ?hg (N := 6) ?hd (cs := #[.int .i64 0, .int .i64 0, .int .i64 0, .slice none 0 0, .slice none 0 0]) (t := 27) ?hr ?_; (case hd => rfl); (case hg => rfl); (case hr => first | (go_simp; done) | (go_simp; rfl)); intro gb252 hg w16 hbox hb; have n0_ := Aside0.mk (Kd.V_below (Kd.V_elderB (by (with_reducible repeat (first | apply Kd.V_alloc | apply Kd.V_drewN | apply Kd.V_drew)); exact HO1_4.out) gb252 (Nat.le_of_eq hg.symm)) hb); have n1_ := Aside0.mk (blk_below (g := gb251) (o := .cells #[.int .i64 a1_0, .int .i64 a1_1, .int .i64 a1_2, .slice A1_3 l1_3.length c1_3, .slice A1_4 l1_4.length c1_4] 27 (0, 0)) (by (with_reducible repeat (first | refine blk_drewN ?_ _ | refine blk_drew ?_ | refine blk_alloc ?_ _)); exact BK251.out) hb); have n2_ := Aside0.mk (below_step (by repeat (first | (with_reducible first | exact HB.out | apply below_alloc | apply pw_below_drewN | apply below_drew1 | refine below_set ?_ GE251.out) | exact HB.out)) hb); have n3_ := Aside0.mk (hbox); have n4_ := Aside0.mk ((by rw [hg]; exact (below_size (by repeat (first | (with_reducible first | exact HB.out | apply below_alloc | apply pw_below_drewN | apply below_drew1 | refine below_set ?_ GE251.out) | exact HB.out))) : w.heap.size ≤ gb252)); have n5_ := Aside0.mk ((by rw [hg]; exact (below_size (by repeat (first | (with_reducible first | exact HB.out | apply below_alloc | apply pw_below_drewN | apply below_drew1 | refine below_set ?_ GE251.out) | exact HB.out))) : w.heap.size ≤ gb252)); have n6_ := Aside0.mk ((by rw [hg]; exact Nat.ne_of_lt (blk_lt (g := gb251) (o := .cells #[.int .i64 a1_0, .int .i64 a1_1, .int .i64 a1_2, .slice A1_3 l1_3.length c1_3, .slice A1_4 l1_4.length c1_4] 27 (0, 0)) (by (with_reducible repeat (first | refine blk_drewN ?_ _ | refine blk_drew ?_ | refine blk_alloc ?_ _)); exact BK251.out)) : gb251 ≠ gb252)); have n7_ := Aside0.mk ((by rw [hg]; exact Nat.ne_of_gt (blk_lt (g := gb251) (o := .cells #[.int .i64 a1_0, .int .i64 a1_1, .int .i64 a1_2, .slice A1_3 l1_3.length c1_3, .slice A1_4 l1_4.length c1_4] 27 (0, 0)) (by (with_reducible repeat (first | refine blk_drewN ?_ _ | refine blk_drew ?_ | refine blk_alloc ?_ _)); exact BK251.out)) : gb252 ≠ gb251)); clear HO1_4; clear BK251; clear HB; have HO1_4 := n0_; have BK251 := n1_; have HB := n2_; have BK252 := n3_; have GW252 := n4_; have GE252 := n5_; have NB251_252 := n6_; have NB252_251 := n7_; clear n0_ n1_ n2_ n3_ n4_ n5_ n6_ n7_; clear hb hbox hg; have hnb17 := NB251_252.out; have hnc17 := NB252_251.out; have hcz18_0 : w16.cell? ⟨gb251, 0, none⟩ = some (.int .i64 a1_0) := (blk_cell BK251.out 0).trans rfl; have hcz18_1 : w16.cell? ⟨gb251, 1, none⟩ = some (.int .i64 a1_1) := (blk_cell BK251.out 1).trans rfl; have hcz18_2 : w16.cell? ⟨gb251, 2, none⟩ = some (.int .i64 a1_2) := (blk_cell BK251.out 2).trans rfl; have hcz18_3 : w16.cell? ⟨gb251, 3, none⟩ = some (.slice A1_3 l1_3.length c1_3) := (blk_cell BK251.out 3).trans rfl; have hcz18_4 : w16.cell? ⟨gb251, 4, none⟩ = some (.slice A1_4 l1_4.length c1_4) := (blk_cell BK251.out 4).trans rfl; have hfz18_0 := blk_frozen BK251.out 0; have hfz18_1 := blk_frozen BK251.out 1; have hfz18_2 := blk_frozen BK251.out 2; have hfz18_3 := blk_frozen BK251.out 3; have hfz18_4 := blk_frozen BK251.out 4) | ((with_reducible refine gate_callee (f := 16) rfl ?_); refine goesL_ (some 18) rfl rfl Tryd.func16 (by kernel_rfl) rfl #[.string a0, .agg #[.int .i64 a1_0, .int .i64 a1_1, .int .i64 a1_2, .slice A1_3 l1_3.length c1_3, .slice A1_4 l1_4.length c1_4], .string a2] rfl (by (try simp only [List.map_toArray, List.map_cons, List.map_nil]); first | done | rfl | (simp only [List.length_drop, List.length_take]; rfl)) ?_; (with_reducible refine (spec_Named.calls k a0 a1_0 a1_1 a1_2 _ _ l1_3 _ _ l1_4 a2 t253 _ ?side1 ?side2 ?side3 ?side4 A5.out).mono ?_); (case side1 => repeat (first | exact (Kd.C_below HR1_3.out HB.out) | (with_reducible refine Kd.C_alloc ?_ _) | (with_reducible refine Kd.C_drewN ?_ _) | (with_reducible refine Kd.C_drew ?_))); (case side2 => exact HC1_3.out); (case side3 => repeat (first | exact (Kd.V_reads' HO1_4.out).2.2 | (with_reducible refine Kd.C_alloc ?_ _) | (with_reducible refine Kd.C_drewN ?_ _) | (with_reducible refine Kd.C_drew ?_))); (case side4 => exact (Kd.V_reads' HO1_4.out).2.1); rintro e w19 ⟨rfl, hb⟩; refine ⟨_, rfl, ?_⟩; have n0_ := Aside0.mk (Kd.V_below (by (with_reducible repeat (first | apply Kd.V_alloc | apply Kd.V_drewN | apply Kd.V_drew)); exact HO1_4.out) hb); have n1_ := Aside0.mk (blk_below (g := gb251) (o := .cells #[.int .i64 a1_0, .int .i64 a1_1, .int .i64 a1_2, .slice A1_3 l1_3.length c1_3, .slice A1_4 l1_4.length c1_4] 27 (0, 0)) (by (with_reducible repeat (first | refine blk_drewN ?_ _ | refine blk_drew ?_ | refine blk_alloc ?_ _)); exact BK251.out) hb); have n2_ := Aside0.mk (blk_below (g := gb252) (o := .cells #[.int .i64 0, .int .i64 0, .int .i64 0, .slice none 0 0, .slice none 0 0] 27 (0, 0)) (by (with_reducible repeat (first | refine blk_drewN ?_ _ | refine blk_drew ?_ | refine blk_alloc ?_ _)); exact BK252.out) hb); have n3_ := Aside0.mk (below_step (by repeat (first | (with_reducible first | exact HB.out | apply below_alloc | apply pw_below_drewN | apply below_drew1 | refine below_set ?_ GE251.out | refine below_set ?_ GE252.out) | exact HB.out)) hb); clear HO1_4; clear BK251; clear BK252; clear HB; have HO1_4 := n0_; have BK251 := n1_; have BK252 := n2_; have HB := n3_; clear n0_ n1_ n2_ n3_; (try clear hb); (try clear hb2); (try clear hk); (try clear hi); have hcz20_0 : w19.cell? ⟨gb251, 0, none⟩ = some (.int .i64 a1_0) := (blk_cell BK251.out 0).trans rfl; have hcz20_1 : w19.cell? ⟨gb251, 1, none⟩ = some (.int .i64 a1_1) := (blk_cell BK251.out 1).trans rfl; have hcz20_2 : w19.cell? ⟨gb251, 2, none⟩ = some (.int .i64 a1_2) := (blk_cell BK251.out 2).trans rfl; have hcz20_3 : w19.cell? ⟨gb251, 3, none⟩ = some (.slice A1_3 l1_3.length c1_3) := (blk_cell BK251.out 3).trans rfl; have hcz20_4 : w19.cell? ⟨gb251, 4, none⟩ = some (.slice A1_4 l1_4.length c1_4) := (blk_cell BK251.out 4).trans rfl; have hfz20_0 := blk_frozen BK251.out 0; have hfz20_1 := blk_frozen BK251.out 1; have hfz20_2 := blk_frozen BK251.out 2; have hfz20_3 := blk_frozen BK251.out 3; have hfz20_4 := blk_frozen BK251.out 4; have p254 : 0 ≤ (t253 : Int) := of_decide_eq_true (by first | (with_reducible assumption) | assumption); have q254 : t253 < (l1_4.length : Int) := of_decide_eq_true (by first | (with_reducible assumption) | assumption); obtain ⟨ad254, A254_3, c254_3, A254_4, c254_4, e254, hx254_0, hx254_1, hx254_2, hx254_3, hx254_4, hl254_3, hi254_3, hl254_4, hi254_4⟩ := at_T27 (Kd.V_reads' HO1_4.out).2.2 t253 p254 q254; cases e254; obtain ⟨ce254, hce254, hMe254, hcc254⟩ := Kd.V_get HO1_4.out z27 t253 p254 (by first | exact q254 | exact of_decide_eq_true (by first | (with_reducible assumption) | assumption) | (have e_ := (Kd.V_reads' HO1_4.out).1; omega)); obtain ⟨ua254_3, uc254_3, ua254_4, uc254_4, rfl, ul254_3, ge254_3, ul254_4, ge254_4⟩ := k27_openF hMe254; have hv254_3 := hcc254 3 _ rfl; rw [add_field _ _ 3 (by omega)] at hv254_3; replace hv254_3 := Option.some.inj (hv254_3.symm.trans hx254_3); injection hv254_3 with hva_ hvn_ hvc_; rw [hva_] at ge254_3; rw [hvc_] at ul254_3; have HL254_3 := Aside0.mk (show Kd.V k43 43 _ w.heap.size _ _ ((rd_T27 l1_4 t253).f3) from Kd.V_mk ul254_3 ge254_3); clear hva_ hvn_ hvc_ ge254_3 ul254_3; have hv254_4 := hcc254 4 _ rfl; rw [add_field _ _ 4 (by omega)] at hv254_4; replace hv254_4 := Option.some.inj (hv254_4.symm.trans hx254_4); injection hv254_4 with hva_ hvn_ hvc_; rw [hva_] at ge254_4; rw [hvc_] at ul254_4; have HL254_4 := Aside0.mk (show Kd.V k27 27 _ w.heap.size _ _ ((rd_T27 l1_4 t253).f4) from Kd.V_mk ul254_4 ge254_4); clear hva_ hvn_ hvc_ ge254_4 ul254_4; clear hcc254 hce254; have HR254_3 := Aside0.mk hi254_3; have HC254_3 := Aside0.mk hl254_3; clear hi254_3 hl254_3; have HR254_4 := Aside0.mk hi254_4; have HC254_4 := Aside0.mk hl254_4; clear hi254_4 hl254_4; replace p254 := eq_true p254; replace q254 := eq_true q254; have hcz21_0 : w19.cell? ⟨gb252, 0, none⟩ = some (.int .i64 0) := (blk_cell BK252.out 0).trans rfl; have hcz21_1 : w19.cell? ⟨gb252, 1, none⟩ = some (.int .i64 0) := (blk_cell BK252.out 1).trans rfl; have hcz21_2 : w19.cell? ⟨gb252, 2, none⟩ = some (.int .i64 0) := (blk_cell BK252.out 2).trans rfl; have hcz21_3 : w19.cell? ⟨gb252, 3, none⟩ = some (.slice none 0 0) := (blk_cell BK252.out 3).trans rfl; have hcz21_4 : w19.cell? ⟨gb252, 4, none⟩ = some (.slice none 0 0) := (blk_cell BK252.out 4).trans rfl; have hfz21_0 := blk_frozen BK252.out 0; have hfz21_1 := blk_frozen BK252.out 1; have hfz21_2 := blk_frozen BK252.out 2; have hfz21_3 := blk_frozen BK252.out 3; have hfz21_4 := blk_frozen BK252.out 4))
          refine bodyPost_ret (results_ct rfl _ _ gb252 27 #[.int .i64 ((rd_T27 l1_4 t253).f0), .int .i64 ((rd_T27 l1_4 t253).f1), .int .i64 ((rd_T27 l1_4 t253).f2), .slice A254_3 ((rd_T27 l1_4 t253).f3).length c254_3, .slice A254_4 ((rd_T27 l1_4 t253).f4).length c254_4] (0, 0) _ rfl (by (with_reducible repeat (first | refine blk_drewN ?_ _ | refine blk_drew ?_ | refine blk_alloc ?_ _)); refine blk_put (cs := #[.int .i64 ((rd_T27 l1_4 t253).f0), .int .i64 ((rd_T27 l1_4 t253).f1), .int .i64 ((rd_T27 l1_4 t253).f2), .slice A254_3 ((rd_T27 l1_4 t253).f3).length c254_3, .slice none 0 0]) ?_ 4 _ rfl; (with_reducible repeat (first | refine blk_drewN ?_ _ | refine blk_drew ?_ | refine blk_alloc ?_ _)); refine blk_put (cs := #[.int .i64 ((rd_T27 l1_4 t253).f0), .int .i64 ((rd_T27 l1_4 t253).f1), .int .i64 ((rd_T27 l1_4 t253).f2), .slice none 0 0, .slice none 0 0]) ?_ 3 _ rfl; (with_reducible repeat (first | refine blk_drewN ?_ _ | refine blk_drew ?_ | refine blk_alloc ?_ _)); refine blk_put (cs := #[.int .i64 ((rd_T27 l1_4 t253).f0), .int .i64 ((rd_T27 l1_4 t253).f1), .int .i64 0, .slice none 0 0, .slice none 0 0]) ?_ 2 _ rfl; (with_reducible repeat (first | refine blk_drewN ?_ _ | refine blk_drew ?_ | refine blk_alloc ?_ _)); refine blk_put (cs := #[.int .i64 ((rd_T27 l1_4 t253).f0), .int .i64 0, .int .i64 0, .slice none 0 0, .slice none 0 0]) ?_ 1 _ rfl; (with_reducible repeat (first | refine blk_drewN ?_ _ | refine blk_drew ?_ | refine blk_alloc ?_ _)); refine blk_put (cs := #[.int .i64 0, .int .i64 0, .int .i64 0, .slice none 0 0, .slice none 0 0]) ?_ 0 _ rfl; (with_reducible repeat (first | refine blk_drewN ?_ _ | refine blk_drew ?_ | refine blk_alloc ?_ _)); exact BK252.out) Tryd.underlying27 rfl (by kernel_rfl)) rfl ?_
          exact ⟨_, _, by first | rfl | (simp [errW_none, errW_some] <;> rfl) | (simp [*, errW_none, errW_some] <;> rfl), by (with_reducible repeat (first | apply Kd.V_alloc | apply Kd.V_drewN | apply Kd.V_drew)); exact Kd.V_mono (Kd.V_far (p := ⟨gb252, 4, none⟩) (Kd.V_far (p := ⟨gb252, 3, none⟩) (Kd.V_far (p := ⟨gb252, 2, none⟩) (Kd.V_far (p := ⟨gb252, 1, none⟩) (Kd.V_far (p := ⟨gb252, 0, none⟩) (Kd.V_mono HL254_3.out (fun k_ hk => (⟨hk, hk.2⟩ : _ ∧ k_ ≠ gb252))) (fun _ hk => hk.2) (.int .i64 ((rd_T27 l1_4 t253).f0))) (fun _ hk => hk.2) (.int .i64 ((rd_T27 l1_4 t253).f1))) (fun _ hk => hk.2) (.int .i64 ((rd_T27 l1_4 t253).f2))) (fun _ hk => hk.2) (.slice A254_3 ((rd_T27 l1_4 t253).f3).length c254_3)) (fun _ hk => hk.2) (.slice A254_4 ((rd_T27 l1_4 t253).f4).length c254_4)) (fun _ hk => hk.1.1.1), by (with_reducible repeat (first | apply Kd.V_alloc | apply Kd.V_drewN | apply Kd.V_drew)); exact Kd.V_mono (Kd.V_far (p := ⟨gb252, 4, none⟩) (Kd.V_far (p := ⟨gb252, 3, none⟩) (Kd.V_far (p := ⟨gb252, 2, none⟩) (Kd.V_far (p := ⟨gb252, 1, none⟩) (Kd.V_far (p := ⟨gb252, 0, none⟩) (Kd.V_mono HL254_4.out (fun k_ hk => (⟨hk, hk.2⟩ : _ ∧ k_ ≠ gb252))) (fun _ hk => hk.2) (.int .i64 ((rd_T27 l1_4 t253).f0))) (fun _ hk => hk.2) (.int .i64 ((rd_T27 l1_4 t253).f1))) (fun _ hk => hk.2) (.int .i64 ((rd_T27 l1_4 t253).f2))) (fun _ hk => hk.2) (.slice A254_3 ((rd_T27 l1_4 t253).f3).length c254_3)) (fun _ hk => hk.2) (.slice A254_4 ((rd_T27 l1_4 t253).f4).length c254_4)) (fun _ hk => hk.1.1.1), by repeat (first | (with_reducible first | exact HB.out | apply below_alloc | apply pw_below_drewN | apply below_drew1 | refine below_set ?_ GE251.out | refine below_set ?_ GE252.out) | exact HB.out)⟩
        · rw [if_neg c14] at H
          exact absurd H (by simp)
      · rw [if_neg c13] at H
        exact absurd H (by simp)
  · rw [if_neg c4] at H
    have c4b0 : (a1_0 == 6) = false := beq_eq_false_iff_ne.mpr c4
    have c4b1 : (a1_0 != 6) = true := bne_iff_ne.mpr c4
    by_cases c22 : a1_0 = 5
    · rw [if_pos c22] at H
      have c22b0 : (a1_0 == 5) = true := beq_iff_eq.mpr c22
      have c22b1 : (a1_0 != 5) = false := bne_eq_false_iff_eq.mpr c22
      clear c22
      replace H := Option.bind_eq_some_iff.mp H
      obtain ⟨⟨t255, t256⟩, A230, H⟩ := H
      replace H : (if t256 = true then (spec_Step.j0 k (-1) t255 (decide (t255 < (l1_4.length : Int))) a1_0 a1_1 a1_2 l1_3 l1_4) else (spec_Step.j0 k (-1) t255 false a1_0 a1_1 a1_2 l1_3 l1_4)) = some (r1, r2, r3, r4, r5, r6) := H
      have A23 := Aside0.mk A230
      clear A230
      have HC24 := Aside0.mk H
      clear H
      go_enter Tryd.func26, Tryd.ntmps26
      go_upto_region 7 with (first | ((with_reducible refine gate_dst (N := 4) rfl ?_); (try (refine gate_guard (by rfl) ?_; dsimp only)); refine box_event ?hg (N := 4) ?hd (cs := #[.int .i64 a1_0, .int .i64 a1_1, .int .i64 a1_2, .slice A1_3 l1_3.length c1_3, .slice A1_4 l1_4.length c1_4]) (t := 27) ?hr ?_; (case hd => rfl); (case hg => rfl); (case hr => first | (go_simp; done) | (go_simp; rfl)); intro gb251 hg w25 hbox hb; have n0_ := Aside0.mk (Kd.V_below (Kd.V_elderB (by (with_reducible repeat (first | apply Kd.V_alloc | apply Kd.V_drewN | apply Kd.V_drew)); exact HO1_4.out) gb251 (Nat.le_of_eq hg.symm)) hb); have n1_ := Aside0.mk (below_step (by repeat (first | (with_reducible first | exact HB.out | apply below_alloc | apply pw_below_drewN | apply below_drew1) | exact HB.out)) hb); have n2_ := Aside0.mk (hbox); have n3_ := Aside0.mk ((by rw [hg]; exact (below_size (by repeat (first | (with_reducible first | exact HB.out | apply below_alloc | apply pw_below_drewN | apply below_drew1) | exact HB.out))) : w.heap.size ≤ gb251)); have n4_ := Aside0.mk ((by rw [hg]; exact (below_size (by repeat (first | (with_reducible first | exact HB.out | apply below_alloc | apply pw_below_drewN | apply below_drew1) | exact HB.out))) : w.heap.size ≤ gb251)); clear HO1_4; clear HB; have HO1_4 := n0_; have HB := n1_; have BK251 := n2_; have GW251 := n3_; have GE251 := n4_; clear n0_ n1_ n2_ n3_ n4_; clear hb hbox hg) | ((with_reducible refine gate_dst (N := 6) rfl ?_); (try (refine gate_guard (by rfl) ?_; dsimp only)); refine box_event ?hg (N := 6) ?hd (cs := #[.int .i64 0, .int .i64 0, .int .i64 0, .slice none 0 0, .slice none 0 0]) (t := 27) ?hr ?_; (case hd => rfl); (case hg => rfl); (case hr => first | (go_simp; done) | (go_simp; rfl)); intro gb252 hg w26 hbox hb; have n0_ := Aside0.mk (Kd.V_below (Kd.V_elderB (by (with_reducible repeat (first | apply Kd.V_alloc | apply Kd.V_drewN | apply Kd.V_drew)); exact HO1_4.out) gb252 (Nat.le_of_eq hg.symm)) hb); have n1_ := Aside0.mk (blk_below (g := gb251) (o := .cells #[.int .i64 a1_0, .int .i64 a1_1, .int .i64 a1_2, .slice A1_3 l1_3.length c1_3, .slice A1_4 l1_4.length c1_4] 27 (0, 0)) (by (with_reducible repeat (first | refine blk_drewN ?_ _ | refine blk_drew ?_ | refine blk_alloc ?_ _)); exact BK251.out) hb); have n2_ := Aside0.mk (below_step (by repeat (first | (with_reducible first | exact HB.out | apply below_alloc | apply pw_below_drewN | apply below_drew1 | refine below_set ?_ GE251.out) | exact HB.out)) hb); have n3_ := Aside0.mk (hbox); have n4_ := Aside0.mk ((by rw [hg]; exact (below_size (by repeat (first | (with_reducible first | exact HB.out | apply below_alloc | apply pw_below_drewN | apply below_drew1 | refine below_set ?_ GE251.out) | exact HB.out))) : w.heap.size ≤ gb252)); have n5_ := Aside0.mk ((by rw [hg]; exact (below_size (by repeat (first | (with_reducible first | exact HB.out | apply below_alloc | apply pw_below_drewN | apply below_drew1 | refine below_set ?_ GE251.out) | exact HB.out))) : w.heap.size ≤ gb252)); have n6_ := Aside0.mk ((by rw [hg]; exact Nat.ne_of_lt (blk_lt (g := gb251) (o := .cells #[.int .i64 a1_0, .int .i64 a1_1, .int .i64 a1_2, .slice A1_3 l1_3.length c1_3, .slice A1_4 l1_4.length c1_4] 27 (0, 0)) (by (with_reducible repeat (first | refine blk_drewN ?_ _ | refine blk_drew ?_ | refine blk_alloc ?_ _)); exact BK251.out)) : gb251 ≠ gb252)); have n7_ := Aside0.mk ((by rw [hg]; exact Nat.ne_of_gt (blk_lt (g := gb251) (o := .cells #[.int .i64 a1_0, .int .i64 a1_1, .int .i64 a1_2, .slice A1_3 l1_3.length c1_3, .slice A1_4 l1_4.length c1_4] 27 (0, 0)) (by (with_reducible repeat (first | refine blk_drewN ?_ _ | refine blk_drew ?_ | refine blk_alloc ?_ _)); exact BK251.out)) : gb252 ≠ gb251)); clear HO1_4; clear BK251; clear HB; have HO1_4 := n0_; have BK251 := n1_; have HB := n2_; have BK252 := n3_; have GW252 := n4_; have GE252 := n5_; have NB251_252 := n6_; have NB252_251 := n7_; clear n0_ n1_ n2_ n3_ n4_ n5_ n6_ n7_; clear hb hbox hg; have hnb27 := NB251_252.out; have hnc27 := NB252_251.out; have hcz28_0 : w26.cell? ⟨gb251, 0, none⟩ = some (.int .i64 a1_0) := (blk_cell BK251.out 0).trans rfl; have hcz28_1 : w26.cell? ⟨gb251, 1, none⟩ = some (.int .i64 a1_1) := (blk_cell BK251.out 1).trans rfl; have hcz28_2 : w26.cell? ⟨gb251, 2, none⟩ = some (.int .i64 a1_2) := (blk_cell BK251.out 2).trans rfl; have hcz28_3 : w26.cell? ⟨gb251, 3, none⟩ = some (.slice A1_3 l1_3.length c1_3) := (blk_cell BK251.out 3).trans rfl; have hcz28_4 : w26.cell? ⟨gb251, 4, none⟩ = some (.slice A1_4 l1_4.length c1_4) := (blk_cell BK251.out 4).trans rfl; have hfz28_0 := blk_frozen BK251.out 0; have hfz28_1 := blk_frozen BK251.out 1; have hfz28_2 := blk_frozen BK251.out 2; have hfz28_3 := blk_frozen BK251.out 3; have hfz28_4 := blk_frozen BK251.out 4) | ((with_reducible refine gate_callee (f := 43) rfl ?_); refine goesL_ (some 23) rfl rfl Tryd.func43 (by kernel_rfl) rfl #[.string a2] rfl (by (try simp only [List.map_toArray, List.map_cons, List.map_nil]); first | done | rfl | (simp only [List.length_drop, List.length_take]; rfl)) ?_; (with_reducible refine (spec_Bracket.calls k a2 t255 t256 _ A23.out).mono ?_); rintro e w' ⟨rfl, ⟨nd, rfl⟩⟩; refine ⟨_, rfl, ?_⟩))
      (try simp only [Act.put, List.setIfInBounds_toArray, List.set_cons_zero, List.set_cons_succ])
      go_cut [33] (fun v33 wc => ∃ (kq : Nat) (x33_23 : Bool), v33 = .bool x33_23 ∧ Aside0 (spec_Step.j0 kq (-1) t255 x33_23 a1_0 a1_1 a1_2 l1_3 l1_4 = some (r1, r2, r3, r4, r5, r6)) ∧ Aside0 (kq ≤ k) ∧ Aside0 (Kd.V k27 27 wc w.heap.size (fun k_ => (P1_4_ k_ ∨ w.heap.size ≤ k_) ∧ k_ ≠ gb251 ∧ k_ ≠ gb252) (.slice A1_4 l1_4.length c1_4) l1_4) ∧ Aside0 (wc.heap[gb251]? = some (.cells #[.int .i64 a1_0, .int .i64 a1_1, .int .i64 a1_2, (.slice A1_3 l1_3.length c1_3), (.slice A1_4 l1_4.length c1_4)] 27 (0, 0))) ∧ Aside0 (wc.heap[gb252]? = some (.cells #[.int .i64 0, .int .i64 0, .int .i64 0, (.slice none 0 0), (.slice none 0 0)] 27 (0, 0))) ∧ Aside0 (Below w.heap.size w wc))
      case first =>
        have H := HC24.out
        clear HC24
        by_cases c29 : t256 = true
        · subst c29
          have H1 : (spec_Step.j0 k (-1) t255 (decide (t255 < (l1_4.length : Int))) a1_0 a1_1 a1_2 l1_3 l1_4) = some (r1, r2, r3, r4, r5, r6) := by rw [if_pos rfl] at H; exact H
          clear H
          have H := H1
          clear H1
          have H' := Aside0.mk H
          clear H
          have hnb30 := NB251_252.out
          have hnc30 := NB252_251.out
          have hcz31_0 : w26.cell? ⟨gb251, 0, none⟩ = some (.int .i64 a1_0) := (blk_cell BK251.out 0).trans rfl
          have hcz31_1 : w26.cell? ⟨gb251, 1, none⟩ = some (.int .i64 a1_1) := (blk_cell BK251.out 1).trans rfl
          have hcz31_2 : w26.cell? ⟨gb251, 2, none⟩ = some (.int .i64 a1_2) := (blk_cell BK251.out 2).trans rfl
          have hcz31_3 : w26.cell? ⟨gb251, 3, none⟩ = some (.slice A1_3 l1_3.length c1_3) := (blk_cell BK251.out 3).trans rfl
          have hcz31_4 : w26.cell? ⟨gb251, 4, none⟩ = some (.slice A1_4 l1_4.length c1_4) := (blk_cell BK251.out 4).trans rfl
          have hfz31_0 := blk_frozen BK251.out 0
          have hfz31_1 := blk_frozen BK251.out 1
          have hfz31_2 := blk_frozen BK251.out 2
          have hfz31_3 := blk_frozen BK251.out 3
          have hfz31_4 := blk_frozen BK251.out 4
          go_wp2
          go_meet
          case rel => exact ⟨_, (decide (t255 < (l1_4.length : Int))), (by first | rfl | (simp; done) | (simp [*]; done)), H', ⟨by first | omega | exact Nat.le_refl _⟩, ⟨by (with_reducible repeat (first | apply Kd.V_alloc | apply Kd.V_drewN | apply Kd.V_drew)); exact Kd.V_mono HO1_4.out (fun _ hk => ⟨hk.1.1, ⟨hk.1.2, hk.2⟩⟩)⟩, ⟨by (with_reducible repeat (first | refine blk_drewN ?_ _ | refine blk_drew ?_ | refine blk_alloc ?_ _)); exact BK251.out⟩, ⟨by (with_reducible repeat (first | refine blk_drewN ?_ _ | refine blk_drew ?_ | refine blk_alloc ?_ _)); exact BK252.out⟩, ⟨by repeat (first | (with_reducible first | exact HB.out | apply below_alloc | apply pw_below_drewN | apply below_drew1 | refine below_set ?_ GE251.out | refine below_set ?_ GE252.out) | exact HB.out)⟩⟩
        · replace c29 := Bool.eq_false_iff.mpr c29
          subst c29
          have H1 : (spec_Step.j0 k (-1) t255 false a1_0 a1_1 a1_2 l1_3 l1_4) = some (r1, r2, r3, r4, r5, r6) := by rw [if_neg (show ¬ (false = true) by decide)] at H; exact H
          clear H
          have H := H1
          clear H1
          have H' := Aside0.mk H
          clear H
          go_wp2
          go_meet
          case rel => exact ⟨_, (false), (by first | rfl | (simp; done) | (simp [*]; done)), H', ⟨by first | omega | exact Nat.le_refl _⟩, ⟨by (with_reducible repeat (first | apply Kd.V_alloc | apply Kd.V_drewN | apply Kd.V_drew)); exact Kd.V_mono HO1_4.out (fun _ hk => ⟨hk.1.1, ⟨hk.1.2, hk.2⟩⟩)⟩, ⟨by (with_reducible repeat (first | refine blk_drewN ?_ _ | refine blk_drew ?_ | refine blk_alloc ?_ _)); exact BK251.out⟩, ⟨by (with_reducible repeat (first | refine blk_drewN ?_ _ | refine blk_drew ?_ | refine blk_alloc ?_ _)); exact BK252.out⟩, ⟨by repeat (first | (with_reducible first | exact HB.out | apply below_alloc | apply pw_below_drewN | apply below_drew1 | refine below_set ?_ GE251.out | refine below_set ?_ GE252.out) | exact HB.out)⟩⟩
      case rest =>
        clear HC24
        try clear c1
        try clear c2
        try clear p2
        try clear q2
        try clear hx2
        try clear c3
        try clear c4
        try clear c4b0
        try clear c4b1
        try clear c6
        try clear c6b0
        try clear c9
        try clear c13
        try clear c13b0
        try clear c14
        try clear c14b0
        try clear c16
        try clear c17
        try clear c22
        try clear c22b0
        try clear c22b1
        try clear c25
        try clear p25
        try clear q25
        try clear hx25
        try clear c26
        try clear c27
        try clear c29
        try clear c30
        try clear hcz10_0
        try clear hcz10_1
        try clear hcz10_2
        try clear hcz10_3
        try clear hcz10_4
        try clear hcz12_0
        try clear hcz12_1
        try clear hcz12_2
        try clear hcz12_3
        try clear hcz12_4
        try clear hcz18_0
        try clear hcz18_1
        try clear hcz18_2
        try clear hcz18_3
        try clear hcz18_4
        try clear hcz20_0
        try clear hcz20_1
        try clear hcz20_2
        try clear hcz20_3
        try clear hcz20_4
        try clear hcz21_0
        try clear hcz21_1
        try clear hcz21_2
        try clear hcz21_3
        try clear hcz21_4
        try clear hcz28_0
        try clear hcz28_1
        try clear hcz28_2
        try clear hcz28_3
        try clear hcz28_4
        try clear hcz31_0
        try clear hcz31_1
        try clear hcz31_2
        try clear hcz31_3
        try clear hcz31_4
        try clear hfz10_0
        try clear hfz10_1
        try clear hfz10_2
        try clear hfz10_3
        try clear hfz10_4
        try clear hfz12_0
        try clear hfz12_1
        try clear hfz12_2
        try clear hfz12_3
        try clear hfz12_4
        try clear hfz18_0
        try clear hfz18_1
        try clear hfz18_2
        try clear hfz18_3
        try clear hfz18_4
        try clear hfz20_0
        try clear hfz20_1
        try clear hfz20_2
        try clear hfz20_3
        try clear hfz20_4
        try clear hfz21_0
        try clear hfz21_1
        try clear hfz21_2
        try clear hfz21_3
        try clear hfz21_4
        try clear hfz28_0
        try clear hfz28_1
        try clear hfz28_2
        try clear hfz28_3
        try clear hfz28_4
        try clear hfz31_0
        try clear hfz31_1
        try clear hfz31_2
        try clear hfz31_3
        try clear hfz31_4
        try clear hx254_0
        try clear hx254_1
        try clear hx254_2
        try clear hx254_3
        try clear hx254_4
        try clear p254
        try clear q254
        obtain ⟨kq, x33_23, rfl, HA, HJ23, HO_252004, BK251, BK252, HB⟩ := hcut
        cases kq with
        | zero => exact absurd HA.out (by simp [spec_Step.j0])
        | succ kj23 =>
          have H := HA.out
          clear HA
          simp only [spec_Step.j0] at H
          by_cases c32 : x33_23 = true
          · subst c32
            have H1 : (if t255 < 0 then (some (0, 0, 0, ([] : List (S43)), ([] : List (S27)), false)) else (if 0 ≤ t255 then (if t255 < (l1_4.length : Int) then (some ((rd_T27 l1_4 t255).f0, (rd_T27 l1_4 t255).f1, (rd_T27 l1_4 t255).f2, (rd_T27 l1_4 t255).f3, (rd_T27 l1_4 t255).f4, true)) else (none)) else (none))) = some (r1, r2, r3, r4, r5, r6) := by rw [if_pos rfl] at H; exact H
            clear H
            have H := H1
            clear H1
            by_cases c33 : t255 < 0
            · rw [if_pos c33] at H
              have c33b0 : decide (t255 < 0) = true := decide_eq_true c33
              clear c33
              simp only [Option.some.injEq, Prod.mk.injEq] at H
              obtain ⟨rfl, rfl, rfl, rfl, rfl, rfl⟩ := H
              have hnb34 := NB252_251.out
              have hnc34 := NB251_252.out
              have hcz35_0 : wc.cell? ⟨gb252, 0, none⟩ = some (.int .i64 0) := (blk_cell BK252.out 0).trans rfl
              have hcz35_1 : wc.cell? ⟨gb252, 1, none⟩ = some (.int .i64 0) := (blk_cell BK252.out 1).trans rfl
              have hcz35_2 : wc.cell? ⟨gb252, 2, none⟩ = some (.int .i64 0) := (blk_cell BK252.out 2).trans rfl
              have hcz35_3 : wc.cell? ⟨gb252, 3, none⟩ = some (.slice none 0 0) := (blk_cell BK252.out 3).trans rfl
              have hcz35_4 : wc.cell? ⟨gb252, 4, none⟩ = some (.slice none 0 0) := (blk_cell BK252.out 4).trans rfl
              have hfz35_0 := blk_frozen BK252.out 0
              have hfz35_1 := blk_frozen BK252.out 1
              have hfz35_2 := blk_frozen BK252.out 2
              have hfz35_3 := blk_frozen BK252.out 3
              have hfz35_4 := blk_frozen BK252.out 4
              go_wp2
              refine bodyPost_ret (results_ct rfl _ _ gb252 27 #[.int .i64 0, .int .i64 0, .int .i64 0, .slice none 0 0, .slice none 0 0] (0, 0) _ rfl (by (with_reducible repeat (first | refine blk_drewN ?_ _ | refine blk_drew ?_ | refine blk_alloc ?_ _)); refine blk_put (cs := #[.int .i64 0, .int .i64 0, .int .i64 0, .slice none 0 0, .slice none 0 0]) ?_ 4 _ rfl; (with_reducible repeat (first | refine blk_drewN ?_ _ | refine blk_drew ?_ | refine blk_alloc ?_ _)); refine blk_put (cs := #[.int .i64 0, .int .i64 0, .int .i64 0, .slice none 0 0, .slice none 0 0]) ?_ 3 _ rfl; (with_reducible repeat (first | refine blk_drewN ?_ _ | refine blk_drew ?_ | refine blk_alloc ?_ _)); refine blk_put (cs := #[.int .i64 0, .int .i64 0, .int .i64 0, .slice none 0 0, .slice none 0 0]) ?_ 2 _ rfl; (with_reducible repeat (first | refine blk_drewN ?_ _ | refine blk_drew ?_ | refine blk_alloc ?_ _)); refine blk_put (cs := #[.int .i64 0, .int .i64 0, .int .i64 0, .slice none 0 0, .slice none 0 0]) ?_ 1 _ rfl; (with_reducible repeat (first | refine blk_drewN ?_ _ | refine blk_drew ?_ | refine blk_alloc ?_ _)); refine blk_put (cs := #[.int .i64 0, .int .i64 0, .int .i64 0, .slice none 0 0, .slice none 0 0]) ?_ 0 _ rfl; (with_reducible repeat (first | refine blk_drewN ?_ _ | refine blk_drew ?_ | refine blk_alloc ?_ _)); exact BK252.out) Tryd.underlying27 rfl (by kernel_rfl)) rfl ?_
              exact ⟨_, _, by first | rfl | (simp [errW_none, errW_some] <;> rfl) | (simp [*, errW_none, errW_some] <;> rfl), Kd.V_nil _ _ _ _ _, Kd.V_nil _ _ _ _ _, by repeat (first | (with_reducible first | exact HB.out | apply below_alloc | apply pw_below_drewN | apply below_drew1 | refine below_set ?_ GE251.out | refine below_set ?_ GE252.out) | exact HB.out)⟩
            · rw [if_neg c33] at H
              have c33b0 : decide (t255 < 0) = false := decide_eq_false c33
              clear c33
              by_cases c36 : 0 ≤ t255
              · rw [if_pos c36] at H
                have c36b0 : decide (0 ≤ t255) = true := decide_eq_true c36
                clear c36
                by_cases c37 : t255 < (l1_4.length : Int)
                · rw [if_pos c37] at H
                  have c37b0 : decide (t255 < (l1_4.length : Int)) = true := decide_eq_true c37
                  clear c37
                  simp only [Option.some.injEq, Prod.mk.injEq] at H
                  obtain ⟨rfl, rfl, rfl, rfl, rfl, rfl⟩ := H
                  have hnb38 := NB251_252.out
                  have hnc38 := NB252_251.out
                  have hcz39_0 : wc.cell? ⟨gb251, 0, none⟩ = some (.int .i64 a1_0) := (blk_cell BK251.out 0).trans rfl
                  have hcz39_1 : wc.cell? ⟨gb251, 1, none⟩ = some (.int .i64 a1_1) := (blk_cell BK251.out 1).trans rfl
                  have hcz39_2 : wc.cell? ⟨gb251, 2, none⟩ = some (.int .i64 a1_2) := (blk_cell BK251.out 2).trans rfl
                  have hcz39_3 : wc.cell? ⟨gb251, 3, none⟩ = some (.slice A1_3 l1_3.length c1_3) := (blk_cell BK251.out 3).trans rfl
                  have hcz39_4 : wc.cell? ⟨gb251, 4, none⟩ = some (.slice A1_4 l1_4.length c1_4) := (blk_cell BK251.out 4).trans rfl
                  have hfz39_0 := blk_frozen BK251.out 0
                  have hfz39_1 := blk_frozen BK251.out 1
                  have hfz39_2 := blk_frozen BK251.out 2
                  have hfz39_3 := blk_frozen BK251.out 3
                  have hfz39_4 := blk_frozen BK251.out 4
                  have p257 : 0 ≤ (t255 : Int) := of_decide_eq_true (by first | (with_reducible assumption) | assumption)
                  have q257 : t255 < (l1_4.length : Int) := of_decide_eq_true (by first | (with_reducible assumption) | assumption)
                  obtain ⟨ad257, A257_3, c257_3, A257_4, c257_4, e257, hx257_0, hx257_1, hx257_2, hx257_3, hx257_4, hl257_3, hi257_3, hl257_4, hi257_4⟩ := at_T27 (Kd.V_reads' HO_252004.out).2.2 t255 p257 q257
                  cases e257
                  obtain ⟨ce257, hce257, hMe257, hcc257⟩ := Kd.V_get HO_252004.out z27 t255 p257 (by first | exact q257 | exact of_decide_eq_true (by first | (with_reducible assumption) | assumption) | (have e_ := (Kd.V_reads' HO_252004.out).1; omega))
                  obtain ⟨ua257_3, uc257_3, ua257_4, uc257_4, rfl, ul257_3, ge257_3, ul257_4, ge257_4⟩ := k27_openF hMe257
                  have hv257_3 := hcc257 3 _ rfl
                  rw [add_field _ _ 3 (by omega)] at hv257_3
                  replace hv257_3 := Option.some.inj (hv257_3.symm.trans hx257_3)
                  injection hv257_3 with hva_ hvn_ hvc_
                  rw [hva_] at ge257_3
                  rw [hvc_] at ul257_3
                  have HL257_3 := Aside0.mk (show Kd.V k43 43 _ w.heap.size _ _ ((rd_T27 l1_4 t255).f3) from Kd.V_mk ul257_3 ge257_3)
                  clear hva_ hvn_ hvc_ ge257_3 ul257_3
                  have hv257_4 := hcc257 4 _ rfl
                  rw [add_field _ _ 4 (by omega)] at hv257_4
                  replace hv257_4 := Option.some.inj (hv257_4.symm.trans hx257_4)
                  injection hv257_4 with hva_ hvn_ hvc_
                  rw [hva_] at ge257_4
                  rw [hvc_] at ul257_4
                  have HL257_4 := Aside0.mk (show Kd.V k27 27 _ w.heap.size _ _ ((rd_T27 l1_4 t255).f4) from Kd.V_mk ul257_4 ge257_4)
                  clear hva_ hvn_ hvc_ ge257_4 ul257_4
                  clear hcc257 hce257
                  have HR257_3 := Aside0.mk hi257_3
                  have HC257_3 := Aside0.mk hl257_3
                  clear hi257_3 hl257_3
                  have HR257_4 := Aside0.mk hi257_4
                  have HC257_4 := Aside0.mk hl257_4
                  clear hi257_4 hl257_4
                  replace p257 := eq_true p257
                  replace q257 := eq_true q257
                  have hcz40_0 : wc.cell? ⟨gb252, 0, none⟩ = some (.int .i64 0) := (blk_cell BK252.out 0).trans rfl
                  have hcz40_1 : wc.cell? ⟨gb252, 1, none⟩ = some (.int .i64 0) := (blk_cell BK252.out 1).trans rfl
                  have hcz40_2 : wc.cell? ⟨gb252, 2, none⟩ = some (.int .i64 0) := (blk_cell BK252.out 2).trans rfl
                  have hcz40_3 : wc.cell? ⟨gb252, 3, none⟩ = some (.slice none 0 0) := (blk_cell BK252.out 3).trans rfl
                  have hcz40_4 : wc.cell? ⟨gb252, 4, none⟩ = some (.slice none 0 0) := (blk_cell BK252.out 4).trans rfl
                  have hfz40_0 := blk_frozen BK252.out 0
                  have hfz40_1 := blk_frozen BK252.out 1
                  have hfz40_2 := blk_frozen BK252.out 2
                  have hfz40_3 := blk_frozen BK252.out 3
                  have hfz40_4 := blk_frozen BK252.out 4
                  go_wp2
                  refine bodyPost_ret (results_ct rfl _ _ gb252 27 #[.int .i64 ((rd_T27 l1_4 t255).f0), .int .i64 ((rd_T27 l1_4 t255).f1), .int .i64 ((rd_T27 l1_4 t255).f2), .slice A257_3 ((rd_T27 l1_4 t255).f3).length c257_3, .slice A257_4 ((rd_T27 l1_4 t255).f4).length c257_4] (0, 0) _ rfl (by (with_reducible repeat (first | refine blk_drewN ?_ _ | refine blk_drew ?_ | refine blk_alloc ?_ _)); refine blk_put (cs := #[.int .i64 ((rd_T27 l1_4 t255).f0), .int .i64 ((rd_T27 l1_4 t255).f1), .int .i64 ((rd_T27 l1_4 t255).f2), .slice A257_3 ((rd_T27 l1_4 t255).f3).length c257_3, .slice none 0 0]) ?_ 4 _ rfl; (with_reducible repeat (first | refine blk_drewN ?_ _ | refine blk_drew ?_ | refine blk_alloc ?_ _)); refine blk_put (cs := #[.int .i64 ((rd_T27 l1_4 t255).f0), .int .i64 ((rd_T27 l1_4 t255).f1), .int .i64 ((rd_T27 l1_4 t255).f2), .slice none 0 0, .slice none 0 0]) ?_ 3 _ rfl; (with_reducible repeat (first | refine blk_drewN ?_ _ | refine blk_drew ?_ | refine blk_alloc ?_ _)); refine blk_put (cs := #[.int .i64 ((rd_T27 l1_4 t255).f0), .int .i64 ((rd_T27 l1_4 t255).f1), .int .i64 0, .slice none 0 0, .slice none 0 0]) ?_ 2 _ rfl; (with_reducible repeat (first | refine blk_drewN ?_ _ | refine blk_drew ?_ | refine blk_alloc ?_ _)); refine blk_put (cs := #[.int .i64 ((rd_T27 l1_4 t255).f0), .int .i64 0, .int .i64 0, .slice none 0 0, .slice none 0 0]) ?_ 1 _ rfl; (with_reducible repeat (first | refine blk_drewN ?_ _ | refine blk_drew ?_ | refine blk_alloc ?_ _)); refine blk_put (cs := #[.int .i64 0, .int .i64 0, .int .i64 0, .slice none 0 0, .slice none 0 0]) ?_ 0 _ rfl; (with_reducible repeat (first | refine blk_drewN ?_ _ | refine blk_drew ?_ | refine blk_alloc ?_ _)); exact BK252.out) Tryd.underlying27 rfl (by kernel_rfl)) rfl ?_
                  exact ⟨_, _, by first | rfl | (simp [errW_none, errW_some] <;> rfl) | (simp [*, errW_none, errW_some] <;> rfl), by (with_reducible repeat (first | apply Kd.V_alloc | apply Kd.V_drewN | apply Kd.V_drew)); exact Kd.V_mono (Kd.V_far (p := ⟨gb252, 4, none⟩) (Kd.V_far (p := ⟨gb252, 3, none⟩) (Kd.V_far (p := ⟨gb252, 2, none⟩) (Kd.V_far (p := ⟨gb252, 1, none⟩) (Kd.V_far (p := ⟨gb252, 0, none⟩) (Kd.V_mono HL257_3.out (fun k_ hk => (⟨hk, hk.2.2⟩ : _ ∧ k_ ≠ gb252))) (fun _ hk => hk.2) (.int .i64 ((rd_T27 l1_4 t255).f0))) (fun _ hk => hk.2) (.int .i64 ((rd_T27 l1_4 t255).f1))) (fun _ hk => hk.2) (.int .i64 ((rd_T27 l1_4 t255).f2))) (fun _ hk => hk.2) (.slice A257_3 ((rd_T27 l1_4 t255).f3).length c257_3)) (fun _ hk => hk.2) (.slice A257_4 ((rd_T27 l1_4 t255).f4).length c257_4)) (fun _ hk => hk.1.1), by (with_reducible repeat (first | apply Kd.V_alloc | apply Kd.V_drewN | apply Kd.V_drew)); exact Kd.V_mono (Kd.V_far (p := ⟨gb252, 4, none⟩) (Kd.V_far (p := ⟨gb252, 3, none⟩) (Kd.V_far (p := ⟨gb252, 2, none⟩) (Kd.V_far (p := ⟨gb252, 1, none⟩) (Kd.V_far (p := ⟨gb252, 0, none⟩) (Kd.V_mono HL257_4.out (fun k_ hk => (⟨hk, hk.2.2⟩ : _ ∧ k_ ≠ gb252))) (fun _ hk => hk.2) (.int .i64 ((rd_T27 l1_4 t255).f0))) (fun _ hk => hk.2) (.int .i64 ((rd_T27 l1_4 t255).f1))) (fun _ hk => hk.2) (.int .i64 ((rd_T27 l1_4 t255).f2))) (fun _ hk => hk.2) (.slice A257_3 ((rd_T27 l1_4 t255).f3).length c257_3)) (fun _ hk => hk.2) (.slice A257_4 ((rd_T27 l1_4 t255).f4).length c257_4)) (fun _ hk => hk.1.1), by repeat (first | (with_reducible first | exact HB.out | apply below_alloc | apply pw_below_drewN | apply below_drew1 | refine below_set ?_ GE251.out | refine below_set ?_ GE252.out) | exact HB.out)⟩
                · rw [if_neg c37] at H
                  exact absurd H (by simp)
              · rw [if_neg c36] at H
                exact absurd H (by simp)
          · replace c32 := Bool.eq_false_iff.mpr c32
            subst c32
            have H1 : (if (-1) < 0 then (some (0, 0, 0, ([] : List (S43)), ([] : List (S27)), false)) else (if 0 ≤ (-1) then (if (-1) < (l1_4.length : Int) then (some ((rd_T27 l1_4 (-1)).f0, (rd_T27 l1_4 (-1)).f1, (rd_T27 l1_4 (-1)).f2, (rd_T27 l1_4 (-1)).f3, (rd_T27 l1_4 (-1)).f4, true)) else (none)) else (none))) = some (r1, r2, r3, r4, r5, r6) := by rw [if_neg (show ¬ (false = true) by decide)] at H; exact H
            clear H
            have H := H1
            clear H1
            by_cases c41 : (-1) < 0
            · rw [if_pos c41] at H
              have c41b0 : decide ((-1) < 0) = true := decide_eq_true c41
              clear c41
              simp only [Option.some.injEq, Prod.mk.injEq] at H
              obtain ⟨rfl, rfl, rfl, rfl, rfl, rfl⟩ := H
              have hnb42 := NB252_251.out
              have hnc42 := NB251_252.out
              have hcz43_0 : wc.cell? ⟨gb252, 0, none⟩ = some (.int .i64 0) := (blk_cell BK252.out 0).trans rfl
              have hcz43_1 : wc.cell? ⟨gb252, 1, none⟩ = some (.int .i64 0) := (blk_cell BK252.out 1).trans rfl
              have hcz43_2 : wc.cell? ⟨gb252, 2, none⟩ = some (.int .i64 0) := (blk_cell BK252.out 2).trans rfl
              have hcz43_3 : wc.cell? ⟨gb252, 3, none⟩ = some (.slice none 0 0) := (blk_cell BK252.out 3).trans rfl
              have hcz43_4 : wc.cell? ⟨gb252, 4, none⟩ = some (.slice none 0 0) := (blk_cell BK252.out 4).trans rfl
              have hfz43_0 := blk_frozen BK252.out 0
              have hfz43_1 := blk_frozen BK252.out 1
              have hfz43_2 := blk_frozen BK252.out 2
              have hfz43_3 := blk_frozen BK252.out 3
              have hfz43_4 := blk_frozen BK252.out 4
              go_wp2
              refine bodyPost_ret (results_ct rfl _ _ gb252 27 #[.int .i64 0, .int .i64 0, .int .i64 0, .slice none 0 0, .slice none 0 0] (0, 0) _ rfl (by (with_reducible repeat (first | refine blk_drewN ?_ _ | refine blk_drew ?_ | refine blk_alloc ?_ _)); refine blk_put (cs := #[.int .i64 0, .int .i64 0, .int .i64 0, .slice none 0 0, .slice none 0 0]) ?_ 4 _ rfl; (with_reducible repeat (first | refine blk_drewN ?_ _ | refine blk_drew ?_ | refine blk_alloc ?_ _)); refine blk_put (cs := #[.int .i64 0, .int .i64 0, .int .i64 0, .slice none 0 0, .slice none 0 0]) ?_ 3 _ rfl; (with_reducible repeat (first | refine blk_drewN ?_ _ | refine blk_drew ?_ | refine blk_alloc ?_ _)); refine blk_put (cs := #[.int .i64 0, .int .i64 0, .int .i64 0, .slice none 0 0, .slice none 0 0]) ?_ 2 _ rfl; (with_reducible repeat (first | refine blk_drewN ?_ _ | refine blk_drew ?_ | refine blk_alloc ?_ _)); refine blk_put (cs := #[.int .i64 0, .int .i64 0, .int .i64 0, .slice none 0 0, .slice none 0 0]) ?_ 1 _ rfl; (with_reducible repeat (first | refine blk_drewN ?_ _ | refine blk_drew ?_ | refine blk_alloc ?_ _)); refine blk_put (cs := #[.int .i64 0, .int .i64 0, .int .i64 0, .slice none 0 0, .slice none 0 0]) ?_ 0 _ rfl; (with_reducible repeat (first | refine blk_drewN ?_ _ | refine blk_drew ?_ | refine blk_alloc ?_ _)); exact BK252.out) Tryd.underlying27 rfl (by kernel_rfl)) rfl ?_
              exact ⟨_, _, by first | rfl | (simp [errW_none, errW_some] <;> rfl) | (simp [*, errW_none, errW_some] <;> rfl), Kd.V_nil _ _ _ _ _, Kd.V_nil _ _ _ _ _, by repeat (first | (with_reducible first | exact HB.out | apply below_alloc | apply pw_below_drewN | apply below_drew1 | refine below_set ?_ GE251.out | refine below_set ?_ GE252.out) | exact HB.out)⟩
            · exact absurd (by decide) c41
    · rw [if_neg c22] at H
      have c22b0 : (a1_0 == 5) = false := beq_eq_false_iff_ne.mpr c22
      have c22b1 : (a1_0 != 5) = true := bne_iff_ne.mpr c22
      by_cases c49 : (-1) < 0
      · rw [if_pos c49] at H
        have c49b0 : decide ((-1) < 0) = true := decide_eq_true c49
        clear c49
        simp only [Option.some.injEq, Prod.mk.injEq] at H
        obtain ⟨rfl, rfl, rfl, rfl, rfl, rfl⟩ := H
        go_enter Tryd.func26, Tryd.ntmps26
        go_wp2_with (first | ((with_reducible refine gate_dst (N := 4) rfl ?_); (try (refine gate_guard (by rfl) ?_; dsimp only)); refine box_event ?hg (N := 4) ?hd (cs := #[.int .i64 a1_0, .int .i64 a1_1, .int .i64 a1_2, .slice A1_3 l1_3.length c1_3, .slice A1_4 l1_4.length c1_4]) (t := 27) ?hr ?_; (case hd => rfl); (case hg => rfl); (case hr => first | (go_simp; done) | (go_simp; rfl)); intro gb251 hg w50 hbox hb; have n0_ := Aside0.mk (Kd.V_below (Kd.V_elderB (by (with_reducible repeat (first | apply Kd.V_alloc | apply Kd.V_drewN | apply Kd.V_drew)); exact HO1_4.out) gb251 (Nat.le_of_eq hg.symm)) hb); have n1_ := Aside0.mk (below_step (by repeat (first | (with_reducible first | exact HB.out | apply below_alloc | apply pw_below_drewN | apply below_drew1) | exact HB.out)) hb); have n2_ := Aside0.mk (hbox); have n3_ := Aside0.mk ((by rw [hg]; exact (below_size (by repeat (first | (with_reducible first | exact HB.out | apply below_alloc | apply pw_below_drewN | apply below_drew1) | exact HB.out))) : w.heap.size ≤ gb251)); have n4_ := Aside0.mk ((by rw [hg]; exact (below_size (by repeat (first | (with_reducible first | exact HB.out | apply below_alloc | apply pw_below_drewN | apply below_drew1) | exact HB.out))) : w.heap.size ≤ gb251)); clear HO1_4; clear HB; have HO1_4 := n0_; have HB := n1_; have BK251 := n2_; have GW251 := n3_; have GE251 := n4_; clear n0_ n1_ n2_ n3_ n4_; clear hb hbox hg) | ((with_reducible refine gate_dst (N := 6) rfl ?_); (try (refine gate_guard (by rfl) ?_; dsimp only)); refine box_event ?hg (N := 6) ?hd (cs := #[.int .i64 0, .int .i64 0, .int .i64 0, .slice none 0 0, .slice none 0 0]) (t := 27) ?hr ?_; (case hd => rfl); (case hg => rfl); (case hr => first | (go_simp; done) | (go_simp; rfl)); intro gb252 hg w51 hbox hb; have n0_ := Aside0.mk (Kd.V_below (Kd.V_elderB (by (with_reducible repeat (first | apply Kd.V_alloc | apply Kd.V_drewN | apply Kd.V_drew)); exact HO1_4.out) gb252 (Nat.le_of_eq hg.symm)) hb); have n1_ := Aside0.mk (blk_below (g := gb251) (o := .cells #[.int .i64 a1_0, .int .i64 a1_1, .int .i64 a1_2, .slice A1_3 l1_3.length c1_3, .slice A1_4 l1_4.length c1_4] 27 (0, 0)) (by (with_reducible repeat (first | refine blk_drewN ?_ _ | refine blk_drew ?_ | refine blk_alloc ?_ _)); exact BK251.out) hb); have n2_ := Aside0.mk (below_step (by repeat (first | (with_reducible first | exact HB.out | apply below_alloc | apply pw_below_drewN | apply below_drew1 | refine below_set ?_ GE251.out) | exact HB.out)) hb); have n3_ := Aside0.mk (hbox); have n4_ := Aside0.mk ((by rw [hg]; exact (below_size (by repeat (first | (with_reducible first | exact HB.out | apply below_alloc | apply pw_below_drewN | apply below_drew1 | refine below_set ?_ GE251.out) | exact HB.out))) : w.heap.size ≤ gb252)); have n5_ := Aside0.mk ((by rw [hg]; exact (below_size (by repeat (first | (with_reducible first | exact HB.out | apply below_alloc | apply pw_below_drewN | apply below_drew1 | refine below_set ?_ GE251.out) | exact HB.out))) : w.heap.size ≤ gb252)); have n6_ := Aside0.mk ((by rw [hg]; exact Nat.ne_of_lt (blk_lt (g := gb251) (o := .cells #[.int .i64 a1_0, .int .i64 a1_1, .int .i64 a1_2, .slice A1_3 l1_3.length c1_3, .slice A1_4 l1_4.length c1_4] 27 (0, 0)) (by (with_reducible repeat (first | refine blk_drewN ?_ _ | refine blk_drew ?_ | refine blk_alloc ?_ _)); exact BK251.out)) : gb251 ≠ gb252)); have n7_ := Aside0.mk ((by rw [hg]; exact Nat.ne_of_gt (blk_lt (g := gb251) (o := .cells #[.int .i64 a1_0, .int .i64 a1_1, .int .i64 a1_2, .slice A1_3 l1_3.length c1_3, .slice A1_4 l1_4.length c1_4] 27 (0, 0)) (by (with_reducible repeat (first | refine blk_drewN ?_ _ | refine blk_drew ?_ | refine blk_alloc ?_ _)); exact BK251.out)) : gb252 ≠ gb251)); clear HO1_4; clear BK251; clear HB; have HO1_4 := n0_; have BK251 := n1_; have HB := n2_; have BK252 := n3_; have GW252 := n4_; have GE252 := n5_; have NB251_252 := n6_; have NB252_251 := n7_; clear n0_ n1_ n2_ n3_ n4_ n5_ n6_ n7_; clear hb hbox hg; have hnb52 := NB251_252.out; have hnc52 := NB252_251.out; have hcz53_0 : w51.cell? ⟨gb251, 0, none⟩ = some (.int .i64 a1_0) := (blk_cell BK251.out 0).trans rfl; have hcz53_1 : w51.cell? ⟨gb251, 1, none⟩ = some (.int .i64 a1_1) := (blk_cell BK251.out 1).trans rfl; have hcz53_2 : w51.cell? ⟨gb251, 2, none⟩ = some (.int .i64 a1_2) := (blk_cell BK251.out 2).trans rfl; have hcz53_3 : w51.cell? ⟨gb251, 3, none⟩ = some (.slice A1_3 l1_3.length c1_3) := (blk_cell BK251.out 3).trans rfl; have hcz53_4 : w51.cell? ⟨gb251, 4, none⟩ = some (.slice A1_4 l1_4.length c1_4) := (blk_cell BK251.out 4).trans rfl; have hfz53_0 := blk_frozen BK251.out 0; have hfz53_1 := blk_frozen BK251.out 1; have hfz53_2 := blk_frozen BK251.out 2; have hfz53_3 := blk_frozen BK251.out 3; have hfz53_4 := blk_frozen BK251.out 4; have hcz54_0 : w51.cell? ⟨gb252, 0, none⟩ = some (.int .i64 0) := (blk_cell BK252.out 0).trans rfl; have hcz54_1 : w51.cell? ⟨gb252, 1, none⟩ = some (.int .i64 0) := (blk_cell BK252.out 1).trans rfl; have hcz54_2 : w51.cell? ⟨gb252, 2, none⟩ = some (.int .i64 0) := (blk_cell BK252.out 2).trans rfl; have hcz54_3 : w51.cell? ⟨gb252, 3, none⟩ = some (.slice none 0 0) := (blk_cell BK252.out 3).trans rfl; have hcz54_4 : w51.cell? ⟨gb252, 4, none⟩ = some (.slice none 0 0) := (blk_cell BK252.out 4).trans rfl; have hfz54_0 := blk_frozen BK252.out 0; have hfz54_1 := blk_frozen BK252.out 1; have hfz54_2 := blk_frozen BK252.out 2; have hfz54_3 := blk_frozen BK252.out 3; have hfz54_4 := blk_frozen BK252.out 4))
        refine bodyPost_ret (results_ct rfl _ _ gb252 27 #[.int .i64 0, .int .i64 0, .int .i64 0, .slice none 0 0, .slice none 0 0] (0, 0) _ rfl (by (with_reducible repeat (first | refine blk_drewN ?_ _ | refine blk_drew ?_ | refine blk_alloc ?_ _)); refine blk_put (cs := #[.int .i64 0, .int .i64 0, .int .i64 0, .slice none 0 0, .slice none 0 0]) ?_ 4 _ rfl; (with_reducible repeat (first | refine blk_drewN ?_ _ | refine blk_drew ?_ | refine blk_alloc ?_ _)); refine blk_put (cs := #[.int .i64 0, .int .i64 0, .int .i64 0, .slice none 0 0, .slice none 0 0]) ?_ 3 _ rfl; (with_reducible repeat (first | refine blk_drewN ?_ _ | refine blk_drew ?_ | refine blk_alloc ?_ _)); refine blk_put (cs := #[.int .i64 0, .int .i64 0, .int .i64 0, .slice none 0 0, .slice none 0 0]) ?_ 2 _ rfl; (with_reducible repeat (first | refine blk_drewN ?_ _ | refine blk_drew ?_ | refine blk_alloc ?_ _)); refine blk_put (cs := #[.int .i64 0, .int .i64 0, .int .i64 0, .slice none 0 0, .slice none 0 0]) ?_ 1 _ rfl; (with_reducible repeat (first | refine blk_drewN ?_ _ | refine blk_drew ?_ | refine blk_alloc ?_ _)); refine blk_put (cs := #[.int .i64 0, .int .i64 0, .int .i64 0, .slice none 0 0, .slice none 0 0]) ?_ 0 _ rfl; (with_reducible repeat (first | refine blk_drewN ?_ _ | refine blk_drew ?_ | refine blk_alloc ?_ _)); exact BK252.out) Tryd.underlying27 rfl (by kernel_rfl)) rfl ?_
        exact ⟨_, _, by first | rfl | (simp [errW_none, errW_some] <;> rfl) | (simp [*, errW_none, errW_some] <;> rfl), Kd.V_nil _ _ _ _ _, Kd.V_nil _ _ _ _ _, by repeat (first | (with_reducible first | exact HB.out | apply below_alloc | apply pw_below_drewN | apply below_drew1 | refine below_set ?_ GE251.out | refine below_set ?_ GE252.out) | exact HB.out)⟩
      · exact absurd (by decide) c49
end Go.Proofs.YthehnffmbdlopaaDoor.PFnJpGetRest
