/- Functions of a law, printed; what does not build is left out. -/
import Derived.Test.YtkmdcckiehbcmaaDoorPFnFjUnescapeAllx0
import Derived.Test.YtkmdcckiehbcmaaDoorFa4
namespace Go.Proofs.YtkmdcckiehbcmaaDoor.PFnFjUnescapeAll
open Go.RowKit Go.Proofs.YtkmdcckiehbcmaaDoorW.PrintWords Go.Proofs.YtkmdcckiehbcmaaDoorW.PrintLast Go.Proofs.YtkmdcckiehbcmaaDoorW.PrintMore
attribute [local go_sem] max2_int min2_int max_two min_two max_three min_three max_four min_four   -- for this text's walks alone
set_option linter.unusedVariables false
set_option linter.unusedSimpArgs false

/-! ### spec_Kept: function 16 -/
mutual
def spec_Kept.l0 : Nat → ByteArray → List Int → Int → Option (ByteArray)
  | 0, _, _, _ => none
  | k + 1, x0, x3, x4 => if x4 < (x0.size : Int) then (if 0 ≤ x4 then (if (bt x0 x4) = 92 then (spec_Kept.j1 k x0 x3 x4 ((wrap64 (x4 + 1)) == (x0.size : Int))) else (spec_Kept.j1 k x0 x3 x4 true)) else (none)) else (some (strOfNums x3))
def spec_Kept.j1 : Nat → ByteArray → List Int → Int → Bool → Option (ByteArray)
  | 0, _, _, _, _ => none
  | k + 1, x0, x3, x4, x26 => if x26 = true then (if 0 ≤ x4 then (if x4 < (x0.size : Int) then (if x3.length < 140737488355328 then (spec_Kept.l0 k x0 (x3 ++ [bt x0 x4]) (wrap64 (x4 + 1))) else (none)) else (none)) else (none)) else ((spec_unit.f k x0 x4).bind fun bt177 => ((spec_unit.f k x0 (wrap64 (x4 + 6))).bind fun bt179 => (if bt177.2 = true then ((spec_high.f bt177.1).bind fun t181 => (if t181 = true then (spec_Kept.j2 k x0 x3 x4 bt177.1 bt177.2 bt179.1 bt179.2) else ((spec_low.f bt177.1).bind fun t182 => (if t182 = true then (spec_Kept.j2 k x0 x3 x4 bt177.1 bt177.2 bt179.1 bt179.2) else (spec_Kept.j2 k x0 x3 x4 bt177.1 bt177.2 bt179.1 false))))) else (spec_Kept.j2 k x0 x3 x4 bt177.1 bt177.2 bt179.1 false))))
def spec_Kept.j2 : Nat → ByteArray → List Int → Int → Int → Bool → Int → Bool → Option (ByteArray)
  | 0, _, _, _, _, _, _, _ => none
  | k + 1, x0, x3, x4, x5, x6, x7, x70 => if x70 = true then ((spec_high.f x5).bind fun t183 => (if t183 = true then ((spec_low.f x7).bind fun t184 => (if t184 = true then ((spec_appendUTF8.f k x3 (wrap64 ((wrap64 (65536 + (wrap64 ((wrap64 (x5 - 55296)) * 1024)))) + (wrap64 (x7 - 56320))))).bind fun t185 => (spec_Kept.l0 k x0 t185 (wrap64 (x4 + 12)))) else ((spec_appendUTF8.f k x3 65533).bind fun t188 => (spec_Kept.l0 k x0 t188 (wrap64 (x4 + 12)))))) else ((spec_appendUTF8.f k x3 65533).bind fun t191 => (spec_Kept.l0 k x0 t191 (wrap64 (x4 + 12)))))) else (if x6 = true then ((spec_high.f x5).bind fun t194 => (if t194 = true then (spec_Kept.j3 k x0 x3 x4 x5 x6 true) else ((spec_low.f x5).bind fun t195 => (spec_Kept.j3 k x0 x3 x4 x5 x6 t195)))) else (spec_Kept.j3 k x0 x3 x4 x5 x6 false))
def spec_Kept.j3 : Nat → ByteArray → List Int → Int → Int → Bool → Bool → Option (ByteArray)
  | 0, _, _, _, _, _, _ => none
  | k + 1, x0, x3, x4, x5, x6, x101 => if x101 = true then (if 0 ≤ x4 then (if x4 ≤ (wrap64 (x4 + 6)) then (if (wrap64 (x4 + 6)) ≤ (x0.size : Int) then (if x3.length + (x0.extract (x4 : Int).toNat ((wrap64 (x4 + 6)) : Int).toNat).size < 140737488355328 then (spec_Kept.l0 k x0 (x3 ++ bytesOf (x0.extract (x4 : Int).toNat ((wrap64 (x4 + 6)) : Int).toNat)) (wrap64 (x4 + 6))) else (none)) else (none)) else (none)) else (none)) else (if x6 = true then ((spec_appendUTF8.f k x3 x5).bind fun t199 => (spec_Kept.l0 k x0 t199 (wrap64 (x4 + 6)))) else (if 0 ≤ (wrap64 (x4 + 1)) then (if (wrap64 (x4 + 1)) < (x0.size : Int) then ((spec_shortEscape.f (bt x0 (wrap64 (x4 + 1)))).bind fun bt202 => (if bt202.2 = true then (if x3.length < 140737488355328 then (spec_Kept.l0 k x0 (x3 ++ [bt202.1]) (wrap64 (x4 + 2))) else (none)) else (if 0 ≤ x4 then (if x4 ≤ (wrap64 (x4 + 2)) then (if (wrap64 (x4 + 2)) ≤ (x0.size : Int) then (if x3.length + (x0.extract (x4 : Int).toNat ((wrap64 (x4 + 2)) : Int).toNat).size < 140737488355328 then (spec_Kept.l0 k x0 (x3 ++ bytesOf (x0.extract (x4 : Int).toNat ((wrap64 (x4 + 2)) : Int).toNat)) (wrap64 (x4 + 2))) else (none)) else (none)) else (none)) else (none)))) else (none)) else (none)))
end
def spec_Kept.f (k : Nat) (a0 : ByteArray) : Option (ByteArray) := spec_Kept.l0 k a0 ([] : List Int) 0
theorem spec_Kept.mono_l : ∀ k, (∀ y0 y1 y2, LeO (spec_Kept.l0 k y0 y1 y2) (spec_Kept.l0 (k + 1) y0 y1 y2)) ∧ (∀ y0 y1 y2 y3, LeO (spec_Kept.j1 k y0 y1 y2 y3) (spec_Kept.j1 (k + 1) y0 y1 y2 y3)) ∧ (∀ y0 y1 y2 y3 y4 y5 y6, LeO (spec_Kept.j2 k y0 y1 y2 y3 y4 y5 y6) (spec_Kept.j2 (k + 1) y0 y1 y2 y3 y4 y5 y6)) ∧ (∀ y0 y1 y2 y3 y4 y5, LeO (spec_Kept.j3 k y0 y1 y2 y3 y4 y5) (spec_Kept.j3 (k + 1) y0 y1 y2 y3 y4 y5))
  | 0 => ⟨fun _ _ _ r h => by simp [spec_Kept.l0] at h, fun _ _ _ _ r h => by simp [spec_Kept.j1] at h, fun _ _ _ _ _ _ _ r h => by simp [spec_Kept.j2] at h, fun _ _ _ _ _ _ r h => by simp [spec_Kept.j3] at h⟩
  | k + 1 => by
    obtain ⟨ih0, ih1, ih2, ih3⟩ := spec_Kept.mono_l k
    refine ⟨?_, ?_, ?_, ?_⟩
    · intro y0 y1 y2
      unfold spec_Kept.l0
      repeat' first
      | (with_reducible exact ih0 _ _ _)
      | (with_reducible exact ih1 _ _ _ _)
      | (with_reducible exact ih2 _ _ _ _ _ _ _)
      | (with_reducible exact ih3 _ _ _ _ _ _)
      | (with_reducible exact spec_appendUTF8.mono _ _ _)
      | (with_reducible exact spec_unit.mono _ _ _)
      | (with_reducible exact LeO.refl _)
      | (with_reducible exact LeO.none _)
      | (with_reducible refine LeO.ite ?_ ?_)
      | (with_reducible refine LeO.bind ?_ (fun _ => ?_))
      | exact ih0 _ _ _
      | exact ih1 _ _ _ _
      | exact ih2 _ _ _ _ _ _ _
      | exact ih3 _ _ _ _ _ _
      | exact spec_appendUTF8.mono _ _ _
      | exact spec_unit.mono _ _ _
      | exact LeO.none _
      | refine LeO.ite ?_ ?_
      | refine LeO.bind ?_ (fun _ => ?_)
    · intro y0 y1 y2 y3
      unfold spec_Kept.j1
      repeat' first
      | (with_reducible exact ih0 _ _ _)
      | (with_reducible exact ih1 _ _ _ _)
      | (with_reducible exact ih2 _ _ _ _ _ _ _)
      | (with_reducible exact ih3 _ _ _ _ _ _)
      | (with_reducible exact spec_appendUTF8.mono _ _ _)
      | (with_reducible exact spec_unit.mono _ _ _)
      | (with_reducible exact LeO.refl _)
      | (with_reducible exact LeO.none _)
      | (with_reducible refine LeO.ite ?_ ?_)
      | (with_reducible refine LeO.bind ?_ (fun _ => ?_))
      | exact ih0 _ _ _
      | exact ih1 _ _ _ _
      | exact ih2 _ _ _ _ _ _ _
      | exact ih3 _ _ _ _ _ _
      | exact spec_appendUTF8.mono _ _ _
      | exact spec_unit.mono _ _ _
      | exact LeO.none _
      | refine LeO.ite ?_ ?_
      | refine LeO.bind ?_ (fun _ => ?_)
    · intro y0 y1 y2 y3 y4 y5 y6
      unfold spec_Kept.j2
      repeat' first
      | (with_reducible exact ih0 _ _ _)
      | (with_reducible exact ih1 _ _ _ _)
      | (with_reducible exact ih2 _ _ _ _ _ _ _)
      | (with_reducible exact ih3 _ _ _ _ _ _)
      | (with_reducible exact spec_appendUTF8.mono _ _ _)
      | (with_reducible exact spec_unit.mono _ _ _)
      | (with_reducible exact LeO.refl _)
      | (with_reducible exact LeO.none _)
      | (with_reducible refine LeO.ite ?_ ?_)
      | (with_reducible refine LeO.bind ?_ (fun _ => ?_))
      | exact ih0 _ _ _
      | exact ih1 _ _ _ _
      | exact ih2 _ _ _ _ _ _ _
      | exact ih3 _ _ _ _ _ _
      | exact spec_appendUTF8.mono _ _ _
      | exact spec_unit.mono _ _ _
      | exact LeO.none _
      | refine LeO.ite ?_ ?_
      | refine LeO.bind ?_ (fun _ => ?_)
    · intro y0 y1 y2 y3 y4 y5
      unfold spec_Kept.j3
      repeat' first
      | (with_reducible exact ih0 _ _ _)
      | (with_reducible exact ih1 _ _ _ _)
      | (with_reducible exact ih2 _ _ _ _ _ _ _)
      | (with_reducible exact ih3 _ _ _ _ _ _)
      | (with_reducible exact spec_appendUTF8.mono _ _ _)
      | (with_reducible exact spec_unit.mono _ _ _)
      | (with_reducible exact LeO.refl _)
      | (with_reducible exact LeO.none _)
      | (with_reducible refine LeO.ite ?_ ?_)
      | (with_reducible refine LeO.bind ?_ (fun _ => ?_))
      | exact ih0 _ _ _
      | exact ih1 _ _ _ _
      | exact ih2 _ _ _ _ _ _ _
      | exact ih3 _ _ _ _ _ _
      | exact spec_appendUTF8.mono _ _ _
      | exact spec_unit.mono _ _ _
      | exact LeO.none _
      | refine LeO.ite ?_ ?_
      | refine LeO.bind ?_ (fun _ => ?_)
theorem spec_Kept.mono : ∀ a0 k, LeO (spec_Kept.f k a0) (spec_Kept.f (k + 1) a0) := by
  intro a0 k
  obtain ⟨ih0, ih1, ih2, ih3⟩ := spec_Kept.mono_l k
  unfold spec_Kept.f
  repeat' first
      | (with_reducible exact ih0 _ _ _)
      | (with_reducible exact ih1 _ _ _ _)
      | (with_reducible exact ih2 _ _ _ _ _ _ _)
      | (with_reducible exact ih3 _ _ _ _ _ _)
      | (with_reducible exact spec_appendUTF8.mono _ _ _)
      | (with_reducible exact spec_unit.mono _ _ _)
      | (with_reducible exact LeO.refl _)
      | (with_reducible exact LeO.none _)
      | (with_reducible refine LeO.ite ?_ ?_)
      | (with_reducible refine LeO.bind ?_ (fun _ => ?_))
      | exact ih0 _ _ _
      | exact ih1 _ _ _ _
      | exact ih2 _ _ _ _ _ _ _
      | exact ih3 _ _ _ _ _ _
      | exact spec_appendUTF8.mono _ _ _
      | exact spec_unit.mono _ _ _
      | exact LeO.none _
      | refine LeO.ite ?_ ?_
      | refine LeO.bind ?_ (fun _ => ?_)
set_option maxHeartbeats 8000000 in
set_option maxRecDepth 100000 in
theorem spec_Kept.calls (k : Nat) (a0 : ByteArray) (r : ByteArray) (w : World) (h : spec_Kept.f k a0 = some r) :
    Calls Tryd.prog 16 #[.string a0] w fun e w' => e = .returned (.string r) ∧ Below w.heap.size w w' := by
  have HB := Aside0.mk (Below.refl w.heap.size w)
  have H : (spec_Kept.l0 k a0 ([] : List Int) 0) = some r := h
  clear h
  have H' := Aside0.mk H
  clear H
  go_enter Tryd.func16, Tryd.ntmps16
  go_wp2
  go_loopg [3, 4] k (fun kq v3 v4 w' => ∃ (x3_1 : List Int) (x4_1 : Int), v4 = .int .i64 x4_1 ∧ Aside0 (spec_Kept.l0 kq a0 x3_1 x4_1 = some r) ∧ Aside0 (kq ≤ k) ∧ Aside0 (Kd.R (Kd.int .u8) 5 w' w.heap.size (fun _ => True) v3 x3_1) ∧ Aside0 (Below w.heap.size w w'))
  case atStart => exact ⟨(([] : List Int)), (0), (by first | rfl | (simp; done) | (simp [*]; done)), H', ⟨Nat.le_refl _⟩, ⟨by first | exact Kd.R_nil _ _ _ _ _ | exact Kd.N_nil _ _ _ _ _ | exact Kd.V_nil _ _ _ _ _ | exact Kd.Q_nil _ _ _ _ _ | exact Kd.S_nil _ _ _ _ _⟩, ⟨by repeat (first | (with_reducible first | exact HB.out | apply below_alloc | apply pw_below_drewN | apply below_drew1) | exact HB.out)⟩⟩
  case round =>
    clear H'
    try clear c1
    obtain ⟨x3_1, x4_1, rfl, HA, HK1, HO_3, HB⟩ := hrel
    cases gk with
    | zero => exact absurd HA.out (by simp [spec_Kept.l0])
    | succ k1 =>
      have H := HA.out
      clear HA
      simp only [spec_Kept.l0] at H
      by_cases c2 : x4_1 < (a0.size : Int)
      · rw [if_pos c2] at H
        have c2b0 : decide (x4_1 < (a0.size : Int)) = true := decide_eq_true c2
        clear c2
        have HC3 := Aside0.mk H
        clear H
        go_upto_region 4 with (fail)
        go_cut [26] (fun v26 wc => ∃ (kq : Nat) (x26_2 : Bool), v26 = .bool x26_2 ∧ Aside0 (spec_Kept.j1 kq a0 x3_1 x4_1 x26_2 = some r) ∧ Aside0 (kq ≤ k1) ∧ Aside0 (Kd.R (Kd.int .u8) 5 wc w.heap.size (fun _ => True) u3 x3_1) ∧ Aside0 (Below w.heap.size w wc))
        case first =>
          have H := HC3.out
          clear HC3
          by_cases c4 : 0 ≤ x4_1
          · rw [if_pos c4] at H
            have c4b0 : decide (0 ≤ x4_1) = true := decide_eq_true c4
            clear c4
            (first | rw [c4b0] | (simp only [i64_w, i32_w]; rw [c4b0]) | skip)
            by_cases c6 : (bt a0 x4_1) = 92
            · rw [if_pos c6] at H
              have c6b0 : ((bt a0 x4_1) == 92) = true := beq_iff_eq.mpr c6
              have c6b1 : ((bt a0 x4_1) != 92) = false := bne_eq_false_iff_eq.mpr c6
              clear c6
              have H' := Aside0.mk H
              clear H
              have p5 : 0 ≤ (x4_1 : Int) := of_decide_eq_true (by first | (with_reducible assumption) | assumption)
              have q5 : x4_1 < (a0.size : Int) := of_decide_eq_true (by first | (with_reducible assumption) | assumption)
              have hx5 := bt_at a0 x4_1
              replace p5 := eq_true p5
              replace q5 := eq_true q5
              go_wp2
              go_meet
              case rel => exact ⟨_, (((wrap64 (x4_1 + 1)) == (a0.size : Int))), (by first | rfl | (simp; done) | (simp [*]; done)), H', ⟨by have := HK1.out; first | omega | exact Nat.le_refl _⟩, ⟨by (with_reducible repeat (first | apply Kd.R_alloc | apply Kd.R_drewN | apply Kd.R_drew)); exact HO_3.out⟩, ⟨by repeat (first | (with_reducible first | exact HB.out | apply below_alloc | apply pw_below_drewN | apply below_drew1) | exact HB.out)⟩⟩
            · rw [if_neg c6] at H
              have c6b0 : ((bt a0 x4_1) == 92) = false := beq_eq_false_iff_ne.mpr c6
              have c6b1 : ((bt a0 x4_1) != 92) = true := bne_iff_ne.mpr c6
              have H' := Aside0.mk H
              clear H
              have p5 : 0 ≤ (x4_1 : Int) := of_decide_eq_true (by first | (with_reducible assumption) | assumption)
              have q5 : x4_1 < (a0.size : Int) := of_decide_eq_true (by first | (with_reducible assumption) | assumption)
              have hx5 := bt_at a0 x4_1
              replace p5 := eq_true p5
              replace q5 := eq_true q5
              go_wp2
              go_meet
              case rel => exact ⟨_, (true), (by first | rfl | (simp; done) | (simp [*]; done)), H', ⟨by have := HK1.out; first | omega | exact Nat.le_refl _⟩, ⟨by (with_reducible repeat (first | apply Kd.R_alloc | apply Kd.R_drewN | apply Kd.R_drew)); exact HO_3.out⟩, ⟨by repeat (first | (with_reducible first | exact HB.out | apply below_alloc | apply pw_below_drewN | apply below_drew1) | exact HB.out)⟩⟩
          · rw [if_neg c4] at H
            exact absurd H (by simp)
        case rest =>
          clear HC3
          try clear c1
          try clear c2
          try clear c2b0
          try clear p2
          try clear c4
          try clear c4b0
          try clear p5
          try clear q5
          try clear hx5
          try clear c6
          try clear c6b0
          try clear c6b1
          try clear p6
          try clear p5
          try clear q5
          obtain ⟨kq, x26_2, rfl, HA, HJ2, HO_3, HB⟩ := hcut
          cases kq with
          | zero => exact absurd HA.out (by simp [spec_Kept.j1])
          | succ kj2 =>
            have H := HA.out
            clear HA
            simp only [spec_Kept.j1] at H
            by_cases c7 : x26_2 = true
            · subst c7
              have H1 : (if 0 ≤ x4_1 then (if x4_1 < (a0.size : Int) then (if x3_1.length < 140737488355328 then (spec_Kept.l0 kj2 a0 (x3_1 ++ [bt a0 x4_1]) (wrap64 (x4_1 + 1))) else (none)) else (none)) else (none)) = some r := by rw [if_pos rfl] at H; exact H
              clear H
              have H := H1
              clear H1
              by_cases c8 : 0 ≤ x4_1
              · rw [if_pos c8] at H
                have c8b0 : decide (0 ≤ x4_1) = true := decide_eq_true c8
                clear c8
                by_cases c9 : x4_1 < (a0.size : Int)
                · rw [if_pos c9] at H
                  have c9b0 : decide (x4_1 < (a0.size : Int)) = true := decide_eq_true c9
                  clear c9
                  by_cases c11 : x3_1.length < 140737488355328
                  · rw [if_pos c11] at H
                    have LMc11 := Aside0.mk c11
                    clear c11
                    obtain ⟨y174, hy174⟩ : ∃ y_ : List Int, y_ = (x3_1 ++ [bt a0 x4_1]) := ⟨_, rfl⟩
                    replace H : (spec_Kept.l0 kj2 a0 y174 (wrap64 (x4_1 + 1))) = some r := by first | (rw [hy174]; with_reducible exact H) | (have H2_ := (Option.bind_some _ _).symm.trans H; rw [hy174]; with_reducible exact H2_) | (have H2_ := (Option.bind_some _ _).symm.trans H; with_reducible exact H2_) | with_reducible exact H | (rw [hy174]; exact H) | exact H
                    have Ny174 := Aside0.mk hy174
                    clear hy174
                    have H' := Aside0.mk H
                    clear H
                    have p10 : 0 ≤ (x4_1 : Int) := of_decide_eq_true (by first | (with_reducible assumption) | assumption)
                    have q10 : x4_1 < (a0.size : Int) := of_decide_eq_true (by first | (with_reducible assumption) | assumption)
                    have hx10 := bt_at a0 x4_1
                    replace p10 := eq_true p10
                    replace q10 := eq_true q10
                    go_wp2_with (first | ((with_reducible refine gate_builtin (b := .append) (xs := #[.tmp 27, .tmp 31]) rfl ?_); (try (refine gate_guard (by rfl) ?_; dsimp only)); at_builtin; refine Kd.R_append (Kd.int .u8) (w0 := w) w.heap.size rfl (.tmp 27) (.tmp 31) 36 5 (.int .u8 0) 1 rfl Tryd.underlying36 info5 rfl (by decide) (by omega) u3 x3_1 (bt a0 x4_1) [.int .u8 (bt a0 x4_1)] (fun _ => True) (fun _ => False) rfl rfl ?aP (fun _ hk => hk.elim) ?aF ?aO ?aB ?aS ?aL ?_; (case aP => exact rfl); (case aB => exact (by repeat (first | (with_reducible first | exact HB.out | apply below_alloc | apply pw_below_drewN | apply below_drew1) | exact HB.out))); (case aF => exact (fun _ _ => trivial)); (case aO => exact (by (with_reducible repeat (first | apply Kd.R_alloc | apply Kd.R_drewN | apply Kd.R_drew)); exact HO_3.out)); (case aS => exact (below_size (by repeat (first | (with_reducible first | exact HB.out | apply below_alloc | apply pw_below_drewN | apply below_drew1) | exact HB.out)))); (case aL => have := LMc11.out; omega); intro v175 w12 ho hb hg hat; rw [← Ny174.out] at ho; have n0_ := Aside0.mk (hb); have n1_ := Aside0.mk (ho); clear HB; clear HO_3; have HB := n0_; have HO176 := n1_; clear n0_ n1_; clear ho hb hg hat))
                    go_roundg kj2
                    case measure => have := HK1.out; have := HJ2.out; omega
                    case rel => exact ⟨(y174), (wrap64 (x4_1 + 1)), (by first | rfl | (simp; done) | (simp [*]; done)), H', ⟨by have := HK1.out; have := HJ2.out; omega⟩, ⟨by (with_reducible repeat (first | apply Kd.R_alloc | apply Kd.R_drewN | apply Kd.R_drew)); exact HO176.out⟩, ⟨by repeat (first | (with_reducible first | exact HB.out | apply below_alloc | apply pw_below_drewN | apply below_drew1) | exact HB.out)⟩⟩
                  · rw [if_neg c11] at H
                    exact absurd H (by simp)
                · rw [if_neg c9] at H
                  exact absurd H (by simp)
              · rw [if_neg c8] at H
                exact absurd H (by simp)
            · replace c7 := Bool.eq_false_iff.mpr c7
              subst c7
              have H1 : ((spec_unit.f kj2 a0 x4_1).bind fun bt177 => ((spec_unit.f kj2 a0 (wrap64 (x4_1 + 6))).bind fun bt179 => (if bt177.2 = true then ((spec_high.f bt177.1).bind fun t181 => (if t181 = true then (spec_Kept.j2 kj2 a0 x3_1 x4_1 bt177.1 bt177.2 bt179.1 bt179.2) else ((spec_low.f bt177.1).bind fun t182 => (if t182 = true then (spec_Kept.j2 kj2 a0 x3_1 x4_1 bt177.1 bt177.2 bt179.1 bt179.2) else (spec_Kept.j2 kj2 a0 x3_1 x4_1 bt177.1 bt177.2 bt179.1 false))))) else (spec_Kept.j2 kj2 a0 x3_1 x4_1 bt177.1 bt177.2 bt179.1 false)))) = some r := by rw [if_neg (show ¬ (false = true) by decide)] at H; exact H
              clear H
              have H := H1
              clear H1
              replace H := Option.bind_eq_some_iff.mp H
              obtain ⟨⟨t177, t178⟩, A130, H⟩ := H
              replace H : ((spec_unit.f kj2 a0 (wrap64 (x4_1 + 6))).bind fun bt179 => (if t178 = true then ((spec_high.f t177).bind fun t181 => (if t181 = true then (spec_Kept.j2 kj2 a0 x3_1 x4_1 t177 t178 bt179.1 bt179.2) else ((spec_low.f t177).bind fun t182 => (if t182 = true then (spec_Kept.j2 kj2 a0 x3_1 x4_1 t177 t178 bt179.1 bt179.2) else (spec_Kept.j2 kj2 a0 x3_1 x4_1 t177 t178 bt179.1 false))))) else (spec_Kept.j2 kj2 a0 x3_1 x4_1 t177 t178 bt179.1 false))) = some r := H
              have A13 := Aside0.mk A130
              clear A130
              replace H := Option.bind_eq_some_iff.mp H
              obtain ⟨⟨t179, t180⟩, A140, H⟩ := H
              replace H : (if t178 = true then ((spec_high.f t177).bind fun t181 => (if t181 = true then (spec_Kept.j2 kj2 a0 x3_1 x4_1 t177 t178 t179 t180) else ((spec_low.f t177).bind fun t182 => (if t182 = true then (spec_Kept.j2 kj2 a0 x3_1 x4_1 t177 t178 t179 t180) else (spec_Kept.j2 kj2 a0 x3_1 x4_1 t177 t178 t179 false))))) else (spec_Kept.j2 kj2 a0 x3_1 x4_1 t177 t178 t179 false)) = some r := H
              have A14 := Aside0.mk A140
              clear A140
              have HC15 := Aside0.mk H
              clear H
              go_upto_region 14 with (first | ((with_reducible refine gate_callee (f := 31) rfl ?_); refine goesL_ (some 38) rfl rfl Tryd.func31 (by kernel_rfl) rfl #[.string a0, .int .i64 x4_1] rfl (by (try simp only [List.map_toArray, List.map_cons, List.map_nil]); first | done | rfl | (simp only [List.length_drop, List.length_take]; rfl)) ?_; (with_reducible refine (spec_unit.calls kj2 a0 x4_1 t177 t178 _ A13.out).mono ?_); rintro e w' ⟨rfl, ⟨nd, rfl⟩⟩; refine ⟨_, rfl, ?_⟩) | ((with_reducible refine gate_callee (f := 31) rfl ?_); refine goesL_ (some 45) rfl rfl Tryd.func31 (by kernel_rfl) rfl #[.string a0, .int .i64 (wrap64 (x4_1 + 6))] rfl (by (try simp only [List.map_toArray, List.map_cons, List.map_nil]); first | done | rfl | (simp only [List.length_drop, List.length_take]; rfl)) ?_; (with_reducible refine (spec_unit.calls kj2 a0 (wrap64 (x4_1 + 6)) t179 t180 _ A14.out).mono ?_); rintro e w' ⟨rfl, ⟨nd, rfl⟩⟩; refine ⟨_, rfl, ?_⟩))
              (try simp only [Act.put, List.setIfInBounds_toArray, List.set_cons_zero, List.set_cons_succ])
              go_cut [70] (fun v70 wc => ∃ (kq : Nat) (x70_14 : Bool), v70 = .bool x70_14 ∧ Aside0 (spec_Kept.j2 kq a0 x3_1 x4_1 t177 t178 t179 x70_14 = some r) ∧ Aside0 (kq ≤ kj2) ∧ Aside0 (Kd.R (Kd.int .u8) 5 wc w.heap.size (fun _ => True) u3 x3_1) ∧ Aside0 (Below w.heap.size w wc))
              case first =>
                have H := HC15.out
                clear HC15
                by_cases c16 : t178 = true
                · subst c16
                  have H1 : ((spec_high.f t177).bind fun t181 => (if t181 = true then (spec_Kept.j2 kj2 a0 x3_1 x4_1 t177 true t179 t180) else ((spec_low.f t177).bind fun t182 => (if t182 = true then (spec_Kept.j2 kj2 a0 x3_1 x4_1 t177 true t179 t180) else (spec_Kept.j2 kj2 a0 x3_1 x4_1 t177 true t179 false))))) = some r := by rw [if_pos rfl] at H; exact H
                  clear H
                  have H := H1
                  clear H1
                  replace H := Option.bind_eq_some_iff.mp H
                  obtain ⟨t181, A170, H⟩ := H
                  replace H : (if t181 = true then (spec_Kept.j2 kj2 a0 x3_1 x4_1 t177 true t179 t180) else ((spec_low.f t177).bind fun t182 => (if t182 = true then (spec_Kept.j2 kj2 a0 x3_1 x4_1 t177 true t179 t180) else (spec_Kept.j2 kj2 a0 x3_1 x4_1 t177 true t179 false)))) = some r := H
                  have A17 := Aside0.mk A170
                  clear A170
                  by_cases c18 : t181 = true
                  · subst c18
                    have H1 : (spec_Kept.j2 kj2 a0 x3_1 x4_1 t177 true t179 t180) = some r := by rw [if_pos rfl] at H; exact H
                    clear H
                    have H := H1
                    clear H1
                    have H' := Aside0.mk H
                    clear H
                    go_wp2_with (first | (go_at_call 32; (with_reducible refine (spec_high.calls t177 true _ A17.out).mono ?_); rintro e w' ⟨rfl, ⟨nd, rfl⟩⟩))
                    go_meet
                    case rel => exact ⟨_, (t180), (by first | rfl | (simp; done) | (simp [*]; done)), H', ⟨by have := HK1.out; have := HJ2.out; first | omega | exact Nat.le_refl _⟩, ⟨by (with_reducible repeat (first | apply Kd.R_alloc | apply Kd.R_drewN | apply Kd.R_drew)); exact HO_3.out⟩, ⟨by repeat (first | (with_reducible first | exact HB.out | apply below_alloc | apply pw_below_drewN | apply below_drew1) | exact HB.out)⟩⟩
                  · replace c18 := Bool.eq_false_iff.mpr c18
                    subst c18
                    have H1 : ((spec_low.f t177).bind fun t182 => (if t182 = true then (spec_Kept.j2 kj2 a0 x3_1 x4_1 t177 true t179 t180) else (spec_Kept.j2 kj2 a0 x3_1 x4_1 t177 true t179 false))) = some r := by rw [if_neg (show ¬ (false = true) by decide)] at H; exact H
                    clear H
                    have H := H1
                    clear H1
                    replace H := Option.bind_eq_some_iff.mp H
                    obtain ⟨t182, A190, H⟩ := H
                    replace H : (if t182 = true then (spec_Kept.j2 kj2 a0 x3_1 x4_1 t177 true t179 t180) else (spec_Kept.j2 kj2 a0 x3_1 x4_1 t177 true t179 false)) = some r := H
                    have A19 := Aside0.mk A190
                    clear A190
                    by_cases c20 : t182 = true
                    · subst c20
                      have H1 : (spec_Kept.j2 kj2 a0 x3_1 x4_1 t177 true t179 t180) = some r := by rw [if_pos rfl] at H; exact H
                      clear H
                      have H := H1
                      clear H1
                      have H' := Aside0.mk H
                      clear H
                      go_wp2_with (first | (go_at_call 32; (with_reducible refine (spec_high.calls t177 false _ A17.out).mono ?_); rintro e w' ⟨rfl, ⟨nd, rfl⟩⟩) | (go_at_call 33; (with_reducible refine (spec_low.calls t177 true _ A19.out).mono ?_); rintro e w' ⟨rfl, ⟨nd, rfl⟩⟩))
                      go_meet
                      case rel => exact ⟨_, (t180), (by first | rfl | (simp; done) | (simp [*]; done)), H', ⟨by have := HK1.out; have := HJ2.out; first | omega | exact Nat.le_refl _⟩, ⟨by (with_reducible repeat (first | apply Kd.R_alloc | apply Kd.R_drewN | apply Kd.R_drew)); exact HO_3.out⟩, ⟨by repeat (first | (with_reducible first | exact HB.out | apply below_alloc | apply pw_below_drewN | apply below_drew1) | exact HB.out)⟩⟩
                    · replace c20 := Bool.eq_false_iff.mpr c20
                      subst c20
                      have H1 : (spec_Kept.j2 kj2 a0 x3_1 x4_1 t177 true t179 false) = some r := by rw [if_neg (show ¬ (false = true) by decide)] at H; exact H
                      clear H
                      have H := H1
                      clear H1
                      have H' := Aside0.mk H
                      clear H
                      go_wp2_with (first | (go_at_call 32; (with_reducible refine (spec_high.calls t177 false _ A17.out).mono ?_); rintro e w' ⟨rfl, ⟨nd, rfl⟩⟩) | (go_at_call 33; (with_reducible refine (spec_low.calls t177 false _ A19.out).mono ?_); rintro e w' ⟨rfl, ⟨nd, rfl⟩⟩))
                      go_meet
                      case rel => exact ⟨_, (false), (by first | rfl | (simp; done) | (simp [*]; done)), H', ⟨by have := HK1.out; have := HJ2.out; first | omega | exact Nat.le_refl _⟩, ⟨by (with_reducible repeat (first | apply Kd.R_alloc | apply Kd.R_drewN | apply Kd.R_drew)); exact HO_3.out⟩, ⟨by repeat (first | (with_reducible first | exact HB.out | apply below_alloc | apply pw_below_drewN | apply below_drew1) | exact HB.out)⟩⟩
                · replace c16 := Bool.eq_false_iff.mpr c16
                  subst c16
                  have H1 : (spec_Kept.j2 kj2 a0 x3_1 x4_1 t177 false t179 false) = some r := by rw [if_neg (show ¬ (false = true) by decide)] at H; exact H
                  clear H
                  have H := H1
                  clear H1
                  have H' := Aside0.mk H
                  clear H
                  go_wp2
                  go_meet
                  case rel => exact ⟨_, (false), (by first | rfl | (simp; done) | (simp [*]; done)), H', ⟨by have := HK1.out; have := HJ2.out; first | omega | exact Nat.le_refl _⟩, ⟨by (with_reducible repeat (first | apply Kd.R_alloc | apply Kd.R_drewN | apply Kd.R_drew)); exact HO_3.out⟩, ⟨by repeat (first | (with_reducible first | exact HB.out | apply below_alloc | apply pw_below_drewN | apply below_drew1) | exact HB.out)⟩⟩
              case rest =>
                clear HC15
                try clear c1
                try clear p1
                try clear q1
                try clear hx1
                try clear c2
                try clear c2b0
                try clear p2
                try clear c3
                try clear c4
                try clear c4b0
                try clear p5
                try clear q5
                try clear hx5
                try clear c6
                try clear c6b0
                try clear c6b1
                try clear p6
                try clear c7
                try clear c8
                try clear c8b0
                try clear c9
                try clear c9b0
                try clear p10
                try clear q10
                try clear hx10
                try clear c11
                try clear c16
                try clear c18
                try clear c20
                try clear p10
                try clear p2
                try clear p5
                try clear p6
                try clear q10
                try clear q5
                obtain ⟨kq, x70_14, rfl, HA, HJ14, HO_3, HB⟩ := hcut
                cases kq with
                | zero => exact absurd HA.out (by simp [spec_Kept.j2])
                | succ kj14 =>
                  have H := HA.out
                  clear HA
                  simp only [spec_Kept.j2] at H
                  by_cases c21 : x70_14 = true
                  · subst c21
                    have H1 : ((spec_high.f t177).bind fun t183 => (if t183 = true then ((spec_low.f t179).bind fun t184 => (if t184 = true then ((spec_appendUTF8.f kj14 x3_1 (wrap64 ((wrap64 (65536 + (wrap64 ((wrap64 (t177 - 55296)) * 1024)))) + (wrap64 (t179 - 56320))))).bind fun t185 => (spec_Kept.l0 kj14 a0 t185 (wrap64 (x4_1 + 12)))) else ((spec_appendUTF8.f kj14 x3_1 65533).bind fun t188 => (spec_Kept.l0 kj14 a0 t188 (wrap64 (x4_1 + 12)))))) else ((spec_appendUTF8.f kj14 x3_1 65533).bind fun t191 => (spec_Kept.l0 kj14 a0 t191 (wrap64 (x4_1 + 12)))))) = some r := by rw [if_pos rfl] at H; exact H
                    clear H
                    have H := H1
                    clear H1
                    replace H := Option.bind_eq_some_iff.mp H
                    obtain ⟨t183, A220, H⟩ := H
                    replace H : (if t183 = true then ((spec_low.f t179).bind fun t184 => (if t184 = true then ((spec_appendUTF8.f kj14 x3_1 (wrap64 ((wrap64 (65536 + (wrap64 ((wrap64 (t177 - 55296)) * 1024)))) + (wrap64 (t179 - 56320))))).bind fun t185 => (spec_Kept.l0 kj14 a0 t185 (wrap64 (x4_1 + 12)))) else ((spec_appendUTF8.f kj14 x3_1 65533).bind fun t188 => (spec_Kept.l0 kj14 a0 t188 (wrap64 (x4_1 + 12)))))) else ((spec_appendUTF8.f kj14 x3_1 65533).bind fun t191 => (spec_Kept.l0 kj14 a0 t191 (wrap64 (x4_1 + 12))))) = some r := H
                    have A22 := Aside0.mk A220
                    clear A220
                    by_cases c23 : t183 = true
                    · subst c23
                      have H1 : ((spec_low.f t179).bind fun t184 => (if t184 = true then ((spec_appendUTF8.f kj14 x3_1 (wrap64 ((wrap64 (65536 + (wrap64 ((wrap64 (t177 - 55296)) * 1024)))) + (wrap64 (t179 - 56320))))).bind fun t185 => (spec_Kept.l0 kj14 a0 t185 (wrap64 (x4_1 + 12)))) else ((spec_appendUTF8.f kj14 x3_1 65533).bind fun t188 => (spec_Kept.l0 kj14 a0 t188 (wrap64 (x4_1 + 12)))))) = some r := by rw [if_pos rfl] at H; exact H
                      clear H
                      have H := H1
                      clear H1
                      replace H := Option.bind_eq_some_iff.mp H
                      obtain ⟨t184, A240, H⟩ := H
                      replace H : (if t184 = true then ((spec_appendUTF8.f kj14 x3_1 (wrap64 ((wrap64 (65536 + (wrap64 ((wrap64 (t177 - 55296)) * 1024)))) + (wrap64 (t179 - 56320))))).bind fun t185 => (spec_Kept.l0 kj14 a0 t185 (wrap64 (x4_1 + 12)))) else ((spec_appendUTF8.f kj14 x3_1 65533).bind fun t188 => (spec_Kept.l0 kj14 a0 t188 (wrap64 (x4_1 + 12))))) = some r := H
                      have A24 := Aside0.mk A240
                      clear A240
                      by_cases c25 : t184 = true
                      · subst c25
                        have H1 : ((spec_appendUTF8.f kj14 x3_1 (wrap64 ((wrap64 (65536 + (wrap64 ((wrap64 (t177 - 55296)) * 1024)))) + (wrap64 (t179 - 56320))))).bind fun t185 => (spec_Kept.l0 kj14 a0 t185 (wrap64 (x4_1 + 12)))) = some r := by rw [if_pos rfl] at H; exact H
                        clear H
                        have H := H1
                        clear H1
                        replace H := Option.bind_eq_some_iff.mp H
                        obtain ⟨t185, A260, H⟩ := H
                        replace H : (spec_Kept.l0 kj14 a0 t185 (wrap64 (x4_1 + 12))) = some r := H
                        have A26 := Aside0.mk A260
                        clear A260
                        have H' := Aside0.mk H
                        clear H
                        go_wp2_with (first | ((with_reducible refine gate_callee (f := 32) rfl ?_); refine goesL_ (some 84) rfl rfl Tryd.func32 (by kernel_rfl) rfl #[.int .i64 t177] rfl (by (try simp only [List.map_toArray, List.map_cons, List.map_nil]); first | done | rfl | (simp only [List.length_drop, List.length_take]; rfl)) ?_; (with_reducible refine (spec_high.calls t177 true _ A22.out).mono ?_); rintro e w' ⟨rfl, ⟨nd, rfl⟩⟩; refine ⟨_, rfl, ?_⟩) | (go_at_call 33; (with_reducible refine (spec_low.calls t179 true _ A24.out).mono ?_); rintro e w' ⟨rfl, ⟨nd, rfl⟩⟩; obtain ⟨Ao27, co27, eo27⟩ := Kd.R_slice HO_3.out; subst eo27) | ((with_reducible refine gate_callee (f := 34) rfl ?_); refine goesL_ (some 98) rfl rfl Tryd.func34 (by kernel_rfl) rfl #[.slice Ao27 x3_1.length co27, .int .i64 (wrap64 ((wrap64 (65536 + (wrap64 ((wrap64 (t177 - 55296)) * 1024)))) + (wrap64 (t179 - 56320))))] rfl (by (try simp only [List.map_toArray, List.map_cons, List.map_nil]); first | done | rfl | (simp only [List.length_drop, List.length_take]; rfl)) ?_; (with_reducible refine (spec_appendUTF8.calls kj14 (fun k_ => some k_ = (.slice Ao27 x3_1.length co27 : Value).ownBlock) (.slice Ao27 x3_1.length co27) x3_1 (wrap64 ((wrap64 (65536 + (wrap64 ((wrap64 (t177 - 55296)) * 1024)))) + (wrap64 (t179 - 56320)))) t185 w _ ?side1 ?side2 A26.out).mono ?_); (case side1 => repeat (first | (with_reducible first | exact HB.out | apply below_alloc | apply pw_below_drewN | apply below_drew1) | exact HB.out)); (case side2 => exact Kd.R_tight rfl HO_3.out); rintro e w28 ⟨v186, rfl, ho0, hb, hkp⟩; refine ⟨_, rfl, ?_⟩; have n0_ := Aside0.mk (Kd.R_mono (ok' := fun k_ => True) ho0 (fun k_ hk_ => trivial)); have n1_ := Aside0.mk (hb); clear HB; clear HO_3; have HO187 := n0_; have HB := n1_; clear n0_ n1_; (try clear hb); (try clear hkp); (try clear ho0)))
                        go_roundg kj14
                        case measure => have := HK1.out; have := HJ2.out; have := HJ14.out; omega
                        case rel => exact ⟨(t185), (wrap64 (x4_1 + 12)), (by first | rfl | (simp; done) | (simp [*]; done)), H', ⟨by have := HK1.out; have := HJ2.out; have := HJ14.out; omega⟩, ⟨by (with_reducible repeat (first | apply Kd.R_alloc | apply Kd.R_drewN | apply Kd.R_drew)); exact HO187.out⟩, ⟨by repeat (first | (with_reducible first | exact HB.out | apply below_alloc | apply pw_below_drewN | apply below_drew1) | exact HB.out)⟩⟩
                      · replace c25 := Bool.eq_false_iff.mpr c25
                        subst c25
                        have H1 : ((spec_appendUTF8.f kj14 x3_1 65533).bind fun t188 => (spec_Kept.l0 kj14 a0 t188 (wrap64 (x4_1 + 12)))) = some r := by rw [if_neg (show ¬ (false = true) by decide)] at H; exact H
                        clear H
                        have H := H1
                        clear H1
                        replace H := Option.bind_eq_some_iff.mp H
                        obtain ⟨t188, A290, H⟩ := H
                        replace H : (spec_Kept.l0 kj14 a0 t188 (wrap64 (x4_1 + 12))) = some r := H
                        have A29 := Aside0.mk A290
                        clear A290
                        have H' := Aside0.mk H
                        clear H
                        go_wp2_with (first | ((with_reducible refine gate_callee (f := 32) rfl ?_); refine goesL_ (some 84) rfl rfl Tryd.func32 (by kernel_rfl) rfl #[.int .i64 t177] rfl (by (try simp only [List.map_toArray, List.map_cons, List.map_nil]); first | done | rfl | (simp only [List.length_drop, List.length_take]; rfl)) ?_; (with_reducible refine (spec_high.calls t177 true _ A22.out).mono ?_); rintro e w' ⟨rfl, ⟨nd, rfl⟩⟩; refine ⟨_, rfl, ?_⟩) | (go_at_call 33; (with_reducible refine (spec_low.calls t179 false _ A24.out).mono ?_); rintro e w' ⟨rfl, ⟨nd, rfl⟩⟩; obtain ⟨Ao30, co30, eo30⟩ := Kd.R_slice HO_3.out; subst eo30) | ((with_reducible refine gate_callee (f := 34) rfl ?_); refine goesL_ (some 98) rfl rfl Tryd.func34 (by kernel_rfl) rfl #[.slice Ao30 x3_1.length co30, .int .i64 65533] rfl (by (try simp only [List.map_toArray, List.map_cons, List.map_nil]); first | done | rfl | (simp only [List.length_drop, List.length_take]; rfl)) ?_; (with_reducible refine (spec_appendUTF8.calls kj14 (fun k_ => some k_ = (.slice Ao30 x3_1.length co30 : Value).ownBlock) (.slice Ao30 x3_1.length co30) x3_1 65533 t188 w _ ?side1 ?side2 A29.out).mono ?_); (case side1 => repeat (first | (with_reducible first | exact HB.out | apply below_alloc | apply pw_below_drewN | apply below_drew1) | exact HB.out)); (case side2 => exact Kd.R_tight rfl HO_3.out); rintro e w31 ⟨v189, rfl, ho0, hb, hkp⟩; refine ⟨_, rfl, ?_⟩; have n0_ := Aside0.mk (Kd.R_mono (ok' := fun k_ => True) ho0 (fun k_ hk_ => trivial)); have n1_ := Aside0.mk (hb); clear HB; clear HO_3; have HO190 := n0_; have HB := n1_; clear n0_ n1_; (try clear hb); (try clear hkp); (try clear ho0)))
                        go_roundg kj14
                        case measure => have := HK1.out; have := HJ2.out; have := HJ14.out; omega
                        case rel => exact ⟨(t188), (wrap64 (x4_1 + 12)), (by first | rfl | (simp; done) | (simp [*]; done)), H', ⟨by have := HK1.out; have := HJ2.out; have := HJ14.out; omega⟩, ⟨by (with_reducible repeat (first | apply Kd.R_alloc | apply Kd.R_drewN | apply Kd.R_drew)); exact HO190.out⟩, ⟨by repeat (first | (with_reducible first | exact HB.out | apply below_alloc | apply pw_below_drewN | apply below_drew1) | exact HB.out)⟩⟩
                    · replace c23 := Bool.eq_false_iff.mpr c23
                      subst c23
                      have H1 : ((spec_appendUTF8.f kj14 x3_1 65533).bind fun t191 => (spec_Kept.l0 kj14 a0 t191 (wrap64 (x4_1 + 12)))) = some r := by rw [if_neg (show ¬ (false = true) by decide)] at H; exact H
                      clear H
                      have H := H1
                      clear H1
                      replace H := Option.bind_eq_some_iff.mp H
                      obtain ⟨t191, A320, H⟩ := H
                      replace H : (spec_Kept.l0 kj14 a0 t191 (wrap64 (x4_1 + 12))) = some r := H
                      have A32 := Aside0.mk A320
                      clear A320
                      have H' := Aside0.mk H
                      clear H
                      go_wp2_with (first | ((with_reducible refine gate_callee (f := 32) rfl ?_); refine goesL_ (some 84) rfl rfl Tryd.func32 (by kernel_rfl) rfl #[.int .i64 t177] rfl (by (try simp only [List.map_toArray, List.map_cons, List.map_nil]); first | done | rfl | (simp only [List.length_drop, List.length_take]; rfl)) ?_; (with_reducible refine (spec_high.calls t177 false _ A22.out).mono ?_); rintro e w' ⟨rfl, ⟨nd, rfl⟩⟩; refine ⟨_, rfl, ?_⟩; obtain ⟨Ao33, co33, eo33⟩ := Kd.R_slice HO_3.out; subst eo33) | ((with_reducible refine gate_callee (f := 34) rfl ?_); refine goesL_ (some 98) rfl rfl Tryd.func34 (by kernel_rfl) rfl #[.slice Ao33 x3_1.length co33, .int .i64 65533] rfl (by (try simp only [List.map_toArray, List.map_cons, List.map_nil]); first | done | rfl | (simp only [List.length_drop, List.length_take]; rfl)) ?_; (with_reducible refine (spec_appendUTF8.calls kj14 (fun k_ => some k_ = (.slice Ao33 x3_1.length co33 : Value).ownBlock) (.slice Ao33 x3_1.length co33) x3_1 65533 t191 w _ ?side1 ?side2 A32.out).mono ?_); (case side1 => repeat (first | (with_reducible first | exact HB.out | apply below_alloc | apply pw_below_drewN | apply below_drew1) | exact HB.out)); (case side2 => exact Kd.R_tight rfl HO_3.out); rintro e w34 ⟨v192, rfl, ho0, hb, hkp⟩; refine ⟨_, rfl, ?_⟩; have n0_ := Aside0.mk (Kd.R_mono (ok' := fun k_ => True) ho0 (fun k_ hk_ => trivial)); have n1_ := Aside0.mk (hb); clear HB; clear HO_3; have HO193 := n0_; have HB := n1_; clear n0_ n1_; (try clear hb); (try clear hkp); (try clear ho0)))
                      go_roundg kj14
                      case measure => have := HK1.out; have := HJ2.out; have := HJ14.out; omega
                      case rel => exact ⟨(t191), (wrap64 (x4_1 + 12)), (by first | rfl | (simp; done) | (simp [*]; done)), H', ⟨by have := HK1.out; have := HJ2.out; have := HJ14.out; omega⟩, ⟨by (with_reducible repeat (first | apply Kd.R_alloc | apply Kd.R_drewN | apply Kd.R_drew)); exact HO193.out⟩, ⟨by repeat (first | (with_reducible first | exact HB.out | apply below_alloc | apply pw_below_drewN | apply below_drew1) | exact HB.out)⟩⟩
                  · replace c21 := Bool.eq_false_iff.mpr c21
                    subst c21
                    have H1 : (if t178 = true then ((spec_high.f t177).bind fun t194 => (if t194 = true then (spec_Kept.j3 kj14 a0 x3_1 x4_1 t177 t178 true) else ((spec_low.f t177).bind fun t195 => (spec_Kept.j3 kj14 a0 x3_1 x4_1 t177 t178 t195)))) else (spec_Kept.j3 kj14 a0 x3_1 x4_1 t177 t178 false)) = some r := by rw [if_neg (show ¬ (false = true) by decide)] at H; exact H
                    clear H
                    have H := H1
                    clear H1
                    have HC35 := Aside0.mk H
                    clear H
                    go_upto_region 20 with (fail)
                    go_cut [101] (fun v101 wc => ∃ (kq : Nat) (x101_34 : Bool), v101 = .bool x101_34 ∧ Aside0 (spec_Kept.j3 kq a0 x3_1 x4_1 t177 t178 x101_34 = some r) ∧ Aside0 (kq ≤ kj14) ∧ Aside0 (Kd.R (Kd.int .u8) 5 wc w.heap.size (fun _ => True) u3 x3_1) ∧ Aside0 (Below w.heap.size w wc))
                    case first =>
                      have H := HC35.out
                      clear HC35
                      by_cases c36 : t178 = true
                      · subst c36
                        have H1 : ((spec_high.f t177).bind fun t194 => (if t194 = true then (spec_Kept.j3 kj14 a0 x3_1 x4_1 t177 true true) else ((spec_low.f t177).bind fun t195 => (spec_Kept.j3 kj14 a0 x3_1 x4_1 t177 true t195)))) = some r := by rw [if_pos rfl] at H; exact H
                        clear H
                        have H := H1
                        clear H1
                        replace H := Option.bind_eq_some_iff.mp H
                        obtain ⟨t194, A370, H⟩ := H
                        replace H : (if t194 = true then (spec_Kept.j3 kj14 a0 x3_1 x4_1 t177 true true) else ((spec_low.f t177).bind fun t195 => (spec_Kept.j3 kj14 a0 x3_1 x4_1 t177 true t195))) = some r := H
                        have A37 := Aside0.mk A370
                        clear A370
                        by_cases c38 : t194 = true
                        · subst c38
                          have H1 : (spec_Kept.j3 kj14 a0 x3_1 x4_1 t177 true true) = some r := by rw [if_pos rfl] at H; exact H
                          clear H
                          have H := H1
                          clear H1
                          have H' := Aside0.mk H
                          clear H
                          go_wp2_with (first | (go_at_call 32; (with_reducible refine (spec_high.calls t177 true _ A37.out).mono ?_); rintro e w' ⟨rfl, ⟨nd, rfl⟩⟩))
                          go_meet
                          case rel => exact ⟨_, (true), (by first | rfl | (simp; done) | (simp [*]; done)), H', ⟨by have := HK1.out; have := HJ2.out; have := HJ14.out; first | omega | exact Nat.le_refl _⟩, ⟨by (with_reducible repeat (first | apply Kd.R_alloc | apply Kd.R_drewN | apply Kd.R_drew)); exact HO_3.out⟩, ⟨by repeat (first | (with_reducible first | exact HB.out | apply below_alloc | apply pw_below_drewN | apply below_drew1) | exact HB.out)⟩⟩
                        · replace c38 := Bool.eq_false_iff.mpr c38
                          subst c38
                          have H1 : ((spec_low.f t177).bind fun t195 => (spec_Kept.j3 kj14 a0 x3_1 x4_1 t177 true t195)) = some r := by rw [if_neg (show ¬ (false = true) by decide)] at H; exact H
                          clear H
                          have H := H1
                          clear H1
                          replace H := Option.bind_eq_some_iff.mp H
                          obtain ⟨t195, A390, H⟩ := H
                          replace H : (spec_Kept.j3 kj14 a0 x3_1 x4_1 t177 true t195) = some r := H
                          have A39 := Aside0.mk A390
                          clear A390
                          have H' := Aside0.mk H
                          clear H
                          go_wp2_with (first | (go_at_call 32; (with_reducible refine (spec_high.calls t177 false _ A37.out).mono ?_); rintro e w' ⟨rfl, ⟨nd, rfl⟩⟩) | (go_at_call 33; (with_reducible refine (spec_low.calls t177 t195 _ A39.out).mono ?_); rintro e w' ⟨rfl, ⟨nd, rfl⟩⟩))
                          go_meet
                          case rel => exact ⟨_, (t195), (by first | rfl | (simp; done) | (simp [*]; done)), H', ⟨by have := HK1.out; have := HJ2.out; have := HJ14.out; first | omega | exact Nat.le_refl _⟩, ⟨by (with_reducible repeat (first | apply Kd.R_alloc | apply Kd.R_drewN | apply Kd.R_drew)); exact HO_3.out⟩, ⟨by repeat (first | (with_reducible first | exact HB.out | apply below_alloc | apply pw_below_drewN | apply below_drew1) | exact HB.out)⟩⟩
                      · replace c36 := Bool.eq_false_iff.mpr c36
                        subst c36
                        have H1 : (spec_Kept.j3 kj14 a0 x3_1 x4_1 t177 false false) = some r := by rw [if_neg (show ¬ (false = true) by decide)] at H; exact H
                        clear H
                        have H := H1
                        clear H1
                        have H' := Aside0.mk H
                        clear H
                        go_wp2
                        go_meet
                        case rel => exact ⟨_, (false), (by first | rfl | (simp; done) | (simp [*]; done)), H', ⟨by have := HK1.out; have := HJ2.out; have := HJ14.out; first | omega | exact Nat.le_refl _⟩, ⟨by (with_reducible repeat (first | apply Kd.R_alloc | apply Kd.R_drewN | apply Kd.R_drew)); exact HO_3.out⟩, ⟨by repeat (first | (with_reducible first | exact HB.out | apply below_alloc | apply pw_below_drewN | apply below_drew1) | exact HB.out)⟩⟩
                    case rest =>
                      clear HC35
                      try clear c1
                      try clear p1
                      try clear q1
                      try clear hx1
                      try clear c2
                      try clear c2b0
                      try clear p2
                      try clear c3
                      try clear c4
                      try clear c4b0
                      try clear p5
                      try clear q5
                      try clear hx5
                      try clear c6
                      try clear c6b0
                      try clear c6b1
                      try clear p6
                      try clear c7
                      try clear c8
                      try clear c8b0
                      try clear c9
                      try clear c9b0
                      try clear p10
                      try clear q10
                      try clear hx10
                      try clear c11
                      try clear c16
                      try clear c18
                      try clear c20
                      try clear c21
                      try clear c23
                      try clear c25
                      try clear c31
                      try clear c32
                      try clear c34
                      try clear c36
                      try clear c38
                      try clear p1
                      try clear p10
                      try clear p2
                      try clear p5
                      try clear p6
                      try clear q1
                      try clear q10
                      try clear q5
                      obtain ⟨kq, x101_34, rfl, HA, HJ34, HO_3, HB⟩ := hcut
                      cases kq with
                      | zero => exact absurd HA.out (by simp [spec_Kept.j3])
                      | succ kj34 =>
                        have H := HA.out
                        clear HA
                        simp only [spec_Kept.j3] at H
                        by_cases c40 : x101_34 = true
                        · subst c40
                          have H1 : (if 0 ≤ x4_1 then (if x4_1 ≤ (wrap64 (x4_1 + 6)) then (if (wrap64 (x4_1 + 6)) ≤ (a0.size : Int) then (if x3_1.length + (a0.extract (x4_1 : Int).toNat ((wrap64 (x4_1 + 6)) : Int).toNat).size < 140737488355328 then (spec_Kept.l0 kj34 a0 (x3_1 ++ bytesOf (a0.extract (x4_1 : Int).toNat ((wrap64 (x4_1 + 6)) : Int).toNat)) (wrap64 (x4_1 + 6))) else (none)) else (none)) else (none)) else (none)) = some r := by rw [if_pos rfl] at H; exact H
                          clear H
                          have H := H1
                          clear H1
                          by_cases c41 : 0 ≤ x4_1
                          · rw [if_pos c41] at H
                            have c41b0 := eq_true c41
                            have c41b1 : decide (0 ≤ x4_1) = true := decide_eq_true c41
                            clear c41
                            by_cases c42 : x4_1 ≤ (wrap64 (x4_1 + 6))
                            · rw [if_pos c42] at H
                              have c42b0 := eq_true c42
                              have c42b1 : decide (x4_1 ≤ (wrap64 (x4_1 + 6))) = true := decide_eq_true c42
                              by_cases c43 : (wrap64 (x4_1 + 6)) ≤ (a0.size : Int)
                              · rw [if_pos c43] at H
                                have c43b0 := eq_true c43
                                have c43b1 : decide ((wrap64 (x4_1 + 6)) ≤ (a0.size : Int)) = true := decide_eq_true c43
                                by_cases c44 : x3_1.length + (a0.extract (x4_1 : Int).toNat ((wrap64 (x4_1 + 6)) : Int).toNat).size < 140737488355328
                                · rw [if_pos c44] at H
                                  have LMc44 := Aside0.mk c44
                                  clear c44
                                  obtain ⟨y196, hy196⟩ : ∃ y_ : List Int, y_ = (x3_1 ++ bytesOf (a0.extract (x4_1 : Int).toNat ((wrap64 (x4_1 + 6)) : Int).toNat)) := ⟨_, rfl⟩
                                  replace H : (spec_Kept.l0 kj34 a0 y196 (wrap64 (x4_1 + 6))) = some r := by first | (rw [hy196]; with_reducible exact H) | (have H2_ := (Option.bind_some _ _).symm.trans H; rw [hy196]; with_reducible exact H2_) | (have H2_ := (Option.bind_some _ _).symm.trans H; with_reducible exact H2_) | with_reducible exact H | (rw [hy196]; exact H) | exact H
                                  have Ny196 := Aside0.mk hy196
                                  clear hy196
                                  have H' := Aside0.mk H
                                  clear H
                                  go_wp2_with (first | (at_builtin; refine print_append_str (w0 := w) w.heap.size rfl (.tmp 111) _ 36 9 5 rfl Tryd.underlying36 Tryd.underlying9 info5 u3 x3_1 (a0.extract (x4_1 : Int).toNat ((wrap64 (x4_1 + 6)) : Int).toNat) rfl rfl ?aO ?aB ?aS ?aL ?_; (case aB => exact (by repeat (first | (with_reducible first | exact HB.out | apply below_alloc | apply pw_below_drewN | apply below_drew1) | exact HB.out))); (case aO => exact (Kd.own_of_R (by (with_reducible repeat (first | apply Kd.R_alloc | apply Kd.R_drewN | apply Kd.R_drew)); exact HO_3.out))); (case aS => exact (below_size (by repeat (first | (with_reducible first | exact HB.out | apply below_alloc | apply pw_below_drewN | apply below_drew1) | exact HB.out)))); (case aL => have := LMc44.out; omega); intro v197 w45 ho0 hb hg; have ho := Kd.R_of_own (h1 := fun _ => rfl) (ok := fun _ => True) ho0 (fun _ _ => trivial); clear ho0; have hat := True.intro; rw [← Ny196.out] at ho; change Kd.R (Kd.int .u8) 5 w45 w.heap.size (fun _ => True) v197 y196 at ho; have n0_ := Aside0.mk (hb); have n1_ := Aside0.mk (ho); clear HB; clear HO_3; have HB := n0_; have HO198 := n1_; clear n0_ n1_; clear ho hb hg hat))
                                  go_roundg kj34
                                  case measure => have := HK1.out; have := HJ2.out; have := HJ14.out; have := HJ34.out; omega
                                  case rel => exact ⟨(y196), (wrap64 (x4_1 + 6)), (by first | rfl | (simp; done) | (simp [*]; done)), H', ⟨by have := HK1.out; have := HJ2.out; have := HJ14.out; have := HJ34.out; omega⟩, ⟨by (with_reducible repeat (first | apply Kd.R_alloc | apply Kd.R_drewN | apply Kd.R_drew)); exact HO198.out⟩, ⟨by repeat (first | (with_reducible first | exact HB.out | apply below_alloc | apply pw_below_drewN | apply below_drew1) | exact HB.out)⟩⟩
                                · rw [if_neg c44] at H
                                  exact absurd H (by simp)
                              · rw [if_neg c43] at H
                                exact absurd H (by simp)
                            · rw [if_neg c42] at H
                              exact absurd H (by simp)
                          · rw [if_neg c41] at H
                            exact absurd H (by simp)
                        · replace c40 := Bool.eq_false_iff.mpr c40
                          subst c40
                          have H1 : (if t178 = true then ((spec_appendUTF8.f kj34 x3_1 t177).bind fun t199 => (spec_Kept.l0 kj34 a0 t199 (wrap64 (x4_1 + 6)))) else (if 0 ≤ (wrap64 (x4_1 + 1)) then (if (wrap64 (x4_1 + 1)) < (a0.size : Int) then ((spec_shortEscape.f (bt a0 (wrap64 (x4_1 + 1)))).bind fun bt202 => (if bt202.2 = true then (if x3_1.length < 140737488355328 then (spec_Kept.l0 kj34 a0 (x3_1 ++ [bt202.1]) (wrap64 (x4_1 + 2))) else (none)) else (if 0 ≤ x4_1 then (if x4_1 ≤ (wrap64 (x4_1 + 2)) then (if (wrap64 (x4_1 + 2)) ≤ (a0.size : Int) then (if x3_1.length + (a0.extract (x4_1 : Int).toNat ((wrap64 (x4_1 + 2)) : Int).toNat).size < 140737488355328 then (spec_Kept.l0 kj34 a0 (x3_1 ++ bytesOf (a0.extract (x4_1 : Int).toNat ((wrap64 (x4_1 + 2)) : Int).toNat)) (wrap64 (x4_1 + 2))) else (none)) else (none)) else (none)) else (none)))) else (none)) else (none))) = some r := by rw [if_neg (show ¬ (false = true) by decide)] at H; exact H
                          clear H
                          have H := H1
                          clear H1
                          by_cases c46 : t178 = true
                          · subst c46
                            have H1 : ((spec_appendUTF8.f kj34 x3_1 t177).bind fun t199 => (spec_Kept.l0 kj34 a0 t199 (wrap64 (x4_1 + 6)))) = some r := by rw [if_pos rfl] at H; exact H
                            clear H
                            have H := H1
                            clear H1
                            replace H := Option.bind_eq_some_iff.mp H
                            obtain ⟨t199, A470, H⟩ := H
                            replace H : (spec_Kept.l0 kj34 a0 t199 (wrap64 (x4_1 + 6))) = some r := H
                            have A47 := Aside0.mk A470
                            clear A470
                            have H' := Aside0.mk H
                            clear H
                            obtain ⟨Ao48, co48, eo48⟩ := Kd.R_slice HO_3.out
                            subst eo48
                            go_wp2_with (first | ((with_reducible refine gate_callee (f := 34) rfl ?_); refine goesL_ (some 124) rfl rfl Tryd.func34 (by kernel_rfl) rfl #[.slice Ao48 x3_1.length co48, .int .i64 t177] rfl (by (try simp only [List.map_toArray, List.map_cons, List.map_nil]); first | done | rfl | (simp only [List.length_drop, List.length_take]; rfl)) ?_; (with_reducible refine (spec_appendUTF8.calls kj34 (fun k_ => some k_ = (.slice Ao48 x3_1.length co48 : Value).ownBlock) (.slice Ao48 x3_1.length co48) x3_1 t177 t199 w _ ?side1 ?side2 A47.out).mono ?_); (case side1 => repeat (first | (with_reducible first | exact HB.out | apply below_alloc | apply pw_below_drewN | apply below_drew1) | exact HB.out)); (case side2 => exact Kd.R_tight rfl HO_3.out); rintro e w49 ⟨v200, rfl, ho0, hb, hkp⟩; refine ⟨_, rfl, ?_⟩; have n0_ := Aside0.mk (Kd.R_mono (ok' := fun k_ => True) ho0 (fun k_ hk_ => trivial)); have n1_ := Aside0.mk (hb); clear HB; clear HO_3; have HO201 := n0_; have HB := n1_; clear n0_ n1_; (try clear hb); (try clear hkp); (try clear ho0)))
                            go_roundg kj34
                            case measure => have := HK1.out; have := HJ2.out; have := HJ14.out; have := HJ34.out; omega
                            case rel => exact ⟨(t199), (wrap64 (x4_1 + 6)), (by first | rfl | (simp; done) | (simp [*]; done)), H', ⟨by have := HK1.out; have := HJ2.out; have := HJ14.out; have := HJ34.out; omega⟩, ⟨by (with_reducible repeat (first | apply Kd.R_alloc | apply Kd.R_drewN | apply Kd.R_drew)); exact HO201.out⟩, ⟨by repeat (first | (with_reducible first | exact HB.out | apply below_alloc | apply pw_below_drewN | apply below_drew1) | exact HB.out)⟩⟩
                          · replace c46 := Bool.eq_false_iff.mpr c46
                            subst c46
                            have H1 : (if 0 ≤ (wrap64 (x4_1 + 1)) then (if (wrap64 (x4_1 + 1)) < (a0.size : Int) then ((spec_shortEscape.f (bt a0 (wrap64 (x4_1 + 1)))).bind fun bt202 => (if bt202.2 = true then (if x3_1.length < 140737488355328 then (spec_Kept.l0 kj34 a0 (x3_1 ++ [bt202.1]) (wrap64 (x4_1 + 2))) else (none)) else (if 0 ≤ x4_1 then (if x4_1 ≤ (wrap64 (x4_1 + 2)) then (if (wrap64 (x4_1 + 2)) ≤ (a0.size : Int) then (if x3_1.length + (a0.extract (x4_1 : Int).toNat ((wrap64 (x4_1 + 2)) : Int).toNat).size < 140737488355328 then (spec_Kept.l0 kj34 a0 (x3_1 ++ bytesOf (a0.extract (x4_1 : Int).toNat ((wrap64 (x4_1 + 2)) : Int).toNat)) (wrap64 (x4_1 + 2))) else (none)) else (none)) else (none)) else (none)))) else (none)) else (none)) = some r := by rw [if_neg (show ¬ (false = true) by decide)] at H; exact H
                            clear H
                            have H := H1
                            clear H1
                            obtain ⟨ji50, hji50⟩ : ∃ j_ : Int, (wrap64 (x4_1 + 1)) = j_ := ⟨_, rfl⟩
                            replace H : (if 0 ≤ (ji50) then (if (ji50) < (a0.size : Int) then ((spec_shortEscape.f (bt a0 (ji50))).bind fun bt202 => (if bt202.2 = true then (if x3_1.length < 140737488355328 then (spec_Kept.l0 kj34 a0 (x3_1 ++ [bt202.1]) (wrap64 (x4_1 + 2))) else (none)) else (if 0 ≤ x4_1 then (if x4_1 ≤ (wrap64 (x4_1 + 2)) then (if (wrap64 (x4_1 + 2)) ≤ (a0.size : Int) then (if x3_1.length + (a0.extract (x4_1 : Int).toNat ((wrap64 (x4_1 + 2)) : Int).toNat).size < 140737488355328 then (spec_Kept.l0 kj34 a0 (x3_1 ++ bytesOf (a0.extract (x4_1 : Int).toNat ((wrap64 (x4_1 + 2)) : Int).toNat)) (wrap64 (x4_1 + 2))) else (none)) else (none)) else (none)) else (none)))) else (none)) else (none)) = some r := by first | (rw [hji50] at H; exact H) | (simp only [hji50] at H ⊢; exact H)
                            have hji50w : (IntKind.i64.wrap (x4_1 + 1)) = ji50 := (i64_w _).trans hji50
                            by_cases c51 : 0 ≤ (ji50)
                            · rw [if_pos c51] at H
                              have c51b0 : decide (0 ≤ (ji50)) = true := decide_eq_true c51
                              clear c51
                              by_cases c52 : (ji50) < (a0.size : Int)
                              · rw [if_pos c52] at H
                                have c52b0 : decide ((ji50) < (a0.size : Int)) = true := decide_eq_true c52
                                clear c52
                                replace H := Option.bind_eq_some_iff.mp H
                                obtain ⟨⟨t202, t203⟩, A540, H⟩ := H
                                replace H : (if t203 = true then (if x3_1.length < 140737488355328 then (spec_Kept.l0 kj34 a0 (x3_1 ++ [t202]) (wrap64 (x4_1 + 2))) else (none)) else (if 0 ≤ x4_1 then (if x4_1 ≤ (wrap64 (x4_1 + 2)) then (if (wrap64 (x4_1 + 2)) ≤ (a0.size : Int) then (if x3_1.length + (a0.extract (x4_1 : Int).toNat ((wrap64 (x4_1 + 2)) : Int).toNat).size < 140737488355328 then (spec_Kept.l0 kj34 a0 (x3_1 ++ bytesOf (a0.extract (x4_1 : Int).toNat ((wrap64 (x4_1 + 2)) : Int).toNat)) (wrap64 (x4_1 + 2))) else (none)) else (none)) else (none)) else (none))) = some r := H
                                have A54 := Aside0.mk A540
                                clear A540
                                by_cases c55 : t203 = true
                                · subst c55
                                  have H1 : (if x3_1.length < 140737488355328 then (spec_Kept.l0 kj34 a0 (x3_1 ++ [t202]) (wrap64 (x4_1 + 2))) else (none)) = some r := by rw [if_pos rfl] at H; exact H
                                  clear H
                                  have H := H1
                                  clear H1
                                  by_cases c56 : x3_1.length < 140737488355328
                                  · rw [if_pos c56] at H
                                    have LMc56 := Aside0.mk c56
                                    clear c56
                                    obtain ⟨y204, hy204⟩ : ∃ y_ : List Int, y_ = (x3_1 ++ [t202]) := ⟨_, rfl⟩
                                    replace H : (spec_Kept.l0 kj34 a0 y204 (wrap64 (x4_1 + 2))) = some r := by first | (rw [hy204]; with_reducible exact H) | (have H2_ := (Option.bind_some _ _).symm.trans H; rw [hy204]; with_reducible exact H2_) | (have H2_ := (Option.bind_some _ _).symm.trans H; with_reducible exact H2_) | with_reducible exact H | (rw [hy204]; exact H) | exact H
                                    have Ny204 := Aside0.mk hy204
                                    clear hy204
                                    have H' := Aside0.mk H
                                    clear H
                                    have p53 : 0 ≤ ((ji50) : Int) := of_decide_eq_true (by first | (with_reducible assumption) | assumption)
                                    have q53 : (ji50) < (a0.size : Int) := of_decide_eq_true (by first | (with_reducible assumption) | assumption)
                                    have hx53 := bt_at a0 (ji50)
                                    replace p53 := eq_true p53
                                    replace q53 := eq_true q53
                                    go_wp2_with (first | ((with_reducible refine gate_callee (f := 35) rfl ?_); refine goesL_ (some 53) rfl rfl Tryd.func35 (by kernel_rfl) rfl #[.int .u8 (bt a0 (ji50))] rfl (by (try simp only [List.map_toArray, List.map_cons, List.map_nil]); first | done | (simp only [hji50]; rfl) | rfl | (simp only [List.length_drop, List.length_take]; rfl)) ?_; (with_reducible refine (spec_shortEscape.calls (bt a0 (ji50)) t202 true _ A54.out).mono ?_); rintro e w' ⟨rfl, ⟨nd, rfl⟩⟩; refine ⟨_, rfl, ?_⟩) | ((with_reducible refine gate_builtin (b := .append) (xs := #[.tmp 57, .tmp 59]) rfl ?_); (try (refine gate_guard (by rfl) ?_; dsimp only)); at_builtin; refine Kd.R_append (Kd.int .u8) (w0 := w) w.heap.size rfl (.tmp 57) (.tmp 59) 36 5 (.int .u8 0) 1 rfl Tryd.underlying36 info5 rfl (by decide) (by omega) u3 x3_1 t202 [.int .u8 t202] (fun _ => True) (fun _ => False) rfl rfl ?aP (fun _ hk => hk.elim) ?aF ?aO ?aB ?aS ?aL ?_; (case aP => exact rfl); (case aB => exact (by repeat (first | (with_reducible first | exact HB.out | apply below_alloc | apply pw_below_drewN | apply below_drew1) | exact HB.out))); (case aF => exact (fun _ _ => trivial)); (case aO => exact (by (with_reducible repeat (first | apply Kd.R_alloc | apply Kd.R_drewN | apply Kd.R_drew)); exact HO_3.out)); (case aS => exact (below_size (by repeat (first | (with_reducible first | exact HB.out | apply below_alloc | apply pw_below_drewN | apply below_drew1) | exact HB.out)))); (case aL => have := LMc56.out; omega); intro v205 w57 ho hb hg hat; rw [← Ny204.out] at ho; have n0_ := Aside0.mk (hb); have n1_ := Aside0.mk (ho); clear HB; clear HO_3; have HB := n0_; have HO206 := n1_; clear n0_ n1_; clear ho hb hg hat))
                                    go_roundg kj34
                                    case measure => have := HK1.out; have := HJ2.out; have := HJ14.out; have := HJ34.out; omega
                                    case rel => exact ⟨(y204), (wrap64 (x4_1 + 2)), (by first | rfl | (simp; done) | (simp [*]; done)), H', ⟨by have := HK1.out; have := HJ2.out; have := HJ14.out; have := HJ34.out; omega⟩, ⟨by (with_reducible repeat (first | apply Kd.R_alloc | apply Kd.R_drewN | apply Kd.R_drew)); exact HO206.out⟩, ⟨by repeat (first | (with_reducible first | exact HB.out | apply below_alloc | apply pw_below_drewN | apply below_drew1) | exact HB.out)⟩⟩
                                  · rw [if_neg c56] at H
                                    exact absurd H (by simp)
                                · replace c55 := Bool.eq_false_iff.mpr c55
                                  subst c55
                                  have H1 : (if 0 ≤ x4_1 then (if x4_1 ≤ (wrap64 (x4_1 + 2)) then (if (wrap64 (x4_1 + 2)) ≤ (a0.size : Int) then (if x3_1.length + (a0.extract (x4_1 : Int).toNat ((wrap64 (x4_1 + 2)) : Int).toNat).size < 140737488355328 then (spec_Kept.l0 kj34 a0 (x3_1 ++ bytesOf (a0.extract (x4_1 : Int).toNat ((wrap64 (x4_1 + 2)) : Int).toNat)) (wrap64 (x4_1 + 2))) else (none)) else (none)) else (none)) else (none)) = some r := by rw [if_neg (show ¬ (false = true) by decide)] at H; exact H
                                  clear H
                                  have H := H1
                                  clear H1
                                  by_cases c58 : 0 ≤ x4_1
                                  · rw [if_pos c58] at H
                                    have c58b0 := eq_true c58
                                    have c58b1 : decide (0 ≤ x4_1) = true := decide_eq_true c58
                                    clear c58
                                    by_cases c59 : x4_1 ≤ (wrap64 (x4_1 + 2))
                                    · rw [if_pos c59] at H
                                      have c59b0 := eq_true c59
                                      have c59b1 : decide (x4_1 ≤ (wrap64 (x4_1 + 2))) = true := decide_eq_true c59
                                      by_cases c60 : (wrap64 (x4_1 + 2)) ≤ (a0.size : Int)
                                      · rw [if_pos c60] at H
                                        have c60b0 := eq_true c60
                                        have c60b1 : decide ((wrap64 (x4_1 + 2)) ≤ (a0.size : Int)) = true := decide_eq_true c60
                                        by_cases c61 : x3_1.length + (a0.extract (x4_1 : Int).toNat ((wrap64 (x4_1 + 2)) : Int).toNat).size < 140737488355328
                                        · rw [if_pos c61] at H
                                          have LMc61 := Aside0.mk c61
                                          clear c61
                                          obtain ⟨y207, hy207⟩ : ∃ y_ : List Int, y_ = (x3_1 ++ bytesOf (a0.extract (x4_1 : Int).toNat ((wrap64 (x4_1 + 2)) : Int).toNat)) := ⟨_, rfl⟩
                                          replace H : (spec_Kept.l0 kj34 a0 y207 (wrap64 (x4_1 + 2))) = some r := by first | (rw [hy207]; with_reducible exact H) | (have H2_ := (Option.bind_some _ _).symm.trans H; rw [hy207]; with_reducible exact H2_) | (have H2_ := (Option.bind_some _ _).symm.trans H; with_reducible exact H2_) | with_reducible exact H | (rw [hy207]; exact H) | exact H
                                          have Ny207 := Aside0.mk hy207
                                          clear hy207
                                          have H' := Aside0.mk H
                                          clear H
                                          have p53 : 0 ≤ ((ji50) : Int) := of_decide_eq_true (by first | (with_reducible assumption) | assumption)
                                          have q53 : (ji50) < (a0.size : Int) := of_decide_eq_true (by first | (with_reducible assumption) | assumption)
                                          have hx53 := bt_at a0 (ji50)
                                          replace p53 := eq_true p53
                                          replace q53 := eq_true q53
                                          go_wp2_with (first | ((with_reducible refine gate_callee (f := 35) rfl ?_); refine goesL_ (some 53) rfl rfl Tryd.func35 (by kernel_rfl) rfl #[.int .u8 (bt a0 (ji50))] rfl (by (try simp only [List.map_toArray, List.map_cons, List.map_nil]); first | done | (simp only [hji50]; rfl) | rfl | (simp only [List.length_drop, List.length_take]; rfl)) ?_; (with_reducible refine (spec_shortEscape.calls (bt a0 (ji50)) t202 false _ A54.out).mono ?_); rintro e w' ⟨rfl, ⟨nd, rfl⟩⟩; refine ⟨_, rfl, ?_⟩) | (at_builtin; refine print_append_str (w0 := w) w.heap.size rfl (.tmp 61) _ 36 9 5 rfl Tryd.underlying36 Tryd.underlying9 info5 u3 x3_1 (a0.extract (x4_1 : Int).toNat ((wrap64 (x4_1 + 2)) : Int).toNat) rfl rfl ?aO ?aB ?aS ?aL ?_; (case aB => exact (by repeat (first | (with_reducible first | exact HB.out | apply below_alloc | apply pw_below_drewN | apply below_drew1) | exact HB.out))); (case aO => exact (Kd.own_of_R (by (with_reducible repeat (first | apply Kd.R_alloc | apply Kd.R_drewN | apply Kd.R_drew)); exact HO_3.out))); (case aS => exact (below_size (by repeat (first | (with_reducible first | exact HB.out | apply below_alloc | apply pw_below_drewN | apply below_drew1) | exact HB.out)))); (case aL => have := LMc61.out; omega); intro v208 w62 ho0 hb hg; have ho := Kd.R_of_own (h1 := fun _ => rfl) (ok := fun _ => True) ho0 (fun _ _ => trivial); clear ho0; have hat := True.intro; rw [← Ny207.out] at ho; change Kd.R (Kd.int .u8) 5 w62 w.heap.size (fun _ => True) v208 y207 at ho; have n0_ := Aside0.mk (hb); have n1_ := Aside0.mk (ho); clear HB; clear HO_3; have HB := n0_; have HO209 := n1_; clear n0_ n1_; clear ho hb hg hat))
                                          go_roundg kj34
                                          case measure => have := HK1.out; have := HJ2.out; have := HJ14.out; have := HJ34.out; omega
                                          case rel => exact ⟨(y207), (wrap64 (x4_1 + 2)), (by first | rfl | (simp; done) | (simp [*]; done)), H', ⟨by have := HK1.out; have := HJ2.out; have := HJ14.out; have := HJ34.out; omega⟩, ⟨by (with_reducible repeat (first | apply Kd.R_alloc | apply Kd.R_drewN | apply Kd.R_drew)); exact HO209.out⟩, ⟨by repeat (first | (with_reducible first | exact HB.out | apply below_alloc | apply pw_below_drewN | apply below_drew1) | exact HB.out)⟩⟩
                                        · rw [if_neg c61] at H
                                          exact absurd H (by simp)
                                      · rw [if_neg c60] at H
                                        exact absurd H (by simp)
                                    · rw [if_neg c59] at H
                                      exact absurd H (by simp)
                                  · rw [if_neg c58] at H
                                    exact absurd H (by simp)
                              · rw [if_neg c52] at H
                                exact absurd H (by simp)
                            · rw [if_neg c51] at H
                              exact absurd H (by simp)
      · rw [if_neg c2] at H
        have c2b0 : decide (x4_1 < (a0.size : Int)) = false := decide_eq_false c2
        clear c2
        obtain rfl := Option.some.inj H
        have hcv63 := own_string (P := Tryd.prog) Tryd.underlying36 Tryd.underlying5 Tryd.underlying9 (Kd.own_of_R HO_3.out)
        go_wp2
        go_ret
        exact ⟨by first | rfl | (simp [errW_none, errW_some] <;> rfl) | (simp [*, errW_none, errW_some] <;> rfl), by repeat (first | (with_reducible first | exact HB.out | apply below_alloc | apply pw_below_drewN | apply below_drew1) | exact HB.out)⟩

-- NOT PRINTED: function 4 (laws_FnFjUnescapeAll)

end Go.Proofs.YtkmdcckiehbcmaaDoor.PFnFjUnescapeAll
