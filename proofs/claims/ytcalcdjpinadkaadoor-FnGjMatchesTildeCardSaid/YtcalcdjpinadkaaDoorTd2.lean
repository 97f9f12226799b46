/- Functions of a law, printed; what does not build is left out. -/
import Derived.Test.YtcalcdjpinadkaaDoorPFnGjMatchesTildex0
namespace Go.Proofs.YtcalcdjpinadkaaDoor.PFnGjMatchesTilde
open Go.RowKit Go.Proofs.YtcalcdjpinadkaaDoorW.PrintWords Go.Proofs.YtcalcdjpinadkaaDoorW.PrintLast Go.Proofs.YtcalcdjpinadkaaDoorW.PrintMore
attribute [local go_sem] max2_int min2_int max_two min_two max_three min_three max_four min_four   -- for this text's walks alone
set_option linter.unusedVariables false
set_option linter.unusedSimpArgs false

/-! ### gjson_zzLower: function 47 -/
mutual
def gjson_zzLower.l0 : Nat → ByteArray → List Int → Int → Option (ByteArray)
  | 0, _, _, _ => none
  | k + 1, x0, x3, x4 => if x4 < (x0.size : Int) then (if 0 ≤ x4 then (if 65 ≤ (bt x0 x4) then (gjson_zzLower.j1 k x0 x3 x4 (bt x0 x4) (decide ((bt x0 x4) ≤ 90))) else (gjson_zzLower.j1 k x0 x3 x4 (bt x0 x4) false)) else (none)) else (some (strOfNums x3))
def gjson_zzLower.j1 : Nat → ByteArray → List Int → Int → Int → Bool → Option (ByteArray)
  | 0, _, _, _, _, _ => none
  | k + 1, x0, x3, x4, x5, x20 => if x20 = true then (if ((x5 + 32) % 256) = 196 then (if (wrap64 (x4 + 1)) < (x0.size : Int) then (if 0 ≤ (wrap64 (x4 + 1)) then (if (bt x0 (wrap64 (x4 + 1))) = 176 then (if x3.length < 140737488355328 then (gjson_zzLower.l0 k x0 (x3 ++ [105]) (wrap64 ((wrap64 (x4 + 1)) + 1))) else (none)) else (if x3.length < 140737488355328 then (gjson_zzLower.l0 k x0 (x3 ++ [(x5 + 32) % 256]) (wrap64 (x4 + 1))) else (none))) else (none)) else (if x3.length < 140737488355328 then (gjson_zzLower.l0 k x0 (x3 ++ [(x5 + 32) % 256]) (wrap64 (x4 + 1))) else (none))) else (if x3.length < 140737488355328 then (gjson_zzLower.l0 k x0 (x3 ++ [(x5 + 32) % 256]) (wrap64 (x4 + 1))) else (none))) else (if x5 = 196 then (if (wrap64 (x4 + 1)) < (x0.size : Int) then (if 0 ≤ (wrap64 (x4 + 1)) then (if (bt x0 (wrap64 (x4 + 1))) = 176 then (if x3.length < 140737488355328 then (gjson_zzLower.l0 k x0 (x3 ++ [105]) (wrap64 ((wrap64 (x4 + 1)) + 1))) else (none)) else (if x3.length < 140737488355328 then (gjson_zzLower.l0 k x0 (x3 ++ [x5]) (wrap64 (x4 + 1))) else (none))) else (none)) else (if x3.length < 140737488355328 then (gjson_zzLower.l0 k x0 (x3 ++ [x5]) (wrap64 (x4 + 1))) else (none))) else (if x3.length < 140737488355328 then (gjson_zzLower.l0 k x0 (x3 ++ [x5]) (wrap64 (x4 + 1))) else (none)))
end
def gjson_zzLower.f (k : Nat) (a0 : ByteArray) : Option (ByteArray) := gjson_zzLower.l0 k a0 ([] : List Int) 0
theorem gjson_zzLower.mono_l : ∀ k, (∀ y0 y1 y2, LeO (gjson_zzLower.l0 k y0 y1 y2) (gjson_zzLower.l0 (k + 1) y0 y1 y2)) ∧ (∀ y0 y1 y2 y3 y4, LeO (gjson_zzLower.j1 k y0 y1 y2 y3 y4) (gjson_zzLower.j1 (k + 1) y0 y1 y2 y3 y4))
  | 0 => ⟨fun _ _ _ r h => by simp [gjson_zzLower.l0] at h, fun _ _ _ _ _ r h => by simp [gjson_zzLower.j1] at h⟩
  | k + 1 => by
    obtain ⟨ih0, ih1⟩ := gjson_zzLower.mono_l k
    refine ⟨?_, ?_⟩
    · intro y0 y1 y2
      unfold gjson_zzLower.l0
      repeat' first
      | (with_reducible exact ih0 _ _ _)
      | (with_reducible exact ih1 _ _ _ _ _)
      | (with_reducible exact LeO.refl _)
      | (with_reducible exact LeO.none _)
      | (with_reducible refine LeO.ite ?_ ?_)
      | (with_reducible refine LeO.bind ?_ (fun _ => ?_))
      | exact ih0 _ _ _
      | exact ih1 _ _ _ _ _
      | exact LeO.none _
      | refine LeO.ite ?_ ?_
      | refine LeO.bind ?_ (fun _ => ?_)
    · intro y0 y1 y2 y3 y4
      unfold gjson_zzLower.j1
      repeat' first
      | (with_reducible exact ih0 _ _ _)
      | (with_reducible exact ih1 _ _ _ _ _)
      | (with_reducible exact LeO.refl _)
      | (with_reducible exact LeO.none _)
      | (with_reducible refine LeO.ite ?_ ?_)
      | (with_reducible refine LeO.bind ?_ (fun _ => ?_))
      | exact ih0 _ _ _
      | exact ih1 _ _ _ _ _
      | exact LeO.none _
      | refine LeO.ite ?_ ?_
      | refine LeO.bind ?_ (fun _ => ?_)
theorem gjson_zzLower.mono : ∀ a0 k, LeO (gjson_zzLower.f k a0) (gjson_zzLower.f (k + 1) a0) := by
  intro a0 k
  obtain ⟨ih0, ih1⟩ := gjson_zzLower.mono_l k
  unfold gjson_zzLower.f
  repeat' first
      | (with_reducible exact ih0 _ _ _)
      | (with_reducible exact ih1 _ _ _ _ _)
      | (with_reducible exact LeO.refl _)
      | (with_reducible exact LeO.none _)
      | (with_reducible refine LeO.ite ?_ ?_)
      | (with_reducible refine LeO.bind ?_ (fun _ => ?_))
      | exact ih0 _ _ _
      | exact ih1 _ _ _ _ _
      | exact LeO.none _
      | refine LeO.ite ?_ ?_
      | refine LeO.bind ?_ (fun _ => ?_)
set_option maxHeartbeats 8000000 in
set_option maxRecDepth 100000 in
theorem gjson_zzLower.calls (k : Nat) (a0 : ByteArray) (r : ByteArray) (w : World) (h : gjson_zzLower.f k a0 = some r) :
    Calls Tryd.prog 47 #[.string a0] w fun e w' => e = .returned (.string r) ∧ Below w.heap.size w w' := by
  have HB := Aside0.mk (Below.refl w.heap.size w)
  have H : (gjson_zzLower.l0 k a0 ([] : List Int) 0) = some r := h
  clear h
  have H' := Aside0.mk H
  clear H
  go_enter Tryd.func47, Tryd.ntmps47
  go_wp2
  go_loopg [3, 4] k (fun kq v3 v4 w' => ∃ (x3_1 : List Int) (x4_1 : Int), v4 = .int .i64 x4_1 ∧ Aside0 (gjson_zzLower.l0 kq a0 x3_1 x4_1 = some r) ∧ Aside0 (kq ≤ k) ∧ Aside0 (Kd.R (Kd.int .u8) 5 w' w.heap.size (fun _ => True) v3 x3_1) ∧ Aside0 (Below w.heap.size w w'))
  case atStart => exact ⟨(([] : List Int)), (0), (by first | rfl | (simp; done) | (simp [*]; done)), H', ⟨Nat.le_refl _⟩, ⟨by first | exact Kd.R_nil _ _ _ _ _ | exact Kd.N_nil _ _ _ _ _ | exact Kd.V_nil _ _ _ _ _ | exact Kd.Q_nil _ _ _ _ _ | exact Kd.S_nil _ _ _ _ _⟩, ⟨by repeat (first | (with_reducible first | exact HB.out | apply below_alloc | apply pw_below_drewN | apply below_drew1) | exact HB.out)⟩⟩
  case round =>
    clear H'
    obtain ⟨x3_1, x4_1, rfl, HA, HK1, HO_3, HB⟩ := hrel
    cases gk with
    | zero => exact absurd HA.out (by simp [gjson_zzLower.l0])
    | succ k1 =>
      have H := HA.out
      clear HA
      simp only [gjson_zzLower.l0] at H
      by_cases c2 : x4_1 < (a0.size : Int)
      · rw [if_pos c2] at H
        have c2b0 : decide (x4_1 < (a0.size : Int)) = true := decide_eq_true c2
        clear c2
        by_cases c3 : 0 ≤ x4_1
        · rw [if_pos c3] at H
          have c3b0 : decide (0 ≤ x4_1) = true := decide_eq_true c3
          clear c3
          have HC5 := Aside0.mk H
          clear H
          have p4 : 0 ≤ (x4_1 : Int) := of_decide_eq_true (by first | (with_reducible assumption) | assumption)
          have q4 : x4_1 < (a0.size : Int) := of_decide_eq_true (by first | (with_reducible assumption) | assumption)
          have hx4 := bt_at a0 x4_1
          replace p4 := eq_true p4
          replace q4 := eq_true q4
          go_upto_region 6 with (fail)
          go_cut [20] (fun v20 wc => ∃ (kq : Nat) (x20_4 : Bool), v20 = .bool x20_4 ∧ Aside0 (gjson_zzLower.j1 kq a0 x3_1 x4_1 (bt a0 x4_1) x20_4 = some r) ∧ Aside0 (kq ≤ k1) ∧ Aside0 (Kd.R (Kd.int .u8) 5 wc w.heap.size (fun _ => True) u3 x3_1) ∧ Aside0 (Below w.heap.size w wc))
          case first =>
            have H := HC5.out
            clear HC5
            by_cases c6 : 65 ≤ (bt a0 x4_1)
            · rw [if_pos c6] at H
              have c6b0 : decide (65 ≤ (bt a0 x4_1)) = true := decide_eq_true c6
              clear c6
              (first | rw [c6b0] | (simp only [i64_w, i32_w]; rw [c6b0]) | skip)
              have H' := Aside0.mk H
              clear H
              go_wp2
              go_meet
              case rel => exact ⟨_, (decide ((bt a0 x4_1) ≤ 90)), (by first | rfl | (simp; done) | (simp [*]; done)), H', ⟨by have := HK1.out; first | omega | exact Nat.le_refl _⟩, ⟨by (with_reducible repeat (first | apply Kd.R_alloc | apply Kd.R_drewN | apply Kd.R_drew)); exact HO_3.out⟩, ⟨by repeat (first | (with_reducible first | exact HB.out | apply below_alloc | apply pw_below_drewN | apply below_drew1) | exact HB.out)⟩⟩
            · rw [if_neg c6] at H
              have c6b0 : decide (65 ≤ (bt a0 x4_1)) = false := decide_eq_false c6
              clear c6
              (first | rw [c6b0] | (simp only [i64_w, i32_w]; rw [c6b0]) | skip)
              have H' := Aside0.mk H
              clear H
              go_wp2
              go_meet
              case rel => exact ⟨_, (false), (by first | rfl | (simp; done) | (simp [*]; done)), H', ⟨by have := HK1.out; first | omega | exact Nat.le_refl _⟩, ⟨by (with_reducible repeat (first | apply Kd.R_alloc | apply Kd.R_drewN | apply Kd.R_drew)); exact HO_3.out⟩, ⟨by repeat (first | (with_reducible first | exact HB.out | apply below_alloc | apply pw_below_drewN | apply below_drew1) | exact HB.out)⟩⟩
          case rest =>
            clear HC5
            try clear c2
            try clear c2b0
            try clear p2
            try clear c3
            try clear c3b0
            try clear c4
            try clear p4
            try clear q4
            try clear hx4
            try clear c6
            try clear c6b0
            try clear p4
            try clear q4
            obtain ⟨kq, x20_4, rfl, HA, HJ4, HO_3, HB⟩ := hcut
            cases kq with
            | zero => exact absurd HA.out (by simp [gjson_zzLower.j1])
            | succ kj4 =>
              have H := HA.out
              clear HA
              simp only [gjson_zzLower.j1] at H
              by_cases c7 : x20_4 = true
              · subst c7
                have H1 : (if (((bt a0 x4_1) + 32) % 256) = 196 then (if (wrap64 (x4_1 + 1)) < (a0.size : Int) then (if 0 ≤ (wrap64 (x4_1 + 1)) then (if (bt a0 (wrap64 (x4_1 + 1))) = 176 then (if x3_1.length < 140737488355328 then (gjson_zzLower.l0 kj4 a0 (x3_1 ++ [105]) (wrap64 ((wrap64 (x4_1 + 1)) + 1))) else (none)) else (if x3_1.length < 140737488355328 then (gjson_zzLower.l0 kj4 a0 (x3_1 ++ [((bt a0 x4_1) + 32) % 256]) (wrap64 (x4_1 + 1))) else (none))) else (none)) else (if x3_1.length < 140737488355328 then (gjson_zzLower.l0 kj4 a0 (x3_1 ++ [((bt a0 x4_1) + 32) % 256]) (wrap64 (x4_1 + 1))) else (none))) else (if x3_1.length < 140737488355328 then (gjson_zzLower.l0 kj4 a0 (x3_1 ++ [((bt a0 x4_1) + 32) % 256]) (wrap64 (x4_1 + 1))) else (none))) = some r := by rw [if_pos rfl] at H; exact H
                clear H
                have H := H1
                clear H1
                by_cases c8 : (((bt a0 x4_1) + 32) % 256) = 196
                · rw [if_pos c8] at H
                  have c8b0 : ((((bt a0 x4_1) + 32) % 256) == 196) = true := beq_iff_eq.mpr c8
                  have c8b1 : ((((bt a0 x4_1) + 32) % 256) != 196) = false := bne_eq_false_iff_eq.mpr c8
                  clear c8
                  by_cases c9 : (wrap64 (x4_1 + 1)) < (a0.size : Int)
                  · rw [if_pos c9] at H
                    have c9b0 : decide ((wrap64 (x4_1 + 1)) < (a0.size : Int)) = true := decide_eq_true c9
                    clear c9
                    obtain ⟨ji10, hji10⟩ : ∃ j_ : Int, (wrap64 (x4_1 + 1)) = j_ := ⟨_, rfl⟩
                    replace H : (if 0 ≤ (ji10) then (if (bt a0 (ji10)) = 176 then (if x3_1.length < 140737488355328 then (gjson_zzLower.l0 kj4 a0 (x3_1 ++ [105]) (wrap64 ((ji10) + 1))) else (none)) else (if x3_1.length < 140737488355328 then (gjson_zzLower.l0 kj4 a0 (x3_1 ++ [((bt a0 x4_1) + 32) % 256]) ji10) else (none))) else (none)) = some r := by first | (rw [hji10] at H; exact H) | (simp only [hji10] at H ⊢; exact H)
                    (try rw [hji10] at c9b0)
                    have hji10w : (IntKind.i64.wrap (x4_1 + 1)) = ji10 := (i64_w _).trans hji10
                    by_cases c11 : 0 ≤ (ji10)
                    · rw [if_pos c11] at H
                      have c11b0 : decide (0 ≤ (ji10)) = true := decide_eq_true c11
                      clear c11
                      by_cases c13 : (bt a0 (ji10)) = 176
                      · rw [if_pos c13] at H
                        have c13b0 : ((bt a0 (ji10)) == 176) = true := beq_iff_eq.mpr c13
                        have c13b1 : ((bt a0 (ji10)) != 176) = false := bne_eq_false_iff_eq.mpr c13
                        clear c13
                        by_cases c14 : x3_1.length < 140737488355328
                        · rw [if_pos c14] at H
                          have LMc14 := Aside0.mk c14
                          clear c14
                          obtain ⟨y127, hy127⟩ : ∃ y_ : List Int, y_ = (x3_1 ++ [105]) := ⟨_, rfl⟩
                          replace H : (gjson_zzLower.l0 kj4 a0 y127 (wrap64 ((ji10) + 1))) = some r := by first | (rw [hy127]; with_reducible exact H) | (have H2_ := (Option.bind_some _ _).symm.trans H; rw [hy127]; with_reducible exact H2_) | (have H2_ := (Option.bind_some _ _).symm.trans H; with_reducible exact H2_) | with_reducible exact H | (rw [hy127]; exact H) | exact H
                          have Ny127 := Aside0.mk hy127
                          clear hy127
                          have H' := Aside0.mk H
                          clear H
                          have p12 : 0 ≤ ((ji10) : Int) := of_decide_eq_true (by first | (with_reducible assumption) | assumption)
                          have q12 : (ji10) < (a0.size : Int) := of_decide_eq_true (by first | (with_reducible assumption) | assumption)
                          have hx12 := bt_at a0 (ji10)
                          replace p12 := eq_true p12
                          replace q12 := eq_true q12
                          go_wp2_with (first | ((with_reducible refine gate_builtin (b := .append) (xs := #[.tmp 41, .tmp 43]) rfl ?_); (try (refine gate_guard (by rfl) ?_; dsimp only)); at_builtin; refine Kd.R_append (Kd.int .u8) (w0 := w) w.heap.size rfl (.tmp 41) (.tmp 43) 64 5 (.int .u8 0) 1 rfl Tryd.underlying64 info5 rfl (by decide) (by omega) u3 x3_1 105 [.int .u8 105] (fun _ => True) (fun _ => False) rfl rfl ?aP (fun _ hk => hk.elim) ?aF ?aO ?aB ?aS ?aL ?_; (case aP => exact rfl); (case aB => exact (by repeat (first | (with_reducible first | exact HB.out | apply below_alloc | apply pw_below_drewN | apply below_drew1) | exact HB.out))); (case aF => exact (fun _ _ => trivial)); (case aO => exact (by (with_reducible repeat (first | apply Kd.R_alloc | apply Kd.R_drewN | apply Kd.R_drew)); exact HO_3.out)); (case aS => exact (below_size (by repeat (first | (with_reducible first | exact HB.out | apply below_alloc | apply pw_below_drewN | apply below_drew1) | exact HB.out)))); (case aL => have := LMc14.out; omega); intro v128 w15 ho hb hg hat; rw [← Ny127.out] at ho; have n0_ := Aside0.mk (hb); have n1_ := Aside0.mk (ho); clear HB; clear HO_3; have HB := n0_; have HO129 := n1_; clear n0_ n1_; clear ho hb hg hat))
                          go_roundg kj4
                          case measure => have := HK1.out; have := HJ4.out; omega
                          case rel => exact ⟨(y127), (wrap64 ((ji10) + 1)), (by first | rfl | (simp; done) | (simp only [← hji10] <;> (first | rfl | simp)) | (simp [*]; done)), H', ⟨by have := HK1.out; have := HJ4.out; omega⟩, ⟨by (with_reducible repeat (first | apply Kd.R_alloc | apply Kd.R_drewN | apply Kd.R_drew)); exact HO129.out⟩, ⟨by repeat (first | (with_reducible first | exact HB.out | apply below_alloc | apply pw_below_drewN | apply below_drew1) | exact HB.out)⟩⟩
                        · rw [if_neg c14] at H
                          exact absurd H (by simp)
                      · rw [if_neg c13] at H
                        have c13b0 : ((bt a0 (ji10)) == 176) = false := beq_eq_false_iff_ne.mpr c13
                        have c13b1 : ((bt a0 (ji10)) != 176) = true := bne_iff_ne.mpr c13
                        by_cases c16 : x3_1.length < 140737488355328
                        · rw [if_pos c16] at H
                          have LMc16 := Aside0.mk c16
                          clear c16
                          obtain ⟨y130, hy130⟩ : ∃ y_ : List Int, y_ = (x3_1 ++ [((bt a0 x4_1) + 32) % 256]) := ⟨_, rfl⟩
                          replace H : (gjson_zzLower.l0 kj4 a0 y130 ji10) = some r := by first | (rw [hy130]; with_reducible exact H) | (have H2_ := (Option.bind_some _ _).symm.trans H; rw [hy130]; with_reducible exact H2_) | (have H2_ := (Option.bind_some _ _).symm.trans H; with_reducible exact H2_) | with_reducible exact H | (rw [hy130]; exact H) | exact H
                          have Ny130 := Aside0.mk hy130
                          clear hy130
                          have H' := Aside0.mk H
                          clear H
                          have p12 : 0 ≤ ((ji10) : Int) := of_decide_eq_true (by first | (with_reducible assumption) | assumption)
                          have q12 : (ji10) < (a0.size : Int) := of_decide_eq_true (by first | (with_reducible assumption) | assumption)
                          have hx12 := bt_at a0 (ji10)
                          replace p12 := eq_true p12
                          replace q12 := eq_true q12
                          go_wp2_with (first | ((with_reducible refine gate_builtin (b := .append) (xs := #[.tmp 41, .tmp 43]) rfl ?_); (try (refine gate_guard (by rfl) ?_; dsimp only)); at_builtin; refine Kd.R_append (Kd.int .u8) (w0 := w) w.heap.size rfl (.tmp 41) (.tmp 43) 64 5 (.int .u8 0) 1 rfl Tryd.underlying64 info5 rfl (by decide) (by omega) u3 x3_1 (((bt a0 x4_1) + 32) % 256) [.int .u8 (((bt a0 x4_1) + 32) % 256)] (fun _ => True) (fun _ => False) rfl rfl ?aP (fun _ hk => hk.elim) ?aF ?aO ?aB ?aS ?aL ?_; (case aP => exact rfl); (case aB => exact (by repeat (first | (with_reducible first | exact HB.out | apply below_alloc | apply pw_below_drewN | apply below_drew1) | exact HB.out))); (case aF => exact (fun _ _ => trivial)); (case aO => exact (by (with_reducible repeat (first | apply Kd.R_alloc | apply Kd.R_drewN | apply Kd.R_drew)); exact HO_3.out)); (case aS => exact (below_size (by repeat (first | (with_reducible first | exact HB.out | apply below_alloc | apply pw_below_drewN | apply below_drew1) | exact HB.out)))); (case aL => have := LMc16.out; omega); intro v131 w17 ho hb hg hat; rw [← Ny130.out] at ho; have n0_ := Aside0.mk (hb); have n1_ := Aside0.mk (ho); clear HB; clear HO_3; have HB := n0_; have HO132 := n1_; clear n0_ n1_; clear ho hb hg hat))
                          go_roundg kj4
                          case measure => have := HK1.out; have := HJ4.out; omega
                          case rel => exact ⟨(y130), (ji10), (by first | rfl | (simp; done) | (simp only [← hji10] <;> (first | rfl | simp)) | (simp [*]; done)), H', ⟨by have := HK1.out; have := HJ4.out; omega⟩, ⟨by (with_reducible repeat (first | apply Kd.R_alloc | apply Kd.R_drewN | apply Kd.R_drew)); exact HO132.out⟩, ⟨by repeat (first | (with_reducible first | exact HB.out | apply below_alloc | apply pw_below_drewN | apply below_drew1) | exact HB.out)⟩⟩
                        · rw [if_neg c16] at H
                          exact absurd H (by simp)
                    · rw [if_neg c11] at H
                      exact absurd H (by simp)
                  · rw [if_neg c9] at H
                    have c9b0 : decide ((wrap64 (x4_1 + 1)) < (a0.size : Int)) = false := decide_eq_false c9
                    clear c9
                    by_cases c18 : x3_1.length < 140737488355328
                    · rw [if_pos c18] at H
                      have LMc18 := Aside0.mk c18
                      clear c18
                      obtain ⟨y133, hy133⟩ : ∃ y_ : List Int, y_ = (x3_1 ++ [((bt a0 x4_1) + 32) % 256]) := ⟨_, rfl⟩
                      replace H : (gjson_zzLower.l0 kj4 a0 y133 (wrap64 (x4_1 + 1))) = some r := by first | (rw [hy133]; with_reducible exact H) | (have H2_ := (Option.bind_some _ _).symm.trans H; rw [hy133]; with_reducible exact H2_) | (have H2_ := (Option.bind_some _ _).symm.trans H; with_reducible exact H2_) | with_reducible exact H | (rw [hy133]; exact H) | exact H
                      have Ny133 := Aside0.mk hy133
                      clear hy133
                      have H' := Aside0.mk H
                      clear H
                      go_wp2_with (first | ((with_reducible refine gate_builtin (b := .append) (xs := #[.tmp 41, .tmp 43]) rfl ?_); (try (refine gate_guard (by rfl) ?_; dsimp only)); at_builtin; refine Kd.R_append (Kd.int .u8) (w0 := w) w.heap.size rfl (.tmp 41) (.tmp 43) 64 5 (.int .u8 0) 1 rfl Tryd.underlying64 info5 rfl (by decide) (by omega) u3 x3_1 (((bt a0 x4_1) + 32) % 256) [.int .u8 (((bt a0 x4_1) + 32) % 256)] (fun _ => True) (fun _ => False) rfl rfl ?aP (fun _ hk => hk.elim) ?aF ?aO ?aB ?aS ?aL ?_; (case aP => exact rfl); (case aB => exact (by repeat (first | (with_reducible first | exact HB.out | apply below_alloc | apply pw_below_drewN | apply below_drew1) | exact HB.out))); (case aF => exact (fun _ _ => trivial)); (case aO => exact (by (with_reducible repeat (first | apply Kd.R_alloc | apply Kd.R_drewN | apply Kd.R_drew)); exact HO_3.out)); (case aS => exact (below_size (by repeat (first | (with_reducible first | exact HB.out | apply below_alloc | apply pw_below_drewN | apply below_drew1) | exact HB.out)))); (case aL => have := LMc18.out; omega); intro v134 w19 ho hb hg hat; rw [← Ny133.out] at ho; have n0_ := Aside0.mk (hb); have n1_ := Aside0.mk (ho); clear HB; clear HO_3; have HB := n0_; have HO135 := n1_; clear n0_ n1_; clear ho hb hg hat))
                      go_roundg kj4
                      case measure => have := HK1.out; have := HJ4.out; omega
                      case rel => exact ⟨(y133), (wrap64 (x4_1 + 1)), (by first | rfl | (simp; done) | (simp [*]; done)), H', ⟨by have := HK1.out; have := HJ4.out; omega⟩, ⟨by (with_reducible repeat (first | apply Kd.R_alloc | apply Kd.R_drewN | apply Kd.R_drew)); exact HO135.out⟩, ⟨by repeat (first | (with_reducible first | exact HB.out | apply below_alloc | apply pw_below_drewN | apply below_drew1) | exact HB.out)⟩⟩
                    · rw [if_neg c18] at H
                      exact absurd H (by simp)
                · rw [if_neg c8] at H
                  have c8b0 : ((((bt a0 x4_1) + 32) % 256) == 196) = false := beq_eq_false_iff_ne.mpr c8
                  have c8b1 : ((((bt a0 x4_1) + 32) % 256) != 196) = true := bne_iff_ne.mpr c8
                  by_cases c20 : x3_1.length < 140737488355328
                  · rw [if_pos c20] at H
                    have LMc20 := Aside0.mk c20
                    clear c20
                    obtain ⟨y136, hy136⟩ : ∃ y_ : List Int, y_ = (x3_1 ++ [((bt a0 x4_1) + 32) % 256]) := ⟨_, rfl⟩
                    replace H : (gjson_zzLower.l0 kj4 a0 y136 (wrap64 (x4_1 + 1))) = some r := by first | (rw [hy136]; with_reducible exact H) | (have H2_ := (Option.bind_some _ _).symm.trans H; rw [hy136]; with_reducible exact H2_) | (have H2_ := (Option.bind_some _ _).symm.trans H; with_reducible exact H2_) | with_reducible exact H | (rw [hy136]; exact H) | exact H
                    have Ny136 := Aside0.mk hy136
                    clear hy136
                    have H' := Aside0.mk H
                    clear H
                    go_wp2_with (first | ((with_reducible refine gate_builtin (b := .append) (xs := #[.tmp 41, .tmp 43]) rfl ?_); (try (refine gate_guard (by rfl) ?_; dsimp only)); at_builtin; refine Kd.R_append (Kd.int .u8) (w0 := w) w.heap.size rfl (.tmp 41) (.tmp 43) 64 5 (.int .u8 0) 1 rfl Tryd.underlying64 info5 rfl (by decide) (by omega) u3 x3_1 (((bt a0 x4_1) + 32) % 256) [.int .u8 (((bt a0 x4_1) + 32) % 256)] (fun _ => True) (fun _ => False) rfl rfl ?aP (fun _ hk => hk.elim) ?aF ?aO ?aB ?aS ?aL ?_; (case aP => exact rfl); (case aB => exact (by repeat (first | (with_reducible first | exact HB.out | apply below_alloc | apply pw_below_drewN | apply below_drew1) | exact HB.out))); (case aF => exact (fun _ _ => trivial)); (case aO => exact (by (with_reducible repeat (first | apply Kd.R_alloc | apply Kd.R_drewN | apply Kd.R_drew)); exact HO_3.out)); (case aS => exact (below_size (by repeat (first | (with_reducible first | exact HB.out | apply below_alloc | apply pw_below_drewN | apply below_drew1) | exact HB.out)))); (case aL => have := LMc20.out; omega); intro v137 w21 ho hb hg hat; rw [← Ny136.out] at ho; have n0_ := Aside0.mk (hb); have n1_ := Aside0.mk (ho); clear HB; clear HO_3; have HB := n0_; have HO138 := n1_; clear n0_ n1_; clear ho hb hg hat))
                    go_roundg kj4
                    case measure => have := HK1.out; have := HJ4.out; omega
                    case rel => exact ⟨(y136), (wrap64 (x4_1 + 1)), (by first | rfl | (simp; done) | (simp [*]; done)), H', ⟨by have := HK1.out; have := HJ4.out; omega⟩, ⟨by (with_reducible repeat (first | apply Kd.R_alloc | apply Kd.R_drewN | apply Kd.R_drew)); exact HO138.out⟩, ⟨by repeat (first | (with_reducible first | exact HB.out | apply below_alloc | apply pw_below_drewN | apply below_drew1) | exact HB.out)⟩⟩
                  · rw [if_neg c20] at H
                    exact absurd H (by simp)
              · replace c7 := Bool.eq_false_iff.mpr c7
                subst c7
                have H1 : (if (bt a0 x4_1) = 196 then (if (wrap64 (x4_1 + 1)) < (a0.size : Int) then (if 0 ≤ (wrap64 (x4_1 + 1)) then (if (bt a0 (wrap64 (x4_1 + 1))) = 176 then (if x3_1.length < 140737488355328 then (gjson_zzLower.l0 kj4 a0 (x3_1 ++ [105]) (wrap64 ((wrap64 (x4_1 + 1)) + 1))) else (none)) else (if x3_1.length < 140737488355328 then (gjson_zzLower.l0 kj4 a0 (x3_1 ++ [(bt a0 x4_1)]) (wrap64 (x4_1 + 1))) else (none))) else (none)) else (if x3_1.length < 140737488355328 then (gjson_zzLower.l0 kj4 a0 (x3_1 ++ [(bt a0 x4_1)]) (wrap64 (x4_1 + 1))) else (none))) else (if x3_1.length < 140737488355328 then (gjson_zzLower.l0 kj4 a0 (x3_1 ++ [(bt a0 x4_1)]) (wrap64 (x4_1 + 1))) else (none))) = some r := by rw [if_neg (show ¬ (false = true) by decide)] at H; exact H
                clear H
                have H := H1
                clear H1
                by_cases c22 : (bt a0 x4_1) = 196
                · rw [if_pos c22] at H
                  have c22b0 : ((bt a0 x4_1) == 196) = true := beq_iff_eq.mpr c22
                  have c22b1 : ((bt a0 x4_1) != 196) = false := bne_eq_false_iff_eq.mpr c22
                  clear c22
                  by_cases c23 : (wrap64 (x4_1 + 1)) < (a0.size : Int)
                  · rw [if_pos c23] at H
                    have c23b0 : decide ((wrap64 (x4_1 + 1)) < (a0.size : Int)) = true := decide_eq_true c23
                    clear c23
                    obtain ⟨ji24, hji24⟩ : ∃ j_ : Int, (wrap64 (x4_1 + 1)) = j_ := ⟨_, rfl⟩
                    replace H : (if 0 ≤ (ji24) then (if (bt a0 (ji24)) = 176 then (if x3_1.length < 140737488355328 then (gjson_zzLower.l0 kj4 a0 (x3_1 ++ [105]) (wrap64 ((ji24) + 1))) else (none)) else (if x3_1.length < 140737488355328 then (gjson_zzLower.l0 kj4 a0 (x3_1 ++ [(bt a0 x4_1)]) ji24) else (none))) else (none)) = some r := by first | (rw [hji24] at H; exact H) | (simp only [hji24] at H ⊢; exact H)
                    (try rw [hji24] at c23b0)
                    have hji24w : (IntKind.i64.wrap (x4_1 + 1)) = ji24 := (i64_w _).trans hji24
                    by_cases c25 : 0 ≤ (ji24)
                    · rw [if_pos c25] at H
                      have c25b0 : decide (0 ≤ (ji24)) = true := decide_eq_true c25
                      clear c25
                      by_cases c27 : (bt a0 (ji24)) = 176
                      · rw [if_pos c27] at H
                        have c27b0 : ((bt a0 (ji24)) == 176) = true := beq_iff_eq.mpr c27
                        have c27b1 : ((bt a0 (ji24)) != 176) = false := bne_eq_false_iff_eq.mpr c27
                        clear c27
                        by_cases c28 : x3_1.length < 140737488355328
                        · rw [if_pos c28] at H
                          have LMc28 := Aside0.mk c28
                          clear c28
                          obtain ⟨y139, hy139⟩ : ∃ y_ : List Int, y_ = (x3_1 ++ [105]) := ⟨_, rfl⟩
                          replace H : (gjson_zzLower.l0 kj4 a0 y139 (wrap64 ((ji24) + 1))) = some r := by first | (rw [hy139]; with_reducible exact H) | (have H2_ := (Option.bind_some _ _).symm.trans H; rw [hy139]; with_reducible exact H2_) | (have H2_ := (Option.bind_some _ _).symm.trans H; with_reducible exact H2_) | with_reducible exact H | (rw [hy139]; exact H) | exact H
                          have Ny139 := Aside0.mk hy139
                          clear hy139
                          have H' := Aside0.mk H
                          clear H
                          have p26 : 0 ≤ ((ji24) : Int) := of_decide_eq_true (by first | (with_reducible assumption) | assumption)
                          have q26 : (ji24) < (a0.size : Int) := of_decide_eq_true (by first | (with_reducible assumption) | assumption)
                          have hx26 := bt_at a0 (ji24)
                          replace p26 := eq_true p26
                          replace q26 := eq_true q26
                          go_wp2_with (first | ((with_reducible refine gate_builtin (b := .append) (xs := #[.tmp 41, .tmp 43]) rfl ?_); (try (refine gate_guard (by rfl) ?_; dsimp only)); at_builtin; refine Kd.R_append (Kd.int .u8) (w0 := w) w.heap.size rfl (.tmp 41) (.tmp 43) 64 5 (.int .u8 0) 1 rfl Tryd.underlying64 info5 rfl (by decide) (by omega) u3 x3_1 105 [.int .u8 105] (fun _ => True) (fun _ => False) rfl rfl ?aP (fun _ hk => hk.elim) ?aF ?aO ?aB ?aS ?aL ?_; (case aP => exact rfl); (case aB => exact (by repeat (first | (with_reducible first | exact HB.out | apply below_alloc | apply pw_below_drewN | apply below_drew1) | exact HB.out))); (case aF => exact (fun _ _ => trivial)); (case aO => exact (by (with_reducible repeat (first | apply Kd.R_alloc | apply Kd.R_drewN | apply Kd.R_drew)); exact HO_3.out)); (case aS => exact (below_size (by repeat (first | (with_reducible first | exact HB.out | apply below_alloc | apply pw_below_drewN | apply below_drew1) | exact HB.out)))); (case aL => have := LMc28.out; omega); intro v140 w29 ho hb hg hat; rw [← Ny139.out] at ho; have n0_ := Aside0.mk (hb); have n1_ := Aside0.mk (ho); clear HB; clear HO_3; have HB := n0_; have HO141 := n1_; clear n0_ n1_; clear ho hb hg hat))
                          go_roundg kj4
                          case measure => have := HK1.out; have := HJ4.out; omega
                          case rel => exact ⟨(y139), (wrap64 ((ji24) + 1)), (by first | rfl | (simp; done) | (simp only [← hji24] <;> (first | rfl | simp)) | (simp [*]; done)), H', ⟨by have := HK1.out; have := HJ4.out; omega⟩, ⟨by (with_reducible repeat (first | apply Kd.R_alloc | apply Kd.R_drewN | apply Kd.R_drew)); exact HO141.out⟩, ⟨by repeat (first | (with_reducible first | exact HB.out | apply below_alloc | apply pw_below_drewN | apply below_drew1) | exact HB.out)⟩⟩
                        · rw [if_neg c28] at H
                          exact absurd H (by simp)
                      · rw [if_neg c27] at H
                        have c27b0 : ((bt a0 (ji24)) == 176) = false := beq_eq_false_iff_ne.mpr c27
                        have c27b1 : ((bt a0 (ji24)) != 176) = true := bne_iff_ne.mpr c27
                        by_cases c30 : x3_1.length < 140737488355328
                        · rw [if_pos c30] at H
                          have LMc30 := Aside0.mk c30
                          clear c30
                          obtain ⟨y142, hy142⟩ : ∃ y_ : List Int, y_ = (x3_1 ++ [(bt a0 x4_1)]) := ⟨_, rfl⟩
                          replace H : (gjson_zzLower.l0 kj4 a0 y142 ji24) = some r := by first | (rw [hy142]; with_reducible exact H) | (have H2_ := (Option.bind_some _ _).symm.trans H; rw [hy142]; with_reducible exact H2_) | (have H2_ := (Option.bind_some _ _).symm.trans H; with_reducible exact H2_) | with_reducible exact H | (rw [hy142]; exact H) | exact H
                          have Ny142 := Aside0.mk hy142
                          clear hy142
                          have H' := Aside0.mk H
                          clear H
                          have p26 : 0 ≤ ((ji24) : Int) := of_decide_eq_true (by first | (with_reducible assumption) | assumption)
                          have q26 : (ji24) < (a0.size : Int) := of_decide_eq_true (by first | (with_reducible assumption) | assumption)
                          have hx26 := bt_at a0 (ji24)
                          replace p26 := eq_true p26
                          replace q26 := eq_true q26
                          go_wp2_with (first | ((with_reducible refine gate_builtin (b := .append) (xs := #[.tmp 41, .tmp 43]) rfl ?_); (try (refine gate_guard (by rfl) ?_; dsimp only)); at_builtin; refine Kd.R_append (Kd.int .u8) (w0 := w) w.heap.size rfl (.tmp 41) (.tmp 43) 64 5 (.int .u8 0) 1 rfl Tryd.underlying64 info5 rfl (by decide) (by omega) u3 x3_1 (bt a0 x4_1) [.int .u8 (bt a0 x4_1)] (fun _ => True) (fun _ => False) rfl rfl ?aP (fun _ hk => hk.elim) ?aF ?aO ?aB ?aS ?aL ?_; (case aP => exact rfl); (case aB => exact (by repeat (first | (with_reducible first | exact HB.out | apply below_alloc | apply pw_below_drewN | apply below_drew1) | exact HB.out))); (case aF => exact (fun _ _ => trivial)); (case aO => exact (by (with_reducible repeat (first | apply Kd.R_alloc | apply Kd.R_drewN | apply Kd.R_drew)); exact HO_3.out)); (case aS => exact (below_size (by repeat (first | (with_reducible first | exact HB.out | apply below_alloc | apply pw_below_drewN | apply below_drew1) | exact HB.out)))); (case aL => have := LMc30.out; omega); intro v143 w31 ho hb hg hat; rw [← Ny142.out] at ho; have n0_ := Aside0.mk (hb); have n1_ := Aside0.mk (ho); clear HB; clear HO_3; have HB := n0_; have HO144 := n1_; clear n0_ n1_; clear ho hb hg hat))
                          go_roundg kj4
                          case measure => have := HK1.out; have := HJ4.out; omega
                          case rel => exact ⟨(y142), (ji24), (by first | rfl | (simp; done) | (simp only [← hji24] <;> (first | rfl | simp)) | (simp [*]; done)), H', ⟨by have := HK1.out; have := HJ4.out; omega⟩, ⟨by (with_reducible repeat (first | apply Kd.R_alloc | apply Kd.R_drewN | apply Kd.R_drew)); exact HO144.out⟩, ⟨by repeat (first | (with_reducible first | exact HB.out | apply below_alloc | apply pw_below_drewN | apply below_drew1) | exact HB.out)⟩⟩
                        · rw [if_neg c30] at H
                          exact absurd H (by simp)
                    · rw [if_neg c25] at H
                      exact absurd H (by simp)
                  · rw [if_neg c23] at H
                    have c23b0 : decide ((wrap64 (x4_1 + 1)) < (a0.size : Int)) = false := decide_eq_false c23
                    clear c23
                    by_cases c32 : x3_1.length < 140737488355328
                    · rw [if_pos c32] at H
                      have LMc32 := Aside0.mk c32
                      clear c32
                      obtain ⟨y145, hy145⟩ : ∃ y_ : List Int, y_ = (x3_1 ++ [(bt a0 x4_1)]) := ⟨_, rfl⟩
                      replace H : (gjson_zzLower.l0 kj4 a0 y145 (wrap64 (x4_1 + 1))) = some r := by first | (rw [hy145]; with_reducible exact H) | (have H2_ := (Option.bind_some _ _).symm.trans H; rw [hy145]; with_reducible exact H2_) | (have H2_ := (Option.bind_some _ _).symm.trans H; with_reducible exact H2_) | with_reducible exact H | (rw [hy145]; exact H) | exact H
                      have Ny145 := Aside0.mk hy145
                      clear hy145
                      have H' := Aside0.mk H
                      clear H
                      go_wp2_with (first | ((with_reducible refine gate_builtin (b := .append) (xs := #[.tmp 41, .tmp 43]) rfl ?_); (try (refine gate_guard (by rfl) ?_; dsimp only)); at_builtin; refine Kd.R_append (Kd.int .u8) (w0 := w) w.heap.size rfl (.tmp 41) (.tmp 43) 64 5 (.int .u8 0) 1 rfl Tryd.underlying64 info5 rfl (by decide) (by omega) u3 x3_1 (bt a0 x4_1) [.int .u8 (bt a0 x4_1)] (fun _ => True) (fun _ => False) rfl rfl ?aP (fun _ hk => hk.elim) ?aF ?aO ?aB ?aS ?aL ?_; (case aP => exact rfl); (case aB => exact (by repeat (first | (with_reducible first | exact HB.out | apply below_alloc | apply pw_below_drewN | apply below_drew1) | exact HB.out))); (case aF => exact (fun _ _ => trivial)); (case aO => exact (by (with_reducible repeat (first | apply Kd.R_alloc | apply Kd.R_drewN | apply Kd.R_drew)); exact HO_3.out)); (case aS => exact (below_size (by repeat (first | (with_reducible first | exact HB.out | apply below_alloc | apply pw_below_drewN | apply below_drew1) | exact HB.out)))); (case aL => have := LMc32.out; omega); intro v146 w33 ho hb hg hat; rw [← Ny145.out] at ho; have n0_ := Aside0.mk (hb); have n1_ := Aside0.mk (ho); clear HB; clear HO_3; have HB := n0_; have HO147 := n1_; clear n0_ n1_; clear ho hb hg hat))
                      go_roundg kj4
                      case measure => have := HK1.out; have := HJ4.out; omega
                      case rel => exact ⟨(y145), (wrap64 (x4_1 + 1)), (by first | rfl | (simp; done) | (simp [*]; done)), H', ⟨by have := HK1.out; have := HJ4.out; omega⟩, ⟨by (with_reducible repeat (first | apply Kd.R_alloc | apply Kd.R_drewN | apply Kd.R_drew)); exact HO147.out⟩, ⟨by repeat (first | (with_reducible first | exact HB.out | apply below_alloc | apply pw_below_drewN | apply below_drew1) | exact HB.out)⟩⟩
                    · rw [if_neg c32] at H
                      exact absurd H (by simp)
                · rw [if_neg c22] at H
                  have c22b0 : ((bt a0 x4_1) == 196) = false := beq_eq_false_iff_ne.mpr c22
                  have c22b1 : ((bt a0 x4_1) != 196) = true := bne_iff_ne.mpr c22
                  by_cases c34 : x3_1.length < 140737488355328
                  · rw [if_pos c34] at H
                    have LMc34 := Aside0.mk c34
                    clear c34
                    obtain ⟨y148, hy148⟩ : ∃ y_ : List Int, y_ = (x3_1 ++ [(bt a0 x4_1)]) := ⟨_, rfl⟩
                    replace H : (gjson_zzLower.l0 kj4 a0 y148 (wrap64 (x4_1 + 1))) = some r := by first | (rw [hy148]; with_reducible exact H) | (have H2_ := (Option.bind_some _ _).symm.trans H; rw [hy148]; with_reducible exact H2_) | (have H2_ := (Option.bind_some _ _).symm.trans H; with_reducible exact H2_) | with_reducible exact H | (rw [hy148]; exact H) | exact H
                    have Ny148 := Aside0.mk hy148
                    clear hy148
                    have H' := Aside0.mk H
                    clear H
                    go_wp2_with (first | ((with_reducible refine gate_builtin (b := .append) (xs := #[.tmp 41, .tmp 43]) rfl ?_); (try (refine gate_guard (by rfl) ?_; dsimp only)); at_builtin; refine Kd.R_append (Kd.int .u8) (w0 := w) w.heap.size rfl (.tmp 41) (.tmp 43) 64 5 (.int .u8 0) 1 rfl Tryd.underlying64 info5 rfl (by decide) (by omega) u3 x3_1 (bt a0 x4_1) [.int .u8 (bt a0 x4_1)] (fun _ => True) (fun _ => False) rfl rfl ?aP (fun _ hk => hk.elim) ?aF ?aO ?aB ?aS ?aL ?_; (case aP => exact rfl); (case aB => exact (by repeat (first | (with_reducible first | exact HB.out | apply below_alloc | apply pw_below_drewN | apply below_drew1) | exact HB.out))); (case aF => exact (fun _ _ => trivial)); (case aO => exact (by (with_reducible repeat (first | apply Kd.R_alloc | apply Kd.R_drewN | apply Kd.R_drew)); exact HO_3.out)); (case aS => exact (below_size (by repeat (first | (with_reducible first | exact HB.out | apply below_alloc | apply pw_below_drewN | apply below_drew1) | exact HB.out)))); (case aL => have := LMc34.out; omega); intro v149 w35 ho hb hg hat; rw [← Ny148.out] at ho; have n0_ := Aside0.mk (hb); have n1_ := Aside0.mk (ho); clear HB; clear HO_3; have HB := n0_; have HO150 := n1_; clear n0_ n1_; clear ho hb hg hat))
                    go_roundg kj4
                    case measure => have := HK1.out; have := HJ4.out; omega
                    case rel => exact ⟨(y148), (wrap64 (x4_1 + 1)), (by first | rfl | (simp; done) | (simp [*]; done)), H', ⟨by have := HK1.out; have := HJ4.out; omega⟩, ⟨by (with_reducible repeat (first | apply Kd.R_alloc | apply Kd.R_drewN | apply Kd.R_drew)); exact HO150.out⟩, ⟨by repeat (first | (with_reducible first | exact HB.out | apply below_alloc | apply pw_below_drewN | apply below_drew1) | exact HB.out)⟩⟩
                  · rw [if_neg c34] at H
                    exact absurd H (by simp)
        · rw [if_neg c3] at H
          exact absurd H (by simp)
      · rw [if_neg c2] at H
        have c2b0 : decide (x4_1 < (a0.size : Int)) = false := decide_eq_false c2
        clear c2
        obtain rfl := Option.some.inj H
        have hcv36 := own_string (P := Tryd.prog) Tryd.underlying64 Tryd.underlying5 Tryd.underlying9 (Kd.own_of_R HO_3.out)
        go_wp2
        go_ret
        exact ⟨by first | rfl | (simp [errW_none, errW_some] <;> rfl) | (simp [*, errW_none, errW_some] <;> rfl), by repeat (first | (with_reducible first | exact HB.out | apply below_alloc | apply pw_below_drewN | apply below_drew1) | exact HB.out)⟩

-- NOT PRINTED: function 68 (gjson_trueish)

-- NOT PRINTED: function 42 (gjson_DoorTrueish)

-- NOT PRINTED: function 22 (impl_GjTrueish)

-- NOT PRINTED: function 69 (gjson_falseish)

-- NOT PRINTED: function 43 (gjson_DoorFalseish)

-- NOT PRINTED: function 23 (impl_GjFalseish)

-- NOT PRINTED: function 70 (gjson_nullish)

-- NOT PRINTED: function 44 (gjson_DoorNullish)

-- NOT PRINTED: function 24 (impl_GjNullish)


end Go.Proofs.YtcalcdjpinadkaaDoor.PFnGjMatchesTilde
