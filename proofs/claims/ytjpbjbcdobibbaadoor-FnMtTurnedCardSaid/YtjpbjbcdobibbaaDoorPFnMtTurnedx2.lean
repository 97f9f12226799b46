-- PRINTED BY print.sh 35421559b90ae4d0a3588c463048766b98c2df88dd9212a6774a882060cdf62d: not written by this session
import Derived.Test.YtjpbjbcdobibbaaDoorPFnMtTurnedx0
import Derived.Test.YtjpbjbcdobibbaaDoorPFnMtTurnedx1
namespace Go.Proofs.YtjpbjbcdobibbaaDoor.PFnMtTurned
open Go.RowKit Go.Proofs.YtjpbjbcdobibbaaDoorW.PrintWords Go.Proofs.YtjpbjbcdobibbaaDoorW.PrintLast Go.Proofs.YtjpbjbcdobibbaaDoorW.PrintMore
attribute [local go_sem] max2_int min2_int max_two min_two max_three min_three max_four min_four   -- for this text's walks alone
set_option linter.unusedVariables false
set_option linter.unusedSimpArgs false

/-! ### spec_Globs: function 17 -/
def spec_Globs.l0 : Nat → ByteArray → List (S44) → Int → Option ((List (S44)) × Bool)
  | 0, _, _, _ => none
  | k + 1, x0, x4, x5 => if x5 < (x0.size : Int) then ((spec_Character.f k x0 x5).bind fun bt110 => (if bt110.2.2 = true then (if bt110.1 = 42 then (if x4.length < 8796093022208 then (spec_Globs.l0 k x0 (x4 ++ [(⟨true, false, 0⟩ : S44)]) (wrap64 (x5 + bt110.2.1))) else (none)) else (if bt110.1 = 63 then (if x4.length < 8796093022208 then (spec_Globs.l0 k x0 (x4 ++ [(⟨false, true, 0⟩ : S44)]) (wrap64 (x5 + bt110.2.1))) else (none)) else (if bt110.1 = 92 then (if (wrap64 (x5 + bt110.2.1)) = (x0.size : Int) then (some (([] : List (S44)), false)) else ((spec_Character.f k x0 (wrap64 (x5 + bt110.2.1))).bind fun bt119 => (if bt119.2.2 = true then (if x4.length < 8796093022208 then (spec_Globs.l0 k x0 (x4 ++ [(⟨false, false, bt119.1⟩ : S44)]) (wrap64 ((wrap64 (x5 + bt110.2.1)) + bt119.2.1))) else (none)) else (some (([] : List (S44)), false))))) else (if x4.length < 8796093022208 then (spec_Globs.l0 k x0 (x4 ++ [(⟨false, false, bt110.1⟩ : S44)]) (wrap64 (x5 + bt110.2.1))) else (none))))) else (some (([] : List (S44)), false)))) else (some (x4, true))
def spec_Globs.f (k : Nat) (a0 : ByteArray) : Option ((List (S44)) × Bool) := spec_Globs.l0 k a0 ([] : List (S44)) 0
theorem spec_Globs.mono_l : ∀ k, (∀ y0 y1 y2, LeO (spec_Globs.l0 k y0 y1 y2) (spec_Globs.l0 (k + 1) y0 y1 y2))
  | 0 => fun _ _ _ r h => by simp [spec_Globs.l0] at h
  | k + 1 => by
    have ih0 := spec_Globs.mono_l k
    · intro y0 y1 y2
      unfold spec_Globs.l0
      repeat' first
      | (with_reducible exact ih0 _ _ _)
      | (with_reducible exact spec_Character.mono _ _ _)
      | (with_reducible exact LeO.refl _)
      | (with_reducible exact LeO.none _)
      | (with_reducible refine LeO.ite ?_ ?_)
      | (with_reducible refine LeO.bind ?_ (fun _ => ?_))
      | exact ih0 _ _ _
      | exact spec_Character.mono _ _ _
      | exact LeO.none _
      | refine LeO.ite ?_ ?_
      | refine LeO.bind ?_ (fun _ => ?_)
theorem spec_Globs.mono : ∀ a0 k, LeO (spec_Globs.f k a0) (spec_Globs.f (k + 1) a0) := by
  intro a0 k
  have ih0 := spec_Globs.mono_l k
  unfold spec_Globs.f
  repeat' first
      | (with_reducible exact ih0 _ _ _)
      | (with_reducible exact spec_Character.mono _ _ _)
      | (with_reducible exact LeO.refl _)
      | (with_reducible exact LeO.none _)
      | (with_reducible refine LeO.ite ?_ ?_)
      | (with_reducible refine LeO.bind ?_ (fun _ => ?_))
      | exact ih0 _ _ _
      | exact spec_Character.mono _ _ _
      | exact LeO.none _
      | refine LeO.ite ?_ ?_
      | refine LeO.bind ?_ (fun _ => ?_)
set_option maxHeartbeats 8000000 in
set_option maxRecDepth 100000 in
theorem spec_Globs.calls (k : Nat) (a0 : ByteArray) (r1 : List (S44)) (r2 : Bool) (w : World) (h : spec_Globs.f k a0 = some (r1, r2)) :
    Calls Tryd.prog 17 #[.string a0] w fun e w' => ∃ v0_ : Value, e = .returned (.tuple #[v0_, .bool r2]) ∧ Kd.R k44 44 w' w.heap.size (fun _ => True) v0_ r1 ∧ Below w.heap.size w w' := by
  have hu44 := Tryd.underlying44
  have HB := Aside0.mk (Below.refl w.heap.size w)
  have H : (spec_Globs.l0 k a0 ([] : List (S44)) 0) = some (r1, r2) := h
  clear h
  have H' := Aside0.mk H
  clear H
  go_enter Tryd.func17, Tryd.ntmps17
  go_wp2
  go_loopg [4, 5] k (fun kq v4 v5 w' => ∃ (x4_1 : List (S44)) (x5_1 : Int), v5 = .int .i64 x5_1 ∧ Aside0 (spec_Globs.l0 kq a0 x4_1 x5_1 = some (r1, r2)) ∧ Aside0 (kq ≤ k) ∧ Aside0 (Kd.R k44 44 w' w.heap.size (fun _ => True) v4 x4_1) ∧ Aside0 (Below w.heap.size w w'))
  case atStart => exact ⟨(([] : List (S44))), (0), (by first | rfl | (simp; done) | (simp [*]; done)), H', ⟨Nat.le_refl _⟩, ⟨by first | exact Kd.R_nil _ _ _ _ _ | exact Kd.N_nil _ _ _ _ _ | exact Kd.V_nil _ _ _ _ _ | exact Kd.Q_nil _ _ _ _ _ | exact Kd.S_nil _ _ _ _ _⟩, ⟨by repeat (first | (with_reducible first | exact HB.out | apply below_alloc | apply pw_below_drewN | apply below_drew1) | exact HB.out)⟩⟩
  case round =>
    clear H'
    try clear c1
    obtain ⟨x4_1, x5_1, rfl, HA, HK1, HO_4, HB⟩ := hrel
    cases gk with
    | zero => exact absurd HA.out (by simp [spec_Globs.l0])
    | succ k1 =>
      have H := HA.out
      clear HA
      simp only [spec_Globs.l0] at H
      by_cases c2 : x5_1 < (a0.size : Int)
      · rw [if_pos c2] at H
        have c2b0 : decide (x5_1 < (a0.size : Int)) = true := decide_eq_true c2
        clear c2
        replace H := Option.bind_eq_some_iff.mp H
        obtain ⟨⟨t110, t111, t112⟩, A30, H⟩ := H
        replace H : (if t112 = true then (if t110 = 42 then (if x4_1.length < 8796093022208 then (spec_Globs.l0 k1 a0 (x4_1 ++ [(⟨true, false, 0⟩ : S44)]) (wrap64 (x5_1 + t111))) else (none)) else (if t110 = 63 then (if x4_1.length < 8796093022208 then (spec_Globs.l0 k1 a0 (x4_1 ++ [(⟨false, true, 0⟩ : S44)]) (wrap64 (x5_1 + t111))) else (none)) else (if t110 = 92 then (if (wrap64 (x5_1 + t111)) = (a0.size : Int) then (some (([] : List (S44)), false)) else ((spec_Character.f k1 a0 (wrap64 (x5_1 + t111))).bind fun bt119 => (if bt119.2.2 = true then (if x4_1.length < 8796093022208 then (spec_Globs.l0 k1 a0 (x4_1 ++ [(⟨false, false, bt119.1⟩ : S44)]) (wrap64 ((wrap64 (x5_1 + t111)) + bt119.2.1))) else (none)) else (some (([] : List (S44)), false))))) else (if x4_1.length < 8796093022208 then (spec_Globs.l0 k1 a0 (x4_1 ++ [(⟨false, false, t110⟩ : S44)]) (wrap64 (x5_1 + t111))) else (none))))) else (some (([] : List (S44)), false))) = some (r1, r2) := H
        have A3 := Aside0.mk A30
        clear A30
        by_cases c4 : t112 = true
        · subst c4
          have H1 : (if t110 = 42 then (if x4_1.length < 8796093022208 then (spec_Globs.l0 k1 a0 (x4_1 ++ [(⟨true, false, 0⟩ : S44)]) (wrap64 (x5_1 + t111))) else (none)) else (if t110 = 63 then (if x4_1.length < 8796093022208 then (spec_Globs.l0 k1 a0 (x4_1 ++ [(⟨false, true, 0⟩ : S44)]) (wrap64 (x5_1 + t111))) else (none)) else (if t110 = 92 then (if (wrap64 (x5_1 + t111)) = (a0.size : Int) then (some (([] : List (S44)), false)) else ((spec_Character.f k1 a0 (wrap64 (x5_1 + t111))).bind fun bt119 => (if bt119.2.2 = true then (if x4_1.length < 8796093022208 then (spec_Globs.l0 k1 a0 (x4_1 ++ [(⟨false, false, bt119.1⟩ : S44)]) (wrap64 ((wrap64 (x5_1 + t111)) + bt119.2.1))) else (none)) else (some (([] : List (S44)), false))))) else (if x4_1.length < 8796093022208 then (spec_Globs.l0 k1 a0 (x4_1 ++ [(⟨false, false, t110⟩ : S44)]) (wrap64 (x5_1 + t111))) else (none))))) = some (r1, r2) := by rw [if_pos rfl] at H; exact H
          clear H
          have H := H1
          clear H1
          by_cases c5 : t110 = 42
          · rw [if_pos c5] at H
            have c5b0 : (t110 == 42) = true := beq_iff_eq.mpr c5
            have c5b1 : (t110 != 42) = false := bne_eq_false_iff_eq.mpr c5
            clear c5
            by_cases c6 : x4_1.length < 8796093022208
            · rw [if_pos c6] at H
              have LMc6 := Aside0.mk c6
              clear c6
              obtain ⟨y113, hy113⟩ : ∃ y_ : List (S44), y_ = (x4_1 ++ [(⟨true, false, 0⟩ : S44)]) := ⟨_, rfl⟩
              replace H : (spec_Globs.l0 k1 a0 y113 (wrap64 (x5_1 + t111))) = some (r1, r2) := by first | (rw [hy113]; with_reducible exact H) | (have H2_ := (Option.bind_some _ _).symm.trans H; rw [hy113]; with_reducible exact H2_) | (have H2_ := (Option.bind_some _ _).symm.trans H; with_reducible exact H2_) | with_reducible exact H | (rw [hy113]; exact H) | exact H
              have Ny113 := Aside0.mk hy113
              clear hy113
              have H' := Aside0.mk H
              clear H
              go_wp2_with (first | ((with_reducible refine gate_callee (f := 22) rfl ?_); refine goesL_ (some 16) rfl rfl Tryd.func22 (by kernel_rfl) rfl #[.string a0, .int .i64 x5_1] rfl (by (try simp only [List.map_toArray, List.map_cons, List.map_nil]); first | done | rfl | (simp only [List.length_drop, List.length_take]; rfl)) ?_; (with_reducible refine (spec_Character.calls k1 a0 x5_1 t110 t111 true _ A3.out).mono ?_); rintro e w' ⟨rfl, ⟨nd, rfl⟩⟩; refine ⟨_, rfl, ?_⟩) | ((with_reducible refine gate_builtin (b := .append) (xs := #[.tmp 33, .tmp 35]) rfl ?_); at_builtin; refine Kd.R_append k44 (w0 := w) w.heap.size rfl (.tmp 33) (.tmp 35) 40 44 (.agg #[(.bool false), (.bool false), (.int .i64 0)]) 16 rfl Tryd.underlying40 info44 rfl (by decide) (by omega) u4 x4_1 (⟨true, false, 0⟩ : S44) [.bool true, .bool false, .int .i64 0] (fun _ => True) (fun _ => False) rfl rfl ?aP (fun _ hk => hk.elim) ?aF ?aO ?aB ?aS ?aL ?_; (case aP => exact k44_mkM _ _ _ (⟨true, false, 0⟩ : S44)); (case aB => exact (by repeat (first | (with_reducible first | exact HB.out | apply below_alloc | apply pw_below_drewN | apply below_drew1) | exact HB.out))); (case aF => exact (fun _ _ => trivial)); (case aO => exact (by (with_reducible repeat (first | apply Kd.R_alloc | apply Kd.R_drewN | apply Kd.R_drew)); exact HO_4.out)); (case aS => exact (below_size (by repeat (first | (with_reducible first | exact HB.out | apply below_alloc | apply pw_below_drewN | apply below_drew1) | exact HB.out)))); (case aL => have := LMc6.out; omega); intro v114 w7 ho hb hg hat; rw [← Ny113.out] at ho; have n0_ := Aside0.mk (hb); have n1_ := Aside0.mk (ho); clear HB; clear HO_4; have HB := n0_; have HO115 := n1_; clear n0_ n1_; clear ho hb hg hat))
              go_roundg k1
              case measure => have := HK1.out; omega
              case rel => exact ⟨(y113), (wrap64 (x5_1 + t111)), (by first | rfl | (simp; done) | (simp [*]; done)), H', ⟨by have := HK1.out; omega⟩, ⟨by (with_reducible repeat (first | apply Kd.R_alloc | apply Kd.R_drewN | apply Kd.R_drew)); exact HO115.out⟩, ⟨by repeat (first | (with_reducible first | exact HB.out | apply below_alloc | apply pw_below_drewN | apply below_drew1) | exact HB.out)⟩⟩
            · rw [if_neg c6] at H
              exact absurd H (by simp)
          · rw [if_neg c5] at H
            have c5b0 : (t110 == 42) = false := beq_eq_false_iff_ne.mpr c5
            have c5b1 : (t110 != 42) = true := bne_iff_ne.mpr c5
            by_cases c8 : t110 = 63
            · rw [if_pos c8] at H
              have c8b0 : (t110 == 63) = true := beq_iff_eq.mpr c8
              have c8b1 : (t110 != 63) = false := bne_eq_false_iff_eq.mpr c8
              clear c8
              by_cases c9 : x4_1.length < 8796093022208
              · rw [if_pos c9] at H
                have LMc9 := Aside0.mk c9
                clear c9
                obtain ⟨y116, hy116⟩ : ∃ y_ : List (S44), y_ = (x4_1 ++ [(⟨false, true, 0⟩ : S44)]) := ⟨_, rfl⟩
                replace H : (spec_Globs.l0 k1 a0 y116 (wrap64 (x5_1 + t111))) = some (r1, r2) := by first | (rw [hy116]; with_reducible exact H) | (have H2_ := (Option.bind_some _ _).symm.trans H; rw [hy116]; with_reducible exact H2_) | (have H2_ := (Option.bind_some _ _).symm.trans H; with_reducible exact H2_) | with_reducible exact H | (rw [hy116]; exact H) | exact H
                have Ny116 := Aside0.mk hy116
                clear hy116
                have H' := Aside0.mk H
                clear H
                go_wp2_with (first | ((with_reducible refine gate_callee (f := 22) rfl ?_); refine goesL_ (some 16) rfl rfl Tryd.func22 (by kernel_rfl) rfl #[.string a0, .int .i64 x5_1] rfl (by (try simp only [List.map_toArray, List.map_cons, List.map_nil]); first | done | rfl | (simp only [List.length_drop, List.length_take]; rfl)) ?_; (with_reducible refine (spec_Character.calls k1 a0 x5_1 t110 t111 true _ A3.out).mono ?_); rintro e w' ⟨rfl, ⟨nd, rfl⟩⟩; refine ⟨_, rfl, ?_⟩) | ((with_reducible refine gate_builtin (b := .append) (xs := #[.tmp 39, .tmp 41]) rfl ?_); at_builtin; refine Kd.R_append k44 (w0 := w) w.heap.size rfl (.tmp 39) (.tmp 41) 40 44 (.agg #[(.bool false), (.bool false), (.int .i64 0)]) 16 rfl Tryd.underlying40 info44 rfl (by decide) (by omega) u4 x4_1 (⟨false, true, 0⟩ : S44) [.bool false, .bool true, .int .i64 0] (fun _ => True) (fun _ => False) rfl rfl ?aP (fun _ hk => hk.elim) ?aF ?aO ?aB ?aS ?aL ?_; (case aP => exact k44_mkM _ _ _ (⟨false, true, 0⟩ : S44)); (case aB => exact (by repeat (first | (with_reducible first | exact HB.out | apply below_alloc | apply pw_below_drewN | apply below_drew1) | exact HB.out))); (case aF => exact (fun _ _ => trivial)); (case aO => exact (by (with_reducible repeat (first | apply Kd.R_alloc | apply Kd.R_drewN | apply Kd.R_drew)); exact HO_4.out)); (case aS => exact (below_size (by repeat (first | (with_reducible first | exact HB.out | apply below_alloc | apply pw_below_drewN | apply below_drew1) | exact HB.out)))); (case aL => have := LMc9.out; omega); intro v117 w10 ho hb hg hat; rw [← Ny116.out] at ho; have n0_ := Aside0.mk (hb); have n1_ := Aside0.mk (ho); clear HB; clear HO_4; have HB := n0_; have HO118 := n1_; clear n0_ n1_; clear ho hb hg hat))
                go_roundg k1
                case measure => have := HK1.out; omega
                case rel => exact ⟨(y116), (wrap64 (x5_1 + t111)), (by first | rfl | (simp; done) | (simp [*]; done)), H', ⟨by have := HK1.out; omega⟩, ⟨by (with_reducible repeat (first | apply Kd.R_alloc | apply Kd.R_drewN | apply Kd.R_drew)); exact HO118.out⟩, ⟨by repeat (first | (with_reducible first | exact HB.out | apply below_alloc | apply pw_below_drewN | apply below_drew1) | exact HB.out)⟩⟩
              · rw [if_neg c9] at H
                exact absurd H (by simp)
            · rw [if_neg c8] at H
              have c8b0 : (t110 == 63) = false := beq_eq_false_iff_ne.mpr c8
              have c8b1 : (t110 != 63) = true := bne_iff_ne.mpr c8
              by_cases c11 : t110 = 92
              · rw [if_pos c11] at H
                have c11b0 : (t110 == 92) = true := beq_iff_eq.mpr c11
                have c11b1 : (t110 != 92) = false := bne_eq_false_iff_eq.mpr c11
                clear c11
                by_cases c12 : (wrap64 (x5_1 + t111)) = (a0.size : Int)
                · rw [if_pos c12] at H
                  have c12b0 : ((wrap64 (x5_1 + t111)) == (a0.size : Int)) = true := beq_iff_eq.mpr c12
                  have c12b1 : ((wrap64 (x5_1 + t111)) != (a0.size : Int)) = false := bne_eq_false_iff_eq.mpr c12
                  clear c12
                  simp only [Option.some.injEq, Prod.mk.injEq] at H
                  obtain ⟨rfl, rfl⟩ := H
                  go_wp2_with (first | ((with_reducible refine gate_callee (f := 22) rfl ?_); refine goesL_ (some 16) rfl rfl Tryd.func22 (by kernel_rfl) rfl #[.string a0, .int .i64 x5_1] rfl (by (try simp only [List.map_toArray, List.map_cons, List.map_nil]); first | done | rfl | (simp only [List.length_drop, List.length_take]; rfl)) ?_; (with_reducible refine (spec_Character.calls k1 a0 x5_1 t110 t111 true _ A3.out).mono ?_); rintro e w' ⟨rfl, ⟨nd, rfl⟩⟩; refine ⟨_, rfl, ?_⟩))
                  go_ret2
                  exact ⟨_, by first | rfl | (simp [errW_none, errW_some] <;> rfl) | (simp [*, errW_none, errW_some] <;> rfl), by first | exact Kd.R_nil _ _ _ _ _ | exact Kd.N_nil _ _ _ _ _ | exact Kd.V_nil _ _ _ _ _ | exact Kd.Q_nil _ _ _ _ _ | exact Kd.S_nil _ _ _ _ _, by repeat (first | (with_reducible first | exact HB.out | apply below_alloc | apply pw_below_drewN | apply below_drew1) | exact HB.out)⟩
                · rw [if_neg c12] at H
                  have c12b0 : ((wrap64 (x5_1 + t111)) == (a0.size : Int)) = false := beq_eq_false_iff_ne.mpr c12
                  have c12b1 : ((wrap64 (x5_1 + t111)) != (a0.size : Int)) = true := bne_iff_ne.mpr c12
                  replace H := Option.bind_eq_some_iff.mp H
                  obtain ⟨⟨t119, t120, t121⟩, A130, H⟩ := H
                  replace H : (if t121 = true then (if x4_1.length < 8796093022208 then (spec_Globs.l0 k1 a0 (x4_1 ++ [(⟨false, false, t119⟩ : S44)]) (wrap64 ((wrap64 (x5_1 + t111)) + t120))) else (none)) else (some (([] : List (S44)), false))) = some (r1, r2) := H
                  have A13 := Aside0.mk A130
                  clear A130
                  by_cases c14 : t121 = true
                  · subst c14
                    have H1 : (if x4_1.length < 8796093022208 then (spec_Globs.l0 k1 a0 (x4_1 ++ [(⟨false, false, t119⟩ : S44)]) (wrap64 ((wrap64 (x5_1 + t111)) + t120))) else (none)) = some (r1, r2) := by rw [if_pos rfl] at H; exact H
                    clear H
                    have H := H1
                    clear H1
                    by_cases c15 : x4_1.length < 8796093022208
                    · rw [if_pos c15] at H
                      have LMc15 := Aside0.mk c15
                      clear c15
                      obtain ⟨y122, hy122⟩ : ∃ y_ : List (S44), y_ = (x4_1 ++ [(⟨false, false, t119⟩ : S44)]) := ⟨_, rfl⟩
                      replace H : (spec_Globs.l0 k1 a0 y122 (wrap64 ((wrap64 (x5_1 + t111)) + t120))) = some (r1, r2) := by first | (rw [hy122]; with_reducible exact H) | (have H2_ := (Option.bind_some _ _).symm.trans H; rw [hy122]; with_reducible exact H2_) | (have H2_ := (Option.bind_some _ _).symm.trans H; with_reducible exact H2_) | with_reducible exact H | (rw [hy122]; exact H) | exact H
                      have Ny122 := Aside0.mk hy122
                      clear hy122
                      have H' := Aside0.mk H
                      clear H
                      go_wp2_with (first | ((with_reducible refine gate_callee (f := 22) rfl ?_); refine goesL_ (some 16) rfl rfl Tryd.func22 (by kernel_rfl) rfl #[.string a0, .int .i64 x5_1] rfl (by (try simp only [List.map_toArray, List.map_cons, List.map_nil]); first | done | rfl | (simp only [List.length_drop, List.length_take]; rfl)) ?_; (with_reducible refine (spec_Character.calls k1 a0 x5_1 t110 t111 true _ A3.out).mono ?_); rintro e w' ⟨rfl, ⟨nd, rfl⟩⟩; refine ⟨_, rfl, ?_⟩) | ((with_reducible refine gate_callee (f := 22) rfl ?_); refine goesL_ (some 52) rfl rfl Tryd.func22 (by kernel_rfl) rfl #[.string a0, .int .i64 (wrap64 (x5_1 + t111))] rfl (by (try simp only [List.map_toArray, List.map_cons, List.map_nil]); first | done | rfl | (simp only [List.length_drop, List.length_take]; rfl)) ?_; (with_reducible refine (spec_Character.calls k1 a0 (wrap64 (x5_1 + t111)) t119 t120 true _ A13.out).mono ?_); rintro e w' ⟨rfl, ⟨nd, rfl⟩⟩; refine ⟨_, rfl, ?_⟩) | ((with_reducible refine gate_builtin (b := .append) (xs := #[.tmp 61, .tmp 64]) rfl ?_); at_builtin; refine Kd.R_append k44 (w0 := w) w.heap.size rfl (.tmp 61) (.tmp 64) 40 44 (.agg #[(.bool false), (.bool false), (.int .i64 0)]) 16 rfl Tryd.underlying40 info44 rfl (by decide) (by omega) u4 x4_1 (⟨false, false, t119⟩ : S44) [.bool false, .bool false, .int .i64 t119] (fun _ => True) (fun _ => False) rfl rfl ?aP (fun _ hk => hk.elim) ?aF ?aO ?aB ?aS ?aL ?_; (case aP => exact k44_mkM _ _ _ (⟨false, false, t119⟩ : S44)); (case aB => exact (by repeat (first | (with_reducible first | exact HB.out | apply below_alloc | apply pw_below_drewN | apply below_drew1) | exact HB.out))); (case aF => exact (fun _ _ => trivial)); (case aO => exact (by (with_reducible repeat (first | apply Kd.R_alloc | apply Kd.R_drewN | apply Kd.R_drew)); exact HO_4.out)); (case aS => exact (below_size (by repeat (first | (with_reducible first | exact HB.out | apply below_alloc | apply pw_below_drewN | apply below_drew1) | exact HB.out)))); (case aL => have := LMc15.out; omega); intro v123 w16 ho hb hg hat; rw [← Ny122.out] at ho; have n0_ := Aside0.mk (hb); have n1_ := Aside0.mk (ho); clear HB; clear HO_4; have HB := n0_; have HO124 := n1_; clear n0_ n1_; clear ho hb hg hat))
                      go_roundg k1
                      case measure => have := HK1.out; omega
                      case rel => exact ⟨(y122), (wrap64 ((wrap64 (x5_1 + t111)) + t120)), (by first | rfl | (simp; done) | (simp [*]; done)), H', ⟨by have := HK1.out; omega⟩, ⟨by (with_reducible repeat (first | apply Kd.R_alloc | apply Kd.R_drewN | apply Kd.R_drew)); exact HO124.out⟩, ⟨by repeat (first | (with_reducible first | exact HB.out | apply below_alloc | apply pw_below_drewN | apply below_drew1) | exact HB.out)⟩⟩
                    · rw [if_neg c15] at H
                      exact absurd H (by simp)
                  · replace c14 := Bool.eq_false_iff.mpr c14
                    subst c14
                    have H1 : (some (([] : List (S44)), false)) = some (r1, r2) := by rw [if_neg (show ¬ (false = true) by decide)] at H; exact H
                    clear H
                    have H := H1
                    clear H1
                    simp only [Option.some.injEq, Prod.mk.injEq] at H
                    obtain ⟨rfl, rfl⟩ := H
                    go_wp2_with (first | ((with_reducible refine gate_callee (f := 22) rfl ?_); refine goesL_ (some 16) rfl rfl Tryd.func22 (by kernel_rfl) rfl #[.string a0, .int .i64 x5_1] rfl (by (try simp only [List.map_toArray, List.map_cons, List.map_nil]); first | done | rfl | (simp only [List.length_drop, List.length_take]; rfl)) ?_; (with_reducible refine (spec_Character.calls k1 a0 x5_1 t110 t111 true _ A3.out).mono ?_); rintro e w' ⟨rfl, ⟨nd, rfl⟩⟩; refine ⟨_, rfl, ?_⟩) | ((with_reducible refine gate_callee (f := 22) rfl ?_); refine goesL_ (some 52) rfl rfl Tryd.func22 (by kernel_rfl) rfl #[.string a0, .int .i64 (wrap64 (x5_1 + t111))] rfl (by (try simp only [List.map_toArray, List.map_cons, List.map_nil]); first | done | rfl | (simp only [List.length_drop, List.length_take]; rfl)) ?_; (with_reducible refine (spec_Character.calls k1 a0 (wrap64 (x5_1 + t111)) t119 t120 false _ A13.out).mono ?_); rintro e w' ⟨rfl, ⟨nd, rfl⟩⟩; refine ⟨_, rfl, ?_⟩))
                    go_ret2
                    exact ⟨_, by first | rfl | (simp [errW_none, errW_some] <;> rfl) | (simp [*, errW_none, errW_some] <;> rfl), by first | exact Kd.R_nil _ _ _ _ _ | exact Kd.N_nil _ _ _ _ _ | exact Kd.V_nil _ _ _ _ _ | exact Kd.Q_nil _ _ _ _ _ | exact Kd.S_nil _ _ _ _ _, by repeat (first | (with_reducible first | exact HB.out | apply below_alloc | apply pw_below_drewN | apply below_drew1) | exact HB.out)⟩
              · rw [if_neg c11] at H
                have c11b0 : (t110 == 92) = false := beq_eq_false_iff_ne.mpr c11
                have c11b1 : (t110 != 92) = true := bne_iff_ne.mpr c11
                by_cases c17 : x4_1.length < 8796093022208
                · rw [if_pos c17] at H
                  have LMc17 := Aside0.mk c17
                  clear c17
                  obtain ⟨y125, hy125⟩ : ∃ y_ : List (S44), y_ = (x4_1 ++ [(⟨false, false, t110⟩ : S44)]) := ⟨_, rfl⟩
                  replace H : (spec_Globs.l0 k1 a0 y125 (wrap64 (x5_1 + t111))) = some (r1, r2) := by first | (rw [hy125]; with_reducible exact H) | (have H2_ := (Option.bind_some _ _).symm.trans H; rw [hy125]; with_reducible exact H2_) | (have H2_ := (Option.bind_some _ _).symm.trans H; with_reducible exact H2_) | with_reducible exact H | (rw [hy125]; exact H) | exact H
                  have Ny125 := Aside0.mk hy125
                  clear hy125
                  have H' := Aside0.mk H
                  clear H
                  go_wp2_with (first | ((with_reducible refine gate_callee (f := 22) rfl ?_); refine goesL_ (some 16) rfl rfl Tryd.func22 (by kernel_rfl) rfl #[.string a0, .int .i64 x5_1] rfl (by (try simp only [List.map_toArray, List.map_cons, List.map_nil]); first | done | rfl | (simp only [List.length_drop, List.length_take]; rfl)) ?_; (with_reducible refine (spec_Character.calls k1 a0 x5_1 t110 t111 true _ A3.out).mono ?_); rintro e w' ⟨rfl, ⟨nd, rfl⟩⟩; refine ⟨_, rfl, ?_⟩) | ((with_reducible refine gate_builtin (b := .append) (xs := #[.tmp 26, .tmp 29]) rfl ?_); at_builtin; refine Kd.R_append k44 (w0 := w) w.heap.size rfl (.tmp 26) (.tmp 29) 40 44 (.agg #[(.bool false), (.bool false), (.int .i64 0)]) 16 rfl Tryd.underlying40 info44 rfl (by decide) (by omega) u4 x4_1 (⟨false, false, t110⟩ : S44) [.bool false, .bool false, .int .i64 t110] (fun _ => True) (fun _ => False) rfl rfl ?aP (fun _ hk => hk.elim) ?aF ?aO ?aB ?aS ?aL ?_; (case aP => exact k44_mkM _ _ _ (⟨false, false, t110⟩ : S44)); (case aB => exact (by repeat (first | (with_reducible first | exact HB.out | apply below_alloc | apply pw_below_drewN | apply below_drew1) | exact HB.out))); (case aF => exact (fun _ _ => trivial)); (case aO => exact (by (with_reducible repeat (first | apply Kd.R_alloc | apply Kd.R_drewN | apply Kd.R_drew)); exact HO_4.out)); (case aS => exact (below_size (by repeat (first | (with_reducible first | exact HB.out | apply below_alloc | apply pw_below_drewN | apply below_drew1) | exact HB.out)))); (case aL => have := LMc17.out; omega); intro v126 w18 ho hb hg hat; rw [← Ny125.out] at ho; have n0_ := Aside0.mk (hb); have n1_ := Aside0.mk (ho); clear HB; clear HO_4; have HB := n0_; have HO127 := n1_; clear n0_ n1_; clear ho hb hg hat))
                  go_roundg k1
                  case measure => have := HK1.out; omega
                  case rel => exact ⟨(y125), (wrap64 (x5_1 + t111)), (by first | rfl | (simp; done) | (simp [*]; done)), H', ⟨by have := HK1.out; omega⟩, ⟨by (with_reducible repeat (first | apply Kd.R_alloc | apply Kd.R_drewN | apply Kd.R_drew)); exact HO127.out⟩, ⟨by repeat (first | (with_reducible first | exact HB.out | apply below_alloc | apply pw_below_drewN | apply below_drew1) | exact HB.out)⟩⟩
                · rw [if_neg c17] at H
                  exact absurd H (by simp)
        · replace c4 := Bool.eq_false_iff.mpr c4
          subst c4
          have H1 : (some (([] : List (S44)), false)) = some (r1, r2) := by rw [if_neg (show ¬ (false = true) by decide)] at H; exact H
          clear H
          have H := H1
          clear H1
          simp only [Option.some.injEq, Prod.mk.injEq] at H
          obtain ⟨rfl, rfl⟩ := H
          go_wp2_with (first | ((with_reducible refine gate_callee (f := 22) rfl ?_); refine goesL_ (some 16) rfl rfl Tryd.func22 (by kernel_rfl) rfl #[.string a0, .int .i64 x5_1] rfl (by (try simp only [List.map_toArray, List.map_cons, List.map_nil]); first | done | rfl | (simp only [List.length_drop, List.length_take]; rfl)) ?_; (with_reducible refine (spec_Character.calls k1 a0 x5_1 t110 t111 false _ A3.out).mono ?_); rintro e w' ⟨rfl, ⟨nd, rfl⟩⟩; refine ⟨_, rfl, ?_⟩))
          go_ret2
          exact ⟨_, by first | rfl | (simp [errW_none, errW_some] <;> rfl) | (simp [*, errW_none, errW_some] <;> rfl), by first | exact Kd.R_nil _ _ _ _ _ | exact Kd.N_nil _ _ _ _ _ | exact Kd.V_nil _ _ _ _ _ | exact Kd.Q_nil _ _ _ _ _ | exact Kd.S_nil _ _ _ _ _, by repeat (first | (with_reducible first | exact HB.out | apply below_alloc | apply pw_below_drewN | apply below_drew1) | exact HB.out)⟩
      · rw [if_neg c2] at H
        have c2b0 : decide (x5_1 < (a0.size : Int)) = false := decide_eq_false c2
        clear c2
        simp only [Option.some.injEq, Prod.mk.injEq] at H
        obtain ⟨rfl, rfl⟩ := H
        go_wp2
        go_ret2
        exact ⟨_, by first | rfl | (simp [errW_none, errW_some] <;> rfl) | (simp [*, errW_none, errW_some] <;> rfl), by (with_reducible repeat (first | apply Kd.R_alloc | apply Kd.R_drewN | apply Kd.R_drew)); exact HO_4.out, by repeat (first | (with_reducible first | exact HB.out | apply below_alloc | apply pw_below_drewN | apply below_drew1) | exact HB.out)⟩

end Go.Proofs.YtjpbjbcdobibbaaDoor.PFnMtTurned
