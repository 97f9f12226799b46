/- Several texts in one. -/
import Derived.Test.YthehnffmbdlopaaDoorZPFnJpGetRestx0
import Derived.Test.YthehnffmbdlopaaDoorZGe
import Derived.Test.YthehnffmbdlopaaDoorZGx6
namespace Go.Proofs.YthehnffmbdlopaaDoor.PFnJpGetRest
open Go.RowKit Go.Proofs.YthehnffmbdlopaaDoorW.PrintWords Go.Proofs.YthehnffmbdlopaaDoorW.PrintLast Go.Proofs.YthehnffmbdlopaaDoorW.PrintMore
attribute [local go_sem] max2_int min2_int max_two min_two max_three min_three max_four min_four   -- for this text's walks alone
set_option linter.unusedVariables false
set_option linter.unusedSimpArgs false

mutual
def spec_Once.l0 : Nat → ByteArray → List ByteArray → Int → Int → Int → Int → Int → List (S43) → List (S27) → Option (Bool)
  | 0, _, _, _, _, _, _, _, _, _ => none
  | k + 1, x0, x13, x14, x15, x261000, x261001, x261002, x261003, x261004 => if x15 < x14 then (if 0 ≤ x15 then (if x15 < (x13.length : Int) then (if x261000 = 6 then (spec_Once.l1 k x0 (rdOf ByteArray.empty x13 x15) 0 0 x13 x14 x15 x261000 x261001 x261002 x261003 x261004) else ((spec_Step.f k x0 x261000 x261001 x261002 x261003 x261004 (rdOf ByteArray.empty x13 x15)).bind fun bt276 => (if bt276.2.2.2.2.2 = true then (spec_Once.l0 k x0 x13 x14 (wrap64 (x15 + 1)) bt276.1 bt276.2.1 bt276.2.2.1 bt276.2.2.2.1 bt276.2.2.2.2.1) else (some true)))) else (none)) else (none)) else (some true)
def spec_Once.l1 : Nat → ByteArray → ByteArray → Int → Int → List ByteArray → Int → Int → Int → Int → Int → List (S43) → List (S27) → Option (Bool)
  | 0, _, _, _, _, _, _, _, _, _, _, _, _ => none
  | k + 1, x0, x8, x9, x10, x13, x14, x15, x261000, x261001, x261002, x261003, x261004 => if x10 < (x261003.length : Int) then (if 0 ≤ x10 then (if 0 ≤ ((rd_T43 x261003 x10).f0) then (if ((rd_T43 x261003 x10).f0) ≤ ((rd_T43 x261003 x10).f1) then (if ((rd_T43 x261003 x10).f1) ≤ (x0.size : Int) then ((spec_Unquote.f k (x0.extract (((rd_T43 x261003 x10).f0) : Int).toNat (((rd_T43 x261003 x10).f1) : Int).toNat)).bind fun t264 => (if t264.toList = x8.toList then (spec_Once.l1 k x0 x8 (wrap64 (x9 + 1)) (wrap64 (x10 + 1)) x13 x14 x15 x261000 x261001 x261002 x261003 x261004) else (spec_Once.l1 k x0 x8 x9 (wrap64 (x10 + 1)) x13 x14 x15 x261000 x261001 x261002 x261003 x261004))) else (none)) else (none)) else (none)) else (none)) else (if x9 > 1 then (some false) else ((spec_Step.f k x0 x261000 x261001 x261002 x261003 x261004 x8).bind fun bt265 => (if bt265.2.2.2.2.2 = true then (spec_Once.l0 k x0 x13 x14 (wrap64 (x15 + 1)) bt265.1 bt265.2.1 bt265.2.2.1 bt265.2.2.2.1 bt265.2.2.2.2.1) else (some true))))
end
def spec_Once.f (k : Nat) (a0 : ByteArray) (a1_0 : Int) (a1_1 : Int) (a1_2 : Int) (l1_3 : List (S43)) (l1_4 : List (S27)) (l2 : List ByteArray) : Option (Bool) := spec_Once.l0 k a0 l2 (l2.length : Int) 0 a1_0 a1_1 a1_2 l1_3 l1_4
theorem spec_Once.mono_l : ∀ k, (∀ y0 y1 y2 y3 y4 y5 y6 y7 y8, LeO (spec_Once.l0 k y0 y1 y2 y3 y4 y5 y6 y7 y8) (spec_Once.l0 (k + 1) y0 y1 y2 y3 y4 y5 y6 y7 y8)) ∧ (∀ y0 y1 y2 y3 y4 y5 y6 y7 y8 y9 y10 y11, LeO (spec_Once.l1 k y0 y1 y2 y3 y4 y5 y6 y7 y8 y9 y10 y11) (spec_Once.l1 (k + 1) y0 y1 y2 y3 y4 y5 y6 y7 y8 y9 y10 y11))
  | 0 => ⟨fun _ _ _ _ _ _ _ _ _ r h => by simp [spec_Once.l0] at h, fun _ _ _ _ _ _ _ _ _ _ _ _ r h => by simp [spec_Once.l1] at h⟩
  | k + 1 => by
    obtain ⟨ih0, ih1⟩ := spec_Once.mono_l k
    refine ⟨?_, ?_⟩
    · intro y0 y1 y2 y3 y4 y5 y6 y7 y8
      unfold spec_Once.l0
      repeat' first
      | (with_reducible exact ih0 _ _ _ _ _ _ _ _ _)
      | (with_reducible exact ih1 _ _ _ _ _ _ _ _ _ _ _ _)
      | (with_reducible exact spec_Step.mono _ _ _ _ _ _ _ _)
      | (with_reducible exact spec_Unquote.mono _ _)
      | (with_reducible exact LeO.refl _)
      | (with_reducible exact LeO.none _)
      | (with_reducible refine LeO.ite ?_ ?_)
      | (with_reducible refine LeO.bind ?_ (fun _ => ?_))
      | exact ih0 _ _ _ _ _ _ _ _ _
      | exact ih1 _ _ _ _ _ _ _ _ _ _ _ _
      | exact spec_Step.mono _ _ _ _ _ _ _ _
      | exact spec_Unquote.mono _ _
      | exact LeO.none _
      | refine LeO.ite ?_ ?_
      | refine LeO.bind ?_ (fun _ => ?_)
    · intro y0 y1 y2 y3 y4 y5 y6 y7 y8 y9 y10 y11
      unfold spec_Once.l1
      repeat' first
      | (with_reducible exact ih0 _ _ _ _ _ _ _ _ _)
      | (with_reducible exact ih1 _ _ _ _ _ _ _ _ _ _ _ _)
      | (with_reducible exact spec_Step.mono _ _ _ _ _ _ _ _)
      | (with_reducible exact spec_Unquote.mono _ _)
      | (with_reducible exact LeO.refl _)
      | (with_reducible exact LeO.none _)
      | (with_reducible refine LeO.ite ?_ ?_)
      | (with_reducible refine LeO.bind ?_ (fun _ => ?_))
      | exact ih0 _ _ _ _ _ _ _ _ _
      | exact ih1 _ _ _ _ _ _ _ _ _ _ _ _
      | exact spec_Step.mono _ _ _ _ _ _ _ _
      | exact spec_Unquote.mono _ _
      | exact LeO.none _
      | refine LeO.ite ?_ ?_
      | refine LeO.bind ?_ (fun _ => ?_)
theorem spec_Once.mono : ∀ a0 a1 a2 a3 a4 a5 a6 k, LeO (spec_Once.f k a0 a1 a2 a3 a4 a5 a6) (spec_Once.f (k + 1) a0 a1 a2 a3 a4 a5 a6) := by
  intro a0 a1 a2 a3 a4 a5 a6 k
  obtain ⟨ih0, ih1⟩ := spec_Once.mono_l k
  unfold spec_Once.f
  repeat' first
      | (with_reducible exact ih0 _ _ _ _ _ _ _ _ _)
      | (with_reducible exact ih1 _ _ _ _ _ _ _ _ _ _ _ _)
      | (with_reducible exact spec_Step.mono _ _ _ _ _ _ _ _)
      | (with_reducible exact spec_Unquote.mono _ _)
      | (with_reducible exact LeO.refl _)
      | (with_reducible exact LeO.none _)
      | (with_reducible refine LeO.ite ?_ ?_)
      | (with_reducible refine LeO.bind ?_ (fun _ => ?_))
      | exact ih0 _ _ _ _ _ _ _ _ _
      | exact ih1 _ _ _ _ _ _ _ _ _ _ _ _
      | exact spec_Step.mono _ _ _ _ _ _ _ _
      | exact spec_Unquote.mono _ _
      | exact LeO.none _
      | refine LeO.ite ?_ ?_
      | refine LeO.bind ?_ (fun _ => ?_)
def spec_Once.T9 : Bool × List (List Nat × List Nat) := (true, [([], []), ([], []), ([1], [1]), ([], []), ([2, 3], [2, 3]), ([4], [4]), ([5], [5]), ([], []), ([7], [7]), ([], []), ([8, 9], [8, 9]), ([10], [10]), ([11], [11]), ([0, 6, 12], [0, 6, 12]), ([13], [13]), ([], []), ([14, 15], [14, 15])])
def spec_Once.B9 : List Nat := [0, 0, 2, 0, 14, 30, 62, 0, 128, 0, 896, 1920, 3968, 8191, 16383, 0, 65535]
theorem spec_Once.tab9 : rtab .any (opsOf Tryd.f24 9) = spec_Once.T9 := by kernel_rfl
theorem spec_Once.bits9 : waitsOk spec_Once.T9.2 spec_Once.B9 = true := by kernel_rfl
set_option maxHeartbeats 8000000 in
set_option maxRecDepth 100000 in
theorem spec_Once.calls (k : Nat) (a0 : ByteArray) (a1_0 : Int) (a1_1 : Int) (a1_2 : Int) (P1_3_ : Nat → Prop) (A1_3 : Option Addr) (c1_3 : Nat) (l1_3 : List (S43)) (P1_4_ : Nat → Prop) (A1_4 : Option Addr) (c1_4 : Nat) (l1_4 : List (S27)) (A2 : Option Addr) (c2 : Nat) (l2 : List ByteArray) (r : Bool) (w : World) (hs1_3 : Kd.V k43 43 w w.heap.size (fun k_ => P1_3_ k_) (.slice A1_3 l1_3.length c1_3) l1_3) (hs1_4 : Kd.V k27 27 w w.heap.size (fun k_ => P1_4_ k_) (.slice A1_4 l1_4.length c1_4) l1_4) (hr2 : Kd.C Kd.string w A2 l2.length l2) (hc2 : l2.length ≤ c2) (h : spec_Once.f k a0 a1_0 a1_1 a1_2 l1_3 l1_4 l2 = some r) :
    Calls Tryd.prog 24 #[.string a0, .agg #[.int .i64 a1_0, .int .i64 a1_1, .int .i64 a1_2, .slice A1_3 l1_3.length c1_3, .slice A1_4 l1_4.length c1_4], .slice A2 l2.length c2] w fun e w' => e = .returned (.bool r) ∧ Below w.heap.size w w' := by
  have hu27 := Tryd.underlying27
  have HO1_3 := Aside0.mk (show Kd.V k43 43 w w.heap.size (fun k_ => ((P1_3_ k_ ∨ P1_4_ k_) ∨ w.heap.size ≤ k_)) (.slice A1_3 l1_3.length c1_3) l1_3 from Kd.V_mono hs1_3 (fun k_ hk => .inl (.inl hk)))
  have HO1_4 := Aside0.mk (show Kd.V k27 27 w w.heap.size (fun k_ => ((P1_3_ k_ ∨ P1_4_ k_) ∨ w.heap.size ≤ k_)) (.slice A1_4 l1_4.length c1_4) l1_4 from Kd.V_mono hs1_4 (fun k_ hk => .inl (.inr hk)))
  have HR2 := Aside0.mk hr2
  have HC2 := Aside0.mk hc2
  clear hr2 hc2
  have HB := Aside0.mk (Below.refl w.heap.size w)
  have H : (spec_Once.l0 k a0 l2 (l2.length : Int) 0 a1_0 a1_1 a1_2 l1_3 l1_4) = some r := h
  clear h
  have H' := Aside0.mk H
  clear H
  go_enter Tryd.func24, Tryd.ntmps24
  go_wp2_with (first | ((with_reducible refine gate_dst (N := 4) rfl ?_); refine box_event ?hg (N := 4) ?hd (cs := #[.int .i64 a1_0, .int .i64 a1_1, .int .i64 a1_2, .slice A1_3 l1_3.length c1_3, .slice A1_4 l1_4.length c1_4]) (t := 27) ?hr ?_; (case hd => rfl); (case hg => rfl); (case hr => first | (go_simp; done) | (go_simp; rfl)); intro gb260 hg w4 hbox hb; have n0_ := Aside0.mk (Kd.V_below (Kd.V_elderB (by (with_reducible repeat (first | apply Kd.V_alloc | apply Kd.V_drewN | apply Kd.V_drew)); exact HO1_3.out) gb260 (Nat.le_of_eq hg.symm)) hb); have n1_ := Aside0.mk (Kd.V_below (Kd.V_elderB (by (with_reducible repeat (first | apply Kd.V_alloc | apply Kd.V_drewN | apply Kd.V_drew)); exact HO1_4.out) gb260 (Nat.le_of_eq hg.symm)) hb); have n2_ := Aside0.mk (below_step (by repeat (first | (with_reducible first | exact HB.out | apply below_alloc | apply pw_below_drewN | apply below_drew1) | exact HB.out)) hb); have n3_ := Aside0.mk (hbox); have n4_ := Aside0.mk ((by rw [hg]; exact (below_size (by repeat (first | (with_reducible first | exact HB.out | apply below_alloc | apply pw_below_drewN | apply below_drew1) | exact HB.out))) : w.heap.size ≤ gb260)); have n5_ := Aside0.mk ((by rw [hg]; exact (below_size (by repeat (first | (with_reducible first | exact HB.out | apply below_alloc | apply pw_below_drewN | apply below_drew1) | exact HB.out))) : w.heap.size ≤ gb260)); clear HO1_3; clear HO1_4; clear HB; have HO1_3 := n0_; have HO1_4 := n1_; have HB := n2_; have BK260 := n3_; have GW260 := n4_; have GE260 := n5_; clear n0_ n1_ n2_ n3_ n4_ n5_; clear hb hbox hg))
  go_loopg [15] k (fun kq v15 w' => ∃ (x15_1 : Int) (x261000_1 : Int) (x261001_1 : Int) (x261002_1 : Int) (x261003_1 : List (S43)) (x261004_1 : List (S27)) (u261003 : Value) (u261004 : Value), v15 = .int .i64 x15_1 ∧ Aside0 (spec_Once.l0 kq a0 l2 (l2.length : Int) x15_1 x261000_1 x261001_1 x261002_1 x261003_1 x261004_1 = some r) ∧ Aside0 (kq ≤ k) ∧ Aside0 (Kd.V k43 43 w' w.heap.size (fun k_ => ((P1_3_ k_ ∨ P1_4_ k_) ∨ w.heap.size ≤ k_) ∧ k_ ≠ gb260) u261003 x261003_1) ∧ Aside0 (Kd.V k27 27 w' w.heap.size (fun k_ => ((P1_3_ k_ ∨ P1_4_ k_) ∨ w.heap.size ≤ k_) ∧ k_ ≠ gb260) u261004 x261004_1) ∧ Aside0 (w'.heap[gb260]? = some (.cells #[.int .i64 x261000_1, .int .i64 x261001_1, .int .i64 x261002_1, u261003, u261004] 27 (0, 0))) ∧ Aside0 (Below w.heap.size w w'))
  case atStart => exact ⟨(0), (a1_0), (a1_1), (a1_2), (l1_3), (l1_4), (.slice A1_3 l1_3.length c1_3), (.slice A1_4 l1_4.length c1_4), (by first | rfl | (simp; done) | (simp [*]; done)), H', ⟨Nat.le_refl _⟩, ⟨by (with_reducible repeat (first | apply Kd.V_alloc | apply Kd.V_drewN | apply Kd.V_drew)); exact HO1_3.out⟩, ⟨by (with_reducible repeat (first | apply Kd.V_alloc | apply Kd.V_drewN | apply Kd.V_drew)); exact HO1_4.out⟩, ⟨by (with_reducible repeat (first | refine blk_drewN ?_ _ | refine blk_drew ?_ | refine blk_alloc ?_ _)); exact BK260.out⟩, ⟨by repeat (first | (with_reducible first | exact HB.out | apply below_alloc | apply pw_below_drewN | apply below_drew1 | refine below_set ?_ GE260.out) | exact HB.out)⟩⟩
  case round =>
    clear H'
    try clear c1
    try clear c2
    try clear p2
    obtain ⟨x15_1, x261000_1, x261001_1, x261002_1, x261003_1, x261004_1, u261003, u261004, rfl, HA, HK1, HO_261003, HO_261004, BK260, HB⟩ := hrel
    cases gk with
    | zero => exact absurd HA.out (by simp [spec_Once.l0])
    | succ k1 =>
      have H := HA.out
      clear HA
      simp only [spec_Once.l0] at H
      by_cases c5 : x15_1 < (l2.length : Int)
      · rw [if_pos c5] at H
        have c5b0 : decide (x15_1 < (l2.length : Int)) = true := decide_eq_true c5
        clear c5
        by_cases c6 : 0 ≤ x15_1
        · rw [if_pos c6] at H
          have c6b0 : decide (0 ≤ x15_1) = true := decide_eq_true c6
          clear c6
          by_cases c7 : x15_1 < (l2.length : Int)
          · rw [if_pos c7] at H
            have c7b0 : decide (x15_1 < (l2.length : Int)) = true := decide_eq_true c7
            clear c7
            by_cases c8 : x261000_1 = 6
            · rw [if_pos c8] at H
              have c8b0 : (x261000_1 == 6) = true := beq_iff_eq.mpr c8
              have c8b1 : (x261000_1 != 6) = false := bne_eq_false_iff_eq.mpr c8
              clear c8
              have H' := Aside0.mk H
              clear H
              have p261 : 0 ≤ (x15_1 : Int) := of_decide_eq_true (by first | (with_reducible assumption) | assumption)
              have q261 : x15_1 < (l2.length : Int) := of_decide_eq_true (by first | (with_reducible assumption) | assumption)
              obtain ⟨ad261, e261, hx261_0⟩ := Kd.at_string HR2.out x15_1 p261 q261
              cases e261
              replace hx261_0 := (HB.out.cell (World.block_lt_of_cell? w _ hx261_0)).trans hx261_0
              replace p261 := eq_true p261
              replace q261 := eq_true q261
              have hcz9_0 : wr.cell? ⟨gb260, 0, none⟩ = some (.int .i64 x261000_1) := (blk_cell BK260.out 0).trans rfl
              have hcz9_1 : wr.cell? ⟨gb260, 1, none⟩ = some (.int .i64 x261001_1) := (blk_cell BK260.out 1).trans rfl
              have hcz9_2 : wr.cell? ⟨gb260, 2, none⟩ = some (.int .i64 x261002_1) := (blk_cell BK260.out 2).trans rfl
              have hcz9_3 : wr.cell? ⟨gb260, 3, none⟩ = some (u261003) := (blk_cell BK260.out 3).trans rfl
              have hcz9_4 : wr.cell? ⟨gb260, 4, none⟩ = some (u261004) := (blk_cell BK260.out 4).trans rfl
              have hfz9_0 := blk_frozen BK260.out 0
              have hfz9_1 := blk_frozen BK260.out 1
              have hfz9_2 := blk_frozen BK260.out 2
              have hfz9_3 := blk_frozen BK260.out 3
              have hfz9_4 := blk_frozen BK260.out 4
              go_wp2
              go_loopg [9, 10] k1 (fun kq v9 v10 w' => ∃ (x9_2 : Int) (x10_2 : Int), v9 = .int .i64 x9_2 ∧ v10 = .int .i64 x10_2 ∧ Aside0 (spec_Once.l1 kq a0 (rdOf ByteArray.empty l2 x15_1) x9_2 x10_2 l2 (l2.length : Int) x15_1 x261000_1 x261001_1 x261002_1 x261003_1 x261004_1 = some r) ∧ Aside0 (kq ≤ k1) ∧ Aside0 (Kd.V k43 43 w' w.heap.size (fun k_ => ((P1_3_ k_ ∨ P1_4_ k_) ∨ w.heap.size ≤ k_) ∧ k_ ≠ gb260) u261003 x261003_1) ∧ Aside0 (Kd.V k27 27 w' w.heap.size (fun k_ => ((P1_3_ k_ ∨ P1_4_ k_) ∨ w.heap.size ≤ k_) ∧ k_ ≠ gb260) u261004 x261004_1) ∧ Aside0 (w'.heap[gb260]? = some (.cells #[.int .i64 x261000_1, .int .i64 x261001_1, .int .i64 x261002_1, u261003, u261004] 27 (0, 0))) ∧ Aside0 (Below w.heap.size w w'))
              case atStart => exact ⟨(0), (0), (by first | rfl | (simp; done) | (simp [*]; done)), (by first | rfl | (simp; done) | (simp [*]; done)), H', ⟨Nat.le_refl _⟩, ⟨by (with_reducible repeat (first | apply Kd.V_alloc | apply Kd.V_drewN | apply Kd.V_drew)); exact HO_261003.out⟩, ⟨by (with_reducible repeat (first | apply Kd.V_alloc | apply Kd.V_drewN | apply Kd.V_drew)); exact HO_261004.out⟩, ⟨by (with_reducible repeat (first | refine blk_drewN ?_ _ | refine blk_drew ?_ | refine blk_alloc ?_ _)); exact BK260.out⟩, ⟨by repeat (first | (with_reducible first | exact HB.out | apply below_alloc | apply pw_below_drewN | apply below_drew1 | refine below_set ?_ GE260.out) | exact HB.out)⟩⟩
              case round =>
                clear H'
                try clear c1
                try clear c2
                try clear p2
                try clear q2
                try clear hx2
                try clear c5
                try clear c5b0
                try clear c6
                try clear c6b0
                try clear c7
                try clear c7b0
                try clear c8
                try clear c8b0
                try clear c8b1
                try clear hcz9_0
                try clear hcz9_1
                try clear hcz9_2
                try clear hcz9_3
                try clear hcz9_4
                try clear hfz9_0
                try clear hfz9_1
                try clear hfz9_2
                try clear hfz9_3
                try clear hfz9_4
                try clear hx261_0
                try clear p2
                try clear p261
                try clear q261
                obtain ⟨x9_2, x10_2, rfl, rfl, HA, HK2, HO_261003, HO_261004, BK260, HB⟩ := hrel
                cases gk with
                | zero => exact absurd HA.out (by simp [spec_Once.l1])
                | succ k2 =>
                  have H := HA.out
                  clear HA
                  simp only [spec_Once.l1] at H
                  by_cases c10 : x10_2 < (x261003_1.length : Int)
                  · rw [if_pos c10] at H
                    have c10b0 : decide (x10_2 < (x261003_1.length : Int)) = true := decide_eq_true c10
                    clear c10
                    by_cases c11 : 0 ≤ x10_2
                    · rw [if_pos c11] at H
                      have c11b0 : decide (0 ≤ x10_2) = true := decide_eq_true c11
                      clear c11
                      by_cases c12 : 0 ≤ ((rd_T43 x261003_1 x10_2).f0)
                      · rw [if_pos c12] at H
                        have c12b0 := eq_true c12
                        have c12b1 : decide (0 ≤ ((rd_T43 x261003_1 x10_2).f0)) = true := decide_eq_true c12
                        clear c12
                        by_cases c13 : ((rd_T43 x261003_1 x10_2).f0) ≤ ((rd_T43 x261003_1 x10_2).f1)
                        · rw [if_pos c13] at H
                          have c13b0 := eq_true c13
                          have c13b1 : decide (((rd_T43 x261003_1 x10_2).f0) ≤ ((rd_T43 x261003_1 x10_2).f1)) = true := decide_eq_true c13
                          clear c13
                          by_cases c14 : ((rd_T43 x261003_1 x10_2).f1) ≤ (a0.size : Int)
                          · rw [if_pos c14] at H
                            have c14b0 := eq_true c14
                            have c14b1 : decide (((rd_T43 x261003_1 x10_2).f1) ≤ (a0.size : Int)) = true := decide_eq_true c14
                            clear c14
                            replace H := Option.bind_eq_some_iff.mp H
                            obtain ⟨t264, A150, H⟩ := H
                            replace H : (if t264.toList = (rdOf ByteArray.empty l2 x15_1).toList then (spec_Once.l1 k2 a0 (rdOf ByteArray.empty l2 x15_1) (wrap64 (x9_2 + 1)) (wrap64 (x10_2 + 1)) l2 (l2.length : Int) x15_1 x261000_1 x261001_1 x261002_1 x261003_1 x261004_1) else (spec_Once.l1 k2 a0 (rdOf ByteArray.empty l2 x15_1) x9_2 (wrap64 (x10_2 + 1)) l2 (l2.length : Int) x15_1 x261000_1 x261001_1 x261002_1 x261003_1 x261004_1)) = some r := H
                            have A15 := Aside0.mk A150
                            clear A150
                            by_cases c16 : t264.toList = (rdOf ByteArray.empty l2 x15_1).toList
                            · rw [if_pos c16] at H
                              have c16b0 : (t264.toList == (rdOf ByteArray.empty l2 x15_1).toList) = true := beq_iff_eq.mpr c16
                              have c16b1 : (t264.toList != (rdOf ByteArray.empty l2 x15_1).toList) = false := bne_eq_false_iff_eq.mpr c16
                              clear c16
                              have H' := Aside0.mk H
                              clear H
                              have hcz17_0 : wr.cell? ⟨gb260, 0, none⟩ = some (.int .i64 x261000_1) := (blk_cell BK260.out 0).trans rfl
                              have hcz17_1 : wr.cell? ⟨gb260, 1, none⟩ = some (.int .i64 x261001_1) := (blk_cell BK260.out 1).trans rfl
                              have hcz17_2 : wr.cell? ⟨gb260, 2, none⟩ = some (.int .i64 x261002_1) := (blk_cell BK260.out 2).trans rfl
                              have hcz17_3 : wr.cell? ⟨gb260, 3, none⟩ = some (u261003) := (blk_cell BK260.out 3).trans rfl
                              have hcz17_4 : wr.cell? ⟨gb260, 4, none⟩ = some (u261004) := (blk_cell BK260.out 4).trans rfl
                              have hfz17_0 := blk_frozen BK260.out 0
                              have hfz17_1 := blk_frozen BK260.out 1
                              have hfz17_2 := blk_frozen BK260.out 2
                              have hfz17_3 := blk_frozen BK260.out 3
                              have hfz17_4 := blk_frozen BK260.out 4
                              obtain ⟨Ao18, co18, eo18⟩ := Kd.V_slice HO_261003.out
                              subst eo18
                              try go_wp2
                              have n0_ := Aside0.mk (Kd.V_drew HO_261003.out)
                              have n1_ := Aside0.mk (Kd.V_drew HO_261004.out)
                              have n2_ := Aside0.mk (blk_drew BK260.out)
                              have n3_ := Aside0.mk (below_drew1 HB.out)
                              clear HO_261003
                              clear HO_261004
                              clear BK260
                              clear HB
                              have HO_261003 := n0_
                              have HO_261004 := n1_
                              have BK260 := n2_
                              have HB := n3_
                              clear n0_ n1_ n2_ n3_
                              have p262 : 0 ≤ (x10_2 : Int) := of_decide_eq_true (by first | (with_reducible assumption) | assumption)
                              have q262 : x10_2 < (x261003_1.length : Int) := of_decide_eq_true (by first | (with_reducible assumption) | assumption)
                              obtain ⟨ad262, e262, hx262_0, hx262_1⟩ := at_T43 (Kd.V_reads' HO_261003.out).2.2 x10_2 p262 q262
                              cases e262
                              replace p262 := eq_true p262
                              replace q262 := eq_true q262
                              have p263 : 0 ≤ (x10_2 : Int) := of_decide_eq_true (by first | (with_reducible assumption) | assumption)
                              have q263 : x10_2 < (x261003_1.length : Int) := of_decide_eq_true (by first | (with_reducible assumption) | assumption)
                              obtain ⟨ad263, e263, hx263_0, hx263_1⟩ := at_T43 (Kd.V_reads' HO_261003.out).2.2 x10_2 p263 q263
                              obtain rfl : ad262 = ad263 := (by injection e263)
                              replace p263 := eq_true p263
                              replace q263 := eq_true q263
                              refine start_ (n := 17) (S := fun w' => w'.cell? ⟨gb260, 0, none⟩ = some (.int .i64 x261000_1) ∧ w'.cell? ⟨gb260, 1, none⟩ = some (.int .i64 x261001_1) ∧ w'.cell? ⟨gb260, 2, none⟩ = some (.int .i64 x261002_1) ∧ w'.cell? ⟨gb260, 3, none⟩ = some (.slice (some ad262) x261003_1.length co18) ∧ w'.cell? ⟨gb260, 4, none⟩ = some (u261004) ∧ w'.cell? (ad262.add ((x10_2).toNat * 2)) = some (.int .i64 ((rd_T43 x261003_1 x10_2).f0)) ∧ w'.cell? ⟨(ad262.add ((x10_2).toNat * 2)).block, (ad262.add ((x10_2).toNat * 2)).off + 1, none⟩ = some (.int .i64 ((rd_T43 x261003_1 x10_2).f1)) ∧ w'.cell? (ad262.add ((x10_2).toNat * 2)) = some (.int .i64 ((rd_T43 x261003_1 x10_2).f0)) ∧ w'.cell? ⟨(ad262.add ((x10_2).toNat * 2)).block, (ad262.add ((x10_2).toNat * 2)).off + 1, none⟩ = some (.int .i64 ((rd_T43 x261003_1 x10_2).f1))) (ds := []) #[false, false, false, false, false, false, false, false, false, false, false, false, false, false, false, false, false] (by kernel_rfl) rfl rfl ⟨(blk_cell BK260.out 0).trans rfl, (blk_cell BK260.out 1).trans rfl, (blk_cell BK260.out 2).trans rfl, (blk_cell BK260.out 3).trans rfl, (blk_cell BK260.out 4).trans rfl, hx262_0, hx262_1, hx263_0, hx263_1⟩ (fun hHeld => ?_); refine with_tabW spec_Once.tab9 spec_Once.bits9 (fun HT_ HW_ => ?_)
                              generalize wr.drew = w19 at HO_261003 HO_261004 BK260 HB hx262_0 hx262_1 hx263_0 hx263_1 hHeld ⊢
                              refine pure_ (i := 0) (N := some 29) (v := ?_) (a' := ?_) #[true, false, false, false, false, false, false, false, false, false, false, false, false, false, false, false, false] rfl rfl (any_of HT_.out (by kernel_rfl)) (fun _ _ _ h => h) (Or.inl ⟨by rfl, ?_⟩) ?_ ?_
                              rotate_left
                              · intro w'
                                go_simp
                                with_reducible rfl
                              rotate_left
                              · simp only [Act.put, List.setIfInBounds_toArray, List.set_cons_zero, List.set_cons_succ, i64_w, i32_w]
                                rfl
                              refine pure_ (i := 1) (N := some 30) (v := ?_) (a' := ?_) #[true, true, false, false, false, false, false, false, false, false, false, false, false, false, false, false, false] rfl rfl (any_of HT_.out (by kernel_rfl)) (fun _ _ _ h => h) (Or.inl ⟨by rfl, ?_⟩) ?_ ?_
                              rotate_left
                              · intro w'
                                go_simp
                                with_reducible rfl
                              rotate_left
                              · simp only [Act.put, List.setIfInBounds_toArray, List.set_cons_zero, List.set_cons_succ, i64_w, i32_w]
                                rfl
                              refine pure_ (i := 3) (N := some 32) (v := ?_) (a' := ?_) #[true, true, false, true, false, false, false, false, false, false, false, false, false, false, false, false, false] rfl rfl (any_of HT_.out (by kernel_rfl)) (fun _ _ _ h => h) (Or.inl ⟨by rfl, ?_⟩) ?_ ?_
                              rotate_left
                              · intro w'
                                go_simp
                                with_reducible rfl
                              rotate_left
                              · simp only [Act.put, List.setIfInBounds_toArray, List.set_cons_zero, List.set_cons_succ, i64_w, i32_w]
                                rfl
                              refine pure_ (i := 7) (N := some 36) (v := ?_) (a' := ?_) #[true, true, false, true, false, false, false, true, false, false, false, false, false, false, false, false, false] rfl rfl (any_of HT_.out (by kernel_rfl)) (fun _ _ _ h => h) (Or.inl ⟨by rfl, ?_⟩) ?_ ?_
                              rotate_left
                              · intro w'
                                go_simp
                                with_reducible rfl
                              rotate_left
                              · simp only [Act.put, List.setIfInBounds_toArray, List.set_cons_zero, List.set_cons_succ, i64_w, i32_w]
                                rfl
                              refine pure_ (i := 9) (N := some 38) (v := ?_) (a' := ?_) #[true, true, false, true, false, false, false, true, false, true, false, false, false, false, false, false, false] rfl rfl (any_of HT_.out (by kernel_rfl)) (fun _ _ _ h => h) (Or.inl ⟨by rfl, ?_⟩) ?_ ?_
                              rotate_left
                              · intro w'
                                go_simp
                                with_reducible rfl
                              rotate_left
                              · simp only [Act.put, List.setIfInBounds_toArray, List.set_cons_zero, List.set_cons_succ, i64_w, i32_w]
                                rfl
                              refine pure_ (i := 15) (N := some 44) (v := ?_) (a' := ?_) #[true, true, false, true, false, false, false, true, false, true, false, false, false, false, false, true, false] rfl rfl (any_of HT_.out (by kernel_rfl)) (fun _ _ _ h => h) (Or.inl ⟨by rfl, ?_⟩) ?_ ?_
                              rotate_left
                              · intro w'
                                go_simp
                                with_reducible rfl
                              rotate_left
                              · simp only [Act.put, List.setIfInBounds_toArray, List.set_cons_zero, List.set_cons_succ, i64_w, i32_w]
                                rfl
                              refine take_ (i := 2) (N := some 31) (v := ?_) (a' := ?_) #[true, true, true, true, false, false, false, true, false, true, false, false, false, false, false, true, false] rfl rfl (take_ofW HT_.out HW_.out (by kernel_rfl)) (fun _ _ _ h => h) (Or.inl ⟨by rfl, ?_⟩) hHeld ?_ ?_
                              rotate_left
                              · rintro w' ⟨s0, s1, s2, s3, s4, s5, s6, s7, s8⟩
                                go_simp
                                with_reducible rfl
                              rotate_left
                              · simp only [Act.put, List.setIfInBounds_toArray, List.set_cons_zero, List.set_cons_succ, i64_w, i32_w]
                                rfl
                              refine pure_ (i := 4) (N := some 33) (v := ?_) (a' := ?_) #[true, true, true, true, true, false, false, true, false, true, false, false, false, false, false, true, false] rfl rfl (any_of HT_.out (by kernel_rfl)) (fun _ _ _ h => h) (Or.inl ⟨by rfl, ?_⟩) ?_ ?_
                              rotate_left
                              · intro w'
                                go_simp
                                with_reducible rfl
                              rotate_left
                              · simp only [Act.put, List.setIfInBounds_toArray, List.set_cons_zero, List.set_cons_succ, i64_w, i32_w]
                                rfl
                              refine pure_ (i := 5) (N := some 34) (v := ?_) (a' := ?_) #[true, true, true, true, true, true, false, true, false, true, false, false, false, false, false, true, false] rfl rfl (any_of HT_.out (by kernel_rfl)) (fun _ _ _ h => h) (Or.inl ⟨by rfl, ?_⟩) ?_ ?_
                              rotate_left
                              · intro w'
                                go_simp
                                with_reducible rfl
                              rotate_left
                              · simp only [Act.put, List.setIfInBounds_toArray, List.set_cons_zero, List.set_cons_succ, i64_w, i32_w]
                                rfl
                              refine take_ (i := 6) (N := some 35) (v := ?_) (a' := ?_) #[true, true, true, true, true, true, true, true, false, true, false, false, false, false, false, true, false] rfl rfl (take_ofW HT_.out HW_.out (by kernel_rfl)) (fun _ _ _ h => h) (Or.inl ⟨by rfl, ?_⟩) hHeld ?_ ?_
                              rotate_left
                              · rintro w' ⟨s0, s1, s2, s3, s4, s5, s6, s7, s8⟩
                                go_simp
                                with_reducible rfl
                              rotate_left
                              · simp only [Act.put, List.setIfInBounds_toArray, List.set_cons_zero, List.set_cons_succ, i64_w, i32_w]
                                rfl
                              refine take_ (i := 8) (N := some 37) (v := ?_) (a' := ?_) #[true, true, true, true, true, true, true, true, true, true, false, false, false, false, false, true, false] rfl rfl (take_ofW HT_.out HW_.out (by kernel_rfl)) (fun _ _ _ h => h) (Or.inl ⟨by rfl, ?_⟩) hHeld ?_ ?_
                              rotate_left
                              · rintro w' ⟨s0, s1, s2, s3, s4, s5, s6, s7, s8⟩
                                go_simp
                                with_reducible rfl
                              rotate_left
                              · simp only [Act.put, List.setIfInBounds_toArray, List.set_cons_zero, List.set_cons_succ, i64_w, i32_w]
                                rfl
                              refine pure_ (i := 10) (N := some 39) (v := ?_) (a' := ?_) #[true, true, true, true, true, true, true, true, true, true, true, false, false, false, false, true, false] rfl rfl (any_of HT_.out (by kernel_rfl)) (fun _ _ _ h => h) (Or.inl ⟨by rfl, ?_⟩) ?_ ?_
                              rotate_left
                              · intro w'
                                go_simp
                                with_reducible rfl
                              rotate_left
                              · simp only [Act.put, List.setIfInBounds_toArray, List.set_cons_zero, List.set_cons_succ, i64_w, i32_w]
                                rfl
                              refine pure_ (i := 11) (N := some 40) (v := ?_) (a' := ?_) #[true, true, true, true, true, true, true, true, true, true, true, true, false, false, false, true, false] rfl rfl (any_of HT_.out (by kernel_rfl)) (fun _ _ _ h => h) (Or.inl ⟨by rfl, ?_⟩) ?_ ?_
                              rotate_left
                              · intro w'
                                go_simp
                                with_reducible rfl
                              rotate_left
                              · simp only [Act.put, List.setIfInBounds_toArray, List.set_cons_zero, List.set_cons_succ, i64_w, i32_w]
                                rfl
                              refine take_ (i := 12) (N := some 41) (v := ?_) (a' := ?_) #[true, true, true, true, true, true, true, true, true, true, true, true, true, false, false, true, false] rfl rfl (take_ofW HT_.out HW_.out (by kernel_rfl)) (fun _ _ _ h => h) (Or.inl ⟨by rfl, ?_⟩) hHeld ?_ ?_
                              rotate_left
                              · rintro w' ⟨s0, s1, s2, s3, s4, s5, s6, s7, s8⟩
                                go_simp
                                with_reducible rfl
                              rotate_left
                              · simp only [Act.put, List.setIfInBounds_toArray, List.set_cons_zero, List.set_cons_succ, i64_w, i32_w]
                                rfl
                              refine pure_ (i := 13) (N := some 42) (v := ?_) (a' := ?_) #[true, true, true, true, true, true, true, true, true, true, true, true, true, true, false, true, false] rfl rfl (any_of HT_.out (by kernel_rfl)) (fun _ _ _ h => h) (Or.inl ⟨by rfl, ?_⟩) ?_ ?_
                              rotate_left
                              · intro w'
                                go_simp
                                with_reducible rfl
                              rotate_left
                              · simp only [Act.put, List.setIfInBounds_toArray, List.set_cons_zero, List.set_cons_succ, i64_w, i32_w]
                                rfl
                              refine one_ (i := 14) (N := some 43) #[true, true, true, true, true, true, true, true, true, true, true, true, true, true, true, true, false] rfl rfl (one_of HT_.out (by kernel_rfl)) (by decide) (fun K hK => ?_)
                              refine goes_ Tryd.func22 (by kernel_rfl) rfl #[.string (a0.extract (((rd_T43 x261003_1 x10_2).f0) : Int).toNat (((rd_T43 x261003_1 x10_2).f1) : Int).toNat)] (by rfl) rfl rfl (by (try simp only [List.map_toArray, List.map_cons, List.map_nil]); first | done | rfl | (simp only [List.length_drop, List.length_take]; rfl)) ?_
                              with_reducible refine (spec_Unquote.calls k2 (a0.extract (((rd_T43 x261003_1 x10_2).f0) : Int).toNat (((rd_T43 x261003_1 x10_2).f1) : Int).toNat) t264 _ A15.out).mono ?_
                              rintro e w20 ⟨rfl, hb⟩
                              have HS5_ := (hb.cell (World.block_lt_of_cell? _ _ (hHeld.2.2.2.2.2.1))).trans (hHeld.2.2.2.2.2.1)
                              have HS6_ := (hb.cell (World.block_lt_of_cell? _ _ (hHeld.2.2.2.2.2.2.1))).trans (hHeld.2.2.2.2.2.2.1)
                              have HS7_ := (hb.cell (World.block_lt_of_cell? _ _ (hHeld.2.2.2.2.2.2.2.1))).trans (hHeld.2.2.2.2.2.2.2.1)
                              have HS8_ := (hb.cell (World.block_lt_of_cell? _ _ (hHeld.2.2.2.2.2.2.2.2))).trans (hHeld.2.2.2.2.2.2.2.2)
                              refine ⟨_, rfl, ?_⟩
                              have n0_ := Aside0.mk (Kd.V_below (by (with_reducible repeat (first | apply Kd.V_alloc | apply Kd.V_drewN | apply Kd.V_drew)); exact HO_261003.out) hb)
                              have n1_ := Aside0.mk (Kd.V_below (by (with_reducible repeat (first | apply Kd.V_alloc | apply Kd.V_drewN | apply Kd.V_drew)); exact HO_261004.out) hb)
                              have n2_ := Aside0.mk (blk_below (g := gb260) (o := .cells #[.int .i64 x261000_1, .int .i64 x261001_1, .int .i64 x261002_1, .slice (some ad262) x261003_1.length co18, u261004] 27 (0, 0)) (by (with_reducible repeat (first | refine blk_drewN ?_ _ | refine blk_drew ?_ | refine blk_alloc ?_ _)); exact BK260.out) hb)
                              have n3_ := Aside0.mk (below_step (by repeat (first | (with_reducible first | exact HB.out | apply below_alloc | apply pw_below_drewN | apply below_drew1 | refine below_set ?_ GE260.out) | exact HB.out)) hb)
                              clear HO_261003
                              clear HO_261004
                              clear BK260
                              clear HB
                              have HO_261003 := n0_
                              have HO_261004 := n1_
                              have BK260 := n2_
                              have HB := n3_
                              clear n0_ n1_ n2_ n3_
                              (try clear hb)
                              (try clear hb2)
                              (try clear hk)
                              (try clear hi)
                              refine hK.out _ _ ⟨(blk_cell BK260.out 0).trans rfl, (blk_cell BK260.out 1).trans rfl, (blk_cell BK260.out 2).trans rfl, (blk_cell BK260.out 3).trans rfl, (blk_cell BK260.out 4).trans rfl, HS5_, HS6_, HS7_, HS8_⟩ (fun hHeld => ?_)
                              clear hK K
                              refine norm_ (a' := ?_) ?_ ?_
                              rotate_left
                              · show Act.put _ (some 43) _ = _
                                simp only [Act.put, List.setIfInBounds_toArray, List.set_cons_zero, List.set_cons_succ, i64_w, i32_w]
                                rfl
                              refine pure_ (i := 16) (N := some 45) (v := ?_) (a' := ?_) #[true, true, true, true, true, true, true, true, true, true, true, true, true, true, true, true, true] rfl rfl (any_of HT_.out (by kernel_rfl)) (fun _ _ _ h => h) (Or.inl ⟨by rfl, ?_⟩) ?_ ?_
                              rotate_left
                              · intro w'
                                go_simp
                                with_reducible rfl
                              rotate_left
                              · simp only [Act.put, List.setIfInBounds_toArray, List.set_cons_zero, List.set_cons_succ, i64_w, i32_w]
                                rfl
                              refine done_ (done_of HT_.out (by kernel_rfl)) ?_
                              try go_wp2
                              go_roundg k2
                              case measure => have := HK1.out; have := HK2.out; omega
                              case rel => exact ⟨(wrap64 (x9_2 + 1)), (wrap64 (x10_2 + 1)), (by first | rfl | (simp; done) | (simp [*]; done)), (by first | rfl | (simp; done) | (simp [*]; done)), H', ⟨by have := HK1.out; have := HK2.out; omega⟩, ⟨by (with_reducible repeat (first | apply Kd.V_alloc | apply Kd.V_drewN | apply Kd.V_drew)); exact HO_261003.out⟩, ⟨by (with_reducible repeat (first | apply Kd.V_alloc | apply Kd.V_drewN | apply Kd.V_drew)); exact HO_261004.out⟩, ⟨by (with_reducible repeat (first | refine blk_drewN ?_ _ | refine blk_drew ?_ | refine blk_alloc ?_ _)); exact BK260.out⟩, ⟨by repeat (first | (with_reducible first | exact HB.out | apply below_alloc | apply pw_below_drewN | apply below_drew1 | refine below_set ?_ GE260.out) | exact HB.out)⟩⟩
                            · rw [if_neg c16] at H
                              have c16b0 : (t264.toList == (rdOf ByteArray.empty l2 x15_1).toList) = false := beq_eq_false_iff_ne.mpr c16
                              have c16b1 : (t264.toList != (rdOf ByteArray.empty l2 x15_1).toList) = true := bne_iff_ne.mpr c16
                              have H' := Aside0.mk H
                              clear H
                              have hcz21_0 : wr.cell? ⟨gb260, 0, none⟩ = some (.int .i64 x261000_1) := (blk_cell BK260.out 0).trans rfl
                              have hcz21_1 : wr.cell? ⟨gb260, 1, none⟩ = some (.int .i64 x261001_1) := (blk_cell BK260.out 1).trans rfl
                              have hcz21_2 : wr.cell? ⟨gb260, 2, none⟩ = some (.int .i64 x261002_1) := (blk_cell BK260.out 2).trans rfl
                              have hcz21_3 : wr.cell? ⟨gb260, 3, none⟩ = some (u261003) := (blk_cell BK260.out 3).trans rfl
                              have hcz21_4 : wr.cell? ⟨gb260, 4, none⟩ = some (u261004) := (blk_cell BK260.out 4).trans rfl
                              have hfz21_0 := blk_frozen BK260.out 0
                              have hfz21_1 := blk_frozen BK260.out 1
                              have hfz21_2 := blk_frozen BK260.out 2
                              have hfz21_3 := blk_frozen BK260.out 3
                              have hfz21_4 := blk_frozen BK260.out 4
                              obtain ⟨Ao22, co22, eo22⟩ := Kd.V_slice HO_261003.out
                              subst eo22
                              try go_wp2
                              have n0_ := Aside0.mk (Kd.V_drew HO_261003.out)
                              have n1_ := Aside0.mk (Kd.V_drew HO_261004.out)
                              have n2_ := Aside0.mk (blk_drew BK260.out)
                              have n3_ := Aside0.mk (below_drew1 HB.out)
                              clear HO_261003
                              clear HO_261004
                              clear BK260
                              clear HB
                              have HO_261003 := n0_
                              have HO_261004 := n1_
                              have BK260 := n2_
                              have HB := n3_
                              clear n0_ n1_ n2_ n3_
                              have p262 : 0 ≤ (x10_2 : Int) := of_decide_eq_true (by first | (with_reducible assumption) | assumption)
                              have q262 : x10_2 < (x261003_1.length : Int) := of_decide_eq_true (by first | (with_reducible assumption) | assumption)
                              obtain ⟨ad262, e262, hx262_0, hx262_1⟩ := at_T43 (Kd.V_reads' HO_261003.out).2.2 x10_2 p262 q262
                              cases e262
                              replace p262 := eq_true p262
                              replace q262 := eq_true q262
                              have p263 : 0 ≤ (x10_2 : Int) := of_decide_eq_true (by first | (with_reducible assumption) | assumption)
                              have q263 : x10_2 < (x261003_1.length : Int) := of_decide_eq_true (by first | (with_reducible assumption) | assumption)
                              obtain ⟨ad263, e263, hx263_0, hx263_1⟩ := at_T43 (Kd.V_reads' HO_261003.out).2.2 x10_2 p263 q263
                              obtain rfl : ad262 = ad263 := (by injection e263)
                              replace p263 := eq_true p263
                              replace q263 := eq_true q263
                              refine start_ (n := 17) (S := fun w' => w'.cell? ⟨gb260, 0, none⟩ = some (.int .i64 x261000_1) ∧ w'.cell? ⟨gb260, 1, none⟩ = some (.int .i64 x261001_1) ∧ w'.cell? ⟨gb260, 2, none⟩ = some (.int .i64 x261002_1) ∧ w'.cell? ⟨gb260, 3, none⟩ = some (.slice (some ad262) x261003_1.length co22) ∧ w'.cell? ⟨gb260, 4, none⟩ = some (u261004) ∧ w'.cell? (ad262.add ((x10_2).toNat * 2)) = some (.int .i64 ((rd_T43 x261003_1 x10_2).f0)) ∧ w'.cell? ⟨(ad262.add ((x10_2).toNat * 2)).block, (ad262.add ((x10_2).toNat * 2)).off + 1, none⟩ = some (.int .i64 ((rd_T43 x261003_1 x10_2).f1)) ∧ w'.cell? (ad262.add ((x10_2).toNat * 2)) = some (.int .i64 ((rd_T43 x261003_1 x10_2).f0)) ∧ w'.cell? ⟨(ad262.add ((x10_2).toNat * 2)).block, (ad262.add ((x10_2).toNat * 2)).off + 1, none⟩ = some (.int .i64 ((rd_T43 x261003_1 x10_2).f1))) (ds := []) #[false, false, false, false, false, false, false, false, false, false, false, false, false, false, false, false, false] (by kernel_rfl) rfl rfl ⟨(blk_cell BK260.out 0).trans rfl, (blk_cell BK260.out 1).trans rfl, (blk_cell BK260.out 2).trans rfl, (blk_cell BK260.out 3).trans rfl, (blk_cell BK260.out 4).trans rfl, hx262_0, hx262_1, hx263_0, hx263_1⟩ (fun hHeld => ?_); refine with_tabW spec_Once.tab9 spec_Once.bits9 (fun HT_ HW_ => ?_)
                              generalize wr.drew = w23 at HO_261003 HO_261004 BK260 HB hx262_0 hx262_1 hx263_0 hx263_1 hHeld ⊢
                              refine pure_ (i := 0) (N := some 29) (v := ?_) (a' := ?_) #[true, false, false, false, false, false, false, false, false, false, false, false, false, false, false, false, false] rfl rfl (any_of HT_.out (by kernel_rfl)) (fun _ _ _ h => h) (Or.inl ⟨by rfl, ?_⟩) ?_ ?_
                              rotate_left
                              · intro w'
                                go_simp
                                with_reducible rfl
                              rotate_left
                              · simp only [Act.put, List.setIfInBounds_toArray, List.set_cons_zero, List.set_cons_succ, i64_w, i32_w]
                                rfl
                              refine pure_ (i := 1) (N := some 30) (v := ?_) (a' := ?_) #[true, true, false, false, false, false, false, false, false, false, false, false, false, false, false, false, false] rfl rfl (any_of HT_.out (by kernel_rfl)) (fun _ _ _ h => h) (Or.inl ⟨by rfl, ?_⟩) ?_ ?_
                              rotate_left
                              · intro w'
                                go_simp
                                with_reducible rfl
                              rotate_left
                              · simp only [Act.put, List.setIfInBounds_toArray, List.set_cons_zero, List.set_cons_succ, i64_w, i32_w]
                                rfl
                              refine pure_ (i := 3) (N := some 32) (v := ?_) (a' := ?_) #[true, true, false, true, false, false, false, false, false, false, false, false, false, false, false, false, false] rfl rfl (any_of HT_.out (by kernel_rfl)) (fun _ _ _ h => h) (Or.inl ⟨by rfl, ?_⟩) ?_ ?_
                              rotate_left
                              · intro w'
                                go_simp
                                with_reducible rfl
                              rotate_left
                              · simp only [Act.put, List.setIfInBounds_toArray, List.set_cons_zero, List.set_cons_succ, i64_w, i32_w]
                                rfl
                              refine pure_ (i := 7) (N := some 36) (v := ?_) (a' := ?_) #[true, true, false, true, false, false, false, true, false, false, false, false, false, false, false, false, false] rfl rfl (any_of HT_.out (by kernel_rfl)) (fun _ _ _ h => h) (Or.inl ⟨by rfl, ?_⟩) ?_ ?_
                              rotate_left
                              · intro w'
                                go_simp
                                with_reducible rfl
                              rotate_left
                              · simp only [Act.put, List.setIfInBounds_toArray, List.set_cons_zero, List.set_cons_succ, i64_w, i32_w]
                                rfl
                              refine pure_ (i := 9) (N := some 38) (v := ?_) (a' := ?_) #[true, true, false, true, false, false, false, true, false, true, false, false, false, false, false, false, false] rfl rfl (any_of HT_.out (by kernel_rfl)) (fun _ _ _ h => h) (Or.inl ⟨by rfl, ?_⟩) ?_ ?_
                              rotate_left
                              · intro w'
                                go_simp
                                with_reducible rfl
                              rotate_left
                              · simp only [Act.put, List.setIfInBounds_toArray, List.set_cons_zero, List.set_cons_succ, i64_w, i32_w]
                                rfl
                              refine pure_ (i := 15) (N := some 44) (v := ?_) (a' := ?_) #[true, true, false, true, false, false, false, true, false, true, false, false, false, false, false, true, false] rfl rfl (any_of HT_.out (by kernel_rfl)) (fun _ _ _ h => h) (Or.inl ⟨by rfl, ?_⟩) ?_ ?_
                              rotate_left
                              · intro w'
                                go_simp
                                with_reducible rfl
                              rotate_left
                              · simp only [Act.put, List.setIfInBounds_toArray, List.set_cons_zero, List.set_cons_succ, i64_w, i32_w]
                                rfl
                              refine take_ (i := 2) (N := some 31) (v := ?_) (a' := ?_) #[true, true, true, true, false, false, false, true, false, true, false, false, false, false, false, true, false] rfl rfl (take_ofW HT_.out HW_.out (by kernel_rfl)) (fun _ _ _ h => h) (Or.inl ⟨by rfl, ?_⟩) hHeld ?_ ?_
                              rotate_left
                              · rintro w' ⟨s0, s1, s2, s3, s4, s5, s6, s7, s8⟩
                                go_simp
                                with_reducible rfl
                              rotate_left
                              · simp only [Act.put, List.setIfInBounds_toArray, List.set_cons_zero, List.set_cons_succ, i64_w, i32_w]
                                rfl
                              refine pure_ (i := 4) (N := some 33) (v := ?_) (a' := ?_) #[true, true, true, true, true, false, false, true, false, true, false, false, false, false, false, true, false] rfl rfl (any_of HT_.out (by kernel_rfl)) (fun _ _ _ h => h) (Or.inl ⟨by rfl, ?_⟩) ?_ ?_
                              rotate_left
                              · intro w'
                                go_simp
                                with_reducible rfl
                              rotate_left
                              · simp only [Act.put, List.setIfInBounds_toArray, List.set_cons_zero, List.set_cons_succ, i64_w, i32_w]
                                rfl
                              refine pure_ (i := 5) (N := some 34) (v := ?_) (a' := ?_) #[true, true, true, true, true, true, false, true, false, true, false, false, false, false, false, true, false] rfl rfl (any_of HT_.out (by kernel_rfl)) (fun _ _ _ h => h) (Or.inl ⟨by rfl, ?_⟩) ?_ ?_
                              rotate_left
                              · intro w'
                                go_simp
                                with_reducible rfl
                              rotate_left
                              · simp only [Act.put, List.setIfInBounds_toArray, List.set_cons_zero, List.set_cons_succ, i64_w, i32_w]
                                rfl
                              refine take_ (i := 6) (N := some 35) (v := ?_) (a' := ?_) #[true, true, true, true, true, true, true, true, false, true, false, false, false, false, false, true, false] rfl rfl (take_ofW HT_.out HW_.out (by kernel_rfl)) (fun _ _ _ h => h) (Or.inl ⟨by rfl, ?_⟩) hHeld ?_ ?_
                              rotate_left
                              · rintro w' ⟨s0, s1, s2, s3, s4, s5, s6, s7, s8⟩
                                go_simp
                                with_reducible rfl
                              rotate_left
                              · simp only [Act.put, List.setIfInBounds_toArray, List.set_cons_zero, List.set_cons_succ, i64_w, i32_w]
                                rfl
                              refine take_ (i := 8) (N := some 37) (v := ?_) (a' := ?_) #[true, true, true, true, true, true, true, true, true, true, false, false, false, false, false, true, false] rfl rfl (take_ofW HT_.out HW_.out (by kernel_rfl)) (fun _ _ _ h => h) (Or.inl ⟨by rfl, ?_⟩) hHeld ?_ ?_
                              rotate_left
                              · rintro w' ⟨s0, s1, s2, s3, s4, s5, s6, s7, s8⟩
                                go_simp
                                with_reducible rfl
                              rotate_left
                              · simp only [Act.put, List.setIfInBounds_toArray, List.set_cons_zero, List.set_cons_succ, i64_w, i32_w]
                                rfl
                              refine pure_ (i := 10) (N := some 39) (v := ?_) (a' := ?_) #[true, true, true, true, true, true, true, true, true, true, true, false, false, false, false, true, false] rfl rfl (any_of HT_.out (by kernel_rfl)) (fun _ _ _ h => h) (Or.inl ⟨by rfl, ?_⟩) ?_ ?_
                              rotate_left
                              · intro w'
                                go_simp
                                with_reducible rfl
                              rotate_left
                              · simp only [Act.put, List.setIfInBounds_toArray, List.set_cons_zero, List.set_cons_succ, i64_w, i32_w]
                                rfl
                              refine pure_ (i := 11) (N := some 40) (v := ?_) (a' := ?_) #[true, true, true, true, true, true, true, true, true, true, true, true, false, false, false, true, false] rfl rfl (any_of HT_.out (by kernel_rfl)) (fun _ _ _ h => h) (Or.inl ⟨by rfl, ?_⟩) ?_ ?_
                              rotate_left
                              · intro w'
                                go_simp
                                with_reducible rfl
                              rotate_left
                              · simp only [Act.put, List.setIfInBounds_toArray, List.set_cons_zero, List.set_cons_succ, i64_w, i32_w]
                                rfl
                              refine take_ (i := 12) (N := some 41) (v := ?_) (a' := ?_) #[true, true, true, true, true, true, true, true, true, true, true, true, true, false, false, true, false] rfl rfl (take_ofW HT_.out HW_.out (by kernel_rfl)) (fun _ _ _ h => h) (Or.inl ⟨by rfl, ?_⟩) hHeld ?_ ?_
                              rotate_left
                              · rintro w' ⟨s0, s1, s2, s3, s4, s5, s6, s7, s8⟩
                                go_simp
                                with_reducible rfl
                              rotate_left
                              · simp only [Act.put, List.setIfInBounds_toArray, List.set_cons_zero, List.set_cons_succ, i64_w, i32_w]
                                rfl
                              refine pure_ (i := 13) (N := some 42) (v := ?_) (a' := ?_) #[true, true, true, true, true, true, true, true, true, true, true, true, true, true, false, true, false] rfl rfl (any_of HT_.out (by kernel_rfl)) (fun _ _ _ h => h) (Or.inl ⟨by rfl, ?_⟩) ?_ ?_
                              rotate_left
                              · intro w'
                                go_simp
                                with_reducible rfl
                              rotate_left
                              · simp only [Act.put, List.setIfInBounds_toArray, List.set_cons_zero, List.set_cons_succ, i64_w, i32_w]
                                rfl
                              refine one_ (i := 14) (N := some 43) #[true, true, true, true, true, true, true, true, true, true, true, true, true, true, true, true, false] rfl rfl (one_of HT_.out (by kernel_rfl)) (by decide) (fun K hK => ?_)
                              refine goes_ Tryd.func22 (by kernel_rfl) rfl #[.string (a0.extract (((rd_T43 x261003_1 x10_2).f0) : Int).toNat (((rd_T43 x261003_1 x10_2).f1) : Int).toNat)] (by rfl) rfl rfl (by (try simp only [List.map_toArray, List.map_cons, List.map_nil]); first | done | rfl | (simp only [List.length_drop, List.length_take]; rfl)) ?_
                              with_reducible refine (spec_Unquote.calls k2 (a0.extract (((rd_T43 x261003_1 x10_2).f0) : Int).toNat (((rd_T43 x261003_1 x10_2).f1) : Int).toNat) t264 _ A15.out).mono ?_
                              rintro e w24 ⟨rfl, hb⟩
                              have HS5_ := (hb.cell (World.block_lt_of_cell? _ _ (hHeld.2.2.2.2.2.1))).trans (hHeld.2.2.2.2.2.1)
                              have HS6_ := (hb.cell (World.block_lt_of_cell? _ _ (hHeld.2.2.2.2.2.2.1))).trans (hHeld.2.2.2.2.2.2.1)
                              have HS7_ := (hb.cell (World.block_lt_of_cell? _ _ (hHeld.2.2.2.2.2.2.2.1))).trans (hHeld.2.2.2.2.2.2.2.1)
                              have HS8_ := (hb.cell (World.block_lt_of_cell? _ _ (hHeld.2.2.2.2.2.2.2.2))).trans (hHeld.2.2.2.2.2.2.2.2)
                              refine ⟨_, rfl, ?_⟩
                              have n0_ := Aside0.mk (Kd.V_below (by (with_reducible repeat (first | apply Kd.V_alloc | apply Kd.V_drewN | apply Kd.V_drew)); exact HO_261003.out) hb)
                              have n1_ := Aside0.mk (Kd.V_below (by (with_reducible repeat (first | apply Kd.V_alloc | apply Kd.V_drewN | apply Kd.V_drew)); exact HO_261004.out) hb)
                              have n2_ := Aside0.mk (blk_below (g := gb260) (o := .cells #[.int .i64 x261000_1, .int .i64 x261001_1, .int .i64 x261002_1, .slice (some ad262) x261003_1.length co22, u261004] 27 (0, 0)) (by (with_reducible repeat (first | refine blk_drewN ?_ _ | refine blk_drew ?_ | refine blk_alloc ?_ _)); exact BK260.out) hb)
                              have n3_ := Aside0.mk (below_step (by repeat (first | (with_reducible first | exact HB.out | apply below_alloc | apply pw_below_drewN | apply below_drew1 | refine below_set ?_ GE260.out) | exact HB.out)) hb)
                              clear HO_261003
                              clear HO_261004
                              clear BK260
                              clear HB
                              have HO_261003 := n0_
                              have HO_261004 := n1_
                              have BK260 := n2_
                              have HB := n3_
                              clear n0_ n1_ n2_ n3_
                              (try clear hb)
                              (try clear hb2)
                              (try clear hk)
                              (try clear hi)
                              refine hK.out _ _ ⟨(blk_cell BK260.out 0).trans rfl, (blk_cell BK260.out 1).trans rfl, (blk_cell BK260.out 2).trans rfl, (blk_cell BK260.out 3).trans rfl, (blk_cell BK260.out 4).trans rfl, HS5_, HS6_, HS7_, HS8_⟩ (fun hHeld => ?_)
                              clear hK K
                              refine norm_ (a' := ?_) ?_ ?_
                              rotate_left
                              · show Act.put _ (some 43) _ = _
                                simp only [Act.put, List.setIfInBounds_toArray, List.set_cons_zero, List.set_cons_succ, i64_w, i32_w]
                                rfl
                              refine pure_ (i := 16) (N := some 45) (v := ?_) (a' := ?_) #[true, true, true, true, true, true, true, true, true, true, true, true, true, true, true, true, true] rfl rfl (any_of HT_.out (by kernel_rfl)) (fun _ _ _ h => h) (Or.inl ⟨by rfl, ?_⟩) ?_ ?_
                              rotate_left
                              · intro w'
                                go_simp
                                with_reducible rfl
                              rotate_left
                              · simp only [Act.put, List.setIfInBounds_toArray, List.set_cons_zero, List.set_cons_succ, i64_w, i32_w]
                                rfl
                              refine done_ (done_of HT_.out (by kernel_rfl)) ?_
                              try go_wp2
                              go_roundg k2
                              case measure => have := HK1.out; have := HK2.out; omega
                              case rel => exact ⟨(x9_2), (wrap64 (x10_2 + 1)), (by first | rfl | (simp; done) | (simp [*]; done)), (by first | rfl | (simp; done) | (simp [*]; done)), H', ⟨by have := HK1.out; have := HK2.out; omega⟩, ⟨by (with_reducible repeat (first | apply Kd.V_alloc | apply Kd.V_drewN | apply Kd.V_drew)); exact HO_261003.out⟩, ⟨by (with_reducible repeat (first | apply Kd.V_alloc | apply Kd.V_drewN | apply Kd.V_drew)); exact HO_261004.out⟩, ⟨by (with_reducible repeat (first | refine blk_drewN ?_ _ | refine blk_drew ?_ | refine blk_alloc ?_ _)); exact BK260.out⟩, ⟨by repeat (first | (with_reducible first | exact HB.out | apply below_alloc | apply pw_below_drewN | apply below_drew1 | refine below_set ?_ GE260.out) | exact HB.out)⟩⟩
                          · rw [if_neg c14] at H
                            exact absurd H (by simp)
                        · rw [if_neg c13] at H
                          exact absurd H (by simp)
                      · rw [if_neg c12] at H
                        exact absurd H (by simp)
                    · rw [if_neg c11] at H
                      exact absurd H (by simp)
                  · rw [if_neg c10] at H
                    have c10b0 : decide (x10_2 < (x261003_1.length : Int)) = false := decide_eq_false c10
                    clear c10
                    by_cases c25 : x9_2 > 1
                    · rw [if_pos c25] at H
                      have c25b0 : decide (1 < x9_2) = true := decide_eq_true c25
                      clear c25
                      obtain rfl := Option.some.inj H
                      have hcz26_0 : wr.cell? ⟨gb260, 0, none⟩ = some (.int .i64 x261000_1) := (blk_cell BK260.out 0).trans rfl
                      have hcz26_1 : wr.cell? ⟨gb260, 1, none⟩ = some (.int .i64 x261001_1) := (blk_cell BK260.out 1).trans rfl
                      have hcz26_2 : wr.cell? ⟨gb260, 2, none⟩ = some (.int .i64 x261002_1) := (blk_cell BK260.out 2).trans rfl
                      have hcz26_3 : wr.cell? ⟨gb260, 3, none⟩ = some (u261003) := (blk_cell BK260.out 3).trans rfl
                      have hcz26_4 : wr.cell? ⟨gb260, 4, none⟩ = some (u261004) := (blk_cell BK260.out 4).trans rfl
                      have hfz26_0 := blk_frozen BK260.out 0
                      have hfz26_1 := blk_frozen BK260.out 1
                      have hfz26_2 := blk_frozen BK260.out 2
                      have hfz26_3 := blk_frozen BK260.out 3
                      have hfz26_4 := blk_frozen BK260.out 4
                      obtain ⟨Ao27, co27, eo27⟩ := Kd.V_slice HO_261003.out
                      subst eo27
                      go_wp2
                      go_ret
                      exact ⟨by first | rfl | (simp [errW_none, errW_some] <;> rfl) | (simp [*, errW_none, errW_some] <;> rfl), by repeat (first | (with_reducible first | exact HB.out | apply below_alloc | apply pw_below_drewN | apply below_drew1 | refine below_set ?_ GE260.out) | exact HB.out)⟩
                    · rw [if_neg c25] at H
                      have c25b0 : decide (1 < x9_2) = false := decide_eq_false c25
                      clear c25
                      replace H := Option.bind_eq_some_iff.mp H
                      obtain ⟨⟨t265, t266, t267, t268, t271, t274⟩, A280, H⟩ := H
                      replace H : (if t274 = true then (spec_Once.l0 k2 a0 l2 (l2.length : Int) (wrap64 (x15_1 + 1)) t265 t266 t267 t268 t271) else (some true)) = some r := H
                      have A28 := Aside0.mk A280
                      clear A280
                      by_cases c29 : t274 = true
                      · subst c29
                        have H1 : (spec_Once.l0 k2 a0 l2 (l2.length : Int) (wrap64 (x15_1 + 1)) t265 t266 t267 t268 t271) = some r := by rw [if_pos rfl] at H; exact H
                        clear H
                        have H := H1
                        clear H1
                        have H' := Aside0.mk H
                        clear H
                        have hcz30_0 : wr.cell? ⟨gb260, 0, none⟩ = some (.int .i64 x261000_1) := (blk_cell BK260.out 0).trans rfl
                        have hcz30_1 : wr.cell? ⟨gb260, 1, none⟩ = some (.int .i64 x261001_1) := (blk_cell BK260.out 1).trans rfl
                        have hcz30_2 : wr.cell? ⟨gb260, 2, none⟩ = some (.int .i64 x261002_1) := (blk_cell BK260.out 2).trans rfl
                        have hcz30_3 : wr.cell? ⟨gb260, 3, none⟩ = some (u261003) := (blk_cell BK260.out 3).trans rfl
                        have hcz30_4 : wr.cell? ⟨gb260, 4, none⟩ = some (u261004) := (blk_cell BK260.out 4).trans rfl
                        have hfz30_0 := blk_frozen BK260.out 0
                        have hfz30_1 := blk_frozen BK260.out 1
                        have hfz30_2 := blk_frozen BK260.out 2
                        have hfz30_3 := blk_frozen BK260.out 3
                        have hfz30_4 := blk_frozen BK260.out 4
                        obtain ⟨Ao31, co31, eo31⟩ := Kd.V_slice HO_261003.out
                        subst eo31
                        obtain ⟨Ao32, co32, eo32⟩ := Kd.V_slice HO_261004.out
                        subst eo32
                        go_wp2_with (first | ((with_reducible refine gate_callee (f := 26) rfl ?_); refine goesL_ (some 54) rfl rfl Tryd.func26 (by kernel_rfl) rfl #[.string a0, .agg #[.int .i64 x261000_1, .int .i64 x261001_1, .int .i64 x261002_1, .slice Ao31 x261003_1.length co31, .slice Ao32 x261004_1.length co32], .string (rdOf ByteArray.empty l2 x15_1)] rfl (by (try simp only [List.map_toArray, List.map_cons, List.map_nil]); first | done | rfl | (simp only [List.length_drop, List.length_take]; rfl)) ?_; (with_reducible refine (spec_Step.calls k2 a0 x261000_1 x261001_1 x261002_1 _ _ x261003_1 (fun k_ => (((P1_3_ k_ ∨ P1_4_ k_) ∨ w.heap.size ≤ k_) ∧ k_ ≠ gb260)) _ _ x261004_1 (rdOf ByteArray.empty l2 x15_1) t265 t266 t267 t268 t271 true _ ?side1 ?side2 ?side3 A28.out).mono ?_); (case side1 => repeat (first | exact (Kd.V_reads' HO_261003.out).2.2 | (with_reducible refine Kd.C_alloc ?_ _) | (with_reducible refine Kd.C_drewN ?_ _) | (with_reducible refine Kd.C_drew ?_))); (case side2 => exact (Kd.V_reads' HO_261003.out).2.1); (case side3 => exact HO_261004.out); rintro e w33 ⟨v269, v272, rfl, ho0, ho1, hb⟩; refine ⟨_, rfl, ?_⟩; have n0_ := Aside0.mk (Kd.V_below (by (with_reducible repeat (first | apply Kd.V_alloc | apply Kd.V_drewN | apply Kd.V_drew)); exact HO_261003.out) hb); have n1_ := Aside0.mk (Kd.V_below (by (with_reducible repeat (first | apply Kd.V_alloc | apply Kd.V_drewN | apply Kd.V_drew)); exact HO_261004.out) hb); have n2_ := Aside0.mk (Kd.V_lower (Kd.V_mono (ok' := fun k_ => ((P1_3_ k_ ∨ P1_4_ k_) ∨ w.heap.size ≤ k_) ∧ k_ ≠ gb260) ho0 (fun k_ hk_ => ⟨Or.elim hk_ (fun hs_ => hs_.1) (fun hn_ => (.inr (Nat.le_trans (below_size (by repeat (first | (with_reducible first | exact HB.out | apply below_alloc | apply pw_below_drewN | apply below_drew1 | refine below_set ?_ GE260.out) | exact HB.out))) hn_))), Or.elim hk_ (fun hs_ => hs_.2) (fun hn_ => (Kd.freshB (g := gb260) (o := .cells #[.int .i64 x261000_1, .int .i64 x261001_1, .int .i64 x261002_1, .slice Ao31 x261003_1.length co31, .slice Ao32 x261004_1.length co32] 27 (0, 0)) (by (with_reducible repeat (first | refine blk_drewN ?_ _ | refine blk_drew ?_ | refine blk_alloc ?_ _)); exact BK260.out) k_ hn_))⟩)) (below_size (by repeat (first | (with_reducible first | exact HB.out | apply below_alloc | apply pw_below_drewN | apply below_drew1 | refine below_set ?_ GE260.out) | exact HB.out)))); have n3_ := Aside0.mk (Kd.V_lower (Kd.V_mono (ok' := fun k_ => ((P1_3_ k_ ∨ P1_4_ k_) ∨ w.heap.size ≤ k_) ∧ k_ ≠ gb260) ho1 (fun k_ hk_ => ⟨Or.elim hk_ (fun hs_ => hs_.1) (fun hn_ => (.inr (Nat.le_trans (below_size (by repeat (first | (with_reducible first | exact HB.out | apply below_alloc | apply pw_below_drewN | apply below_drew1 | refine below_set ?_ GE260.out) | exact HB.out))) hn_))), Or.elim hk_ (fun hs_ => hs_.2) (fun hn_ => (Kd.freshB (g := gb260) (o := .cells #[.int .i64 x261000_1, .int .i64 x261001_1, .int .i64 x261002_1, .slice Ao31 x261003_1.length co31, .slice Ao32 x261004_1.length co32] 27 (0, 0)) (by (with_reducible repeat (first | refine blk_drewN ?_ _ | refine blk_drew ?_ | refine blk_alloc ?_ _)); exact BK260.out) k_ hn_))⟩)) (below_size (by repeat (first | (with_reducible first | exact HB.out | apply below_alloc | apply pw_below_drewN | apply below_drew1 | refine below_set ?_ GE260.out) | exact HB.out)))); have n4_ := Aside0.mk (blk_below (g := gb260) (o := .cells #[.int .i64 x261000_1, .int .i64 x261001_1, .int .i64 x261002_1, .slice Ao31 x261003_1.length co31, .slice Ao32 x261004_1.length co32] 27 (0, 0)) (by (with_reducible repeat (first | refine blk_drewN ?_ _ | refine blk_drew ?_ | refine blk_alloc ?_ _)); exact BK260.out) hb); have n5_ := Aside0.mk (below_step (by repeat (first | (with_reducible first | exact HB.out | apply below_alloc | apply pw_below_drewN | apply below_drew1 | refine below_set ?_ GE260.out) | exact HB.out)) hb); clear HO_261003; clear HO_261004; clear BK260; clear HB; have HO_261003 := n0_; have HO_261004 := n1_; have HO270 := n2_; have HO273 := n3_; have BK260 := n4_; have HB := n5_; clear n0_ n1_ n2_ n3_ n4_ n5_; (try clear hb); (try clear hb2); (try clear hk); (try clear hi); (try clear ho0); (try clear ho1)) | ((with_reducible refine gate_dst (N := 11) rfl ?_); refine box_event ?hg (N := 11) ?hd (cs := #[.int .i64 0, .int .i64 0, .int .i64 0, .slice none 0 0, .slice none 0 0]) (t := 27) ?hr ?_; (case hd => rfl); (case hg => rfl); (case hr => first | (go_simp; done) | (go_simp; rfl)); intro gb275 hg w34 hbox hb; have n0_ := Aside0.mk (Kd.V_below (Kd.V_elderB (by (with_reducible repeat (first | apply Kd.V_alloc | apply Kd.V_drewN | apply Kd.V_drew)); exact HO_261003.out) gb275 (Nat.le_of_eq hg.symm)) hb); have n1_ := Aside0.mk (Kd.V_below (Kd.V_elderB (by (with_reducible repeat (first | apply Kd.V_alloc | apply Kd.V_drewN | apply Kd.V_drew)); exact HO_261004.out) gb275 (Nat.le_of_eq hg.symm)) hb); have n2_ := Aside0.mk (Kd.V_below (Kd.V_elderB (by (with_reducible repeat (first | apply Kd.V_alloc | apply Kd.V_drewN | apply Kd.V_drew)); exact HO270.out) gb275 (Nat.le_of_eq hg.symm)) hb); have n3_ := Aside0.mk (Kd.V_below (Kd.V_elderB (by (with_reducible repeat (first | apply Kd.V_alloc | apply Kd.V_drewN | apply Kd.V_drew)); exact HO273.out) gb275 (Nat.le_of_eq hg.symm)) hb); have n4_ := Aside0.mk (blk_below (g := gb260) (o := .cells #[.int .i64 x261000_1, .int .i64 x261001_1, .int .i64 x261002_1, .slice Ao31 x261003_1.length co31, .slice Ao32 x261004_1.length co32] 27 (0, 0)) (by (with_reducible repeat (first | refine blk_drewN ?_ _ | refine blk_drew ?_ | refine blk_alloc ?_ _)); exact BK260.out) hb); have n5_ := Aside0.mk (below_step (by repeat (first | (with_reducible first | exact HB.out | apply below_alloc | apply pw_below_drewN | apply below_drew1 | refine below_set ?_ GE260.out) | exact HB.out)) hb); have n6_ := Aside0.mk (hbox); have n7_ := Aside0.mk ((by rw [hg]; exact (below_size (by repeat (first | (with_reducible first | exact HB.out | apply below_alloc | apply pw_below_drewN | apply below_drew1 | refine below_set ?_ GE260.out) | exact HB.out))) : w.heap.size ≤ gb275)); have n8_ := Aside0.mk ((by rw [hg]; exact (below_size (by repeat (first | (with_reducible first | exact HB.out | apply below_alloc | apply pw_below_drewN | apply below_drew1 | refine below_set ?_ GE260.out) | exact HB.out))) : w.heap.size ≤ gb275)); have n9_ := Aside0.mk ((by rw [hg]; exact Nat.ne_of_lt (blk_lt (g := gb260) (o := .cells #[.int .i64 x261000_1, .int .i64 x261001_1, .int .i64 x261002_1, .slice Ao31 x261003_1.length co31, .slice Ao32 x261004_1.length co32] 27 (0, 0)) (by (with_reducible repeat (first | refine blk_drewN ?_ _ | refine blk_drew ?_ | refine blk_alloc ?_ _)); exact BK260.out)) : gb260 ≠ gb275)); have n10_ := Aside0.mk ((by rw [hg]; exact Nat.ne_of_gt (blk_lt (g := gb260) (o := .cells #[.int .i64 x261000_1, .int .i64 x261001_1, .int .i64 x261002_1, .slice Ao31 x261003_1.length co31, .slice Ao32 x261004_1.length co32] 27 (0, 0)) (by (with_reducible repeat (first | refine blk_drewN ?_ _ | refine blk_drew ?_ | refine blk_alloc ?_ _)); exact BK260.out)) : gb275 ≠ gb260)); clear HO_261003; clear HO_261004; clear HO270; clear HO273; clear BK260; clear HB; have HO_261003 := n0_; have HO_261004 := n1_; have HO270 := n2_; have HO273 := n3_; have BK260 := n4_; have HB := n5_; have BK275 := n6_; have GW275 := n7_; have GE275 := n8_; have NB260_275 := n9_; have NB275_260 := n10_; clear n0_ n1_ n2_ n3_ n4_ n5_ n6_ n7_ n8_ n9_ n10_; clear hb hbox hg; have hnb35 := NB275_260.out; have hnc35 := NB260_275.out; have hcz36_0 : w34.cell? ⟨gb275, 0, none⟩ = some (.int .i64 0) := (blk_cell BK275.out 0).trans rfl; have hcz36_1 : w34.cell? ⟨gb275, 1, none⟩ = some (.int .i64 0) := (blk_cell BK275.out 1).trans rfl; have hcz36_2 : w34.cell? ⟨gb275, 2, none⟩ = some (.int .i64 0) := (blk_cell BK275.out 2).trans rfl; have hcz36_3 : w34.cell? ⟨gb275, 3, none⟩ = some (.slice none 0 0) := (blk_cell BK275.out 3).trans rfl; have hcz36_4 : w34.cell? ⟨gb275, 4, none⟩ = some (.slice none 0 0) := (blk_cell BK275.out 4).trans rfl; have hfz36_0 := blk_frozen BK275.out 0; have hfz36_1 := blk_frozen BK275.out 1; have hfz36_2 := blk_frozen BK275.out 2; have hfz36_3 := blk_frozen BK275.out 3; have hfz36_4 := blk_frozen BK275.out 4; obtain ⟨Ao37, co37, eo37⟩ := Kd.V_slice HO270.out; subst eo37; obtain ⟨Ao38, co38, eo38⟩ := Kd.V_slice HO273.out; subst eo38; have hcz39_0 : w34.cell? ⟨gb260, 0, none⟩ = some (.int .i64 x261000_1) := (blk_cell BK260.out 0).trans rfl; have hcz39_1 : w34.cell? ⟨gb260, 1, none⟩ = some (.int .i64 x261001_1) := (blk_cell BK260.out 1).trans rfl; have hcz39_2 : w34.cell? ⟨gb260, 2, none⟩ = some (.int .i64 x261002_1) := (blk_cell BK260.out 2).trans rfl; have hcz39_3 : w34.cell? ⟨gb260, 3, none⟩ = some (.slice Ao31 x261003_1.length co31) := (blk_cell BK260.out 3).trans rfl; have hcz39_4 : w34.cell? ⟨gb260, 4, none⟩ = some (.slice Ao32 x261004_1.length co32) := (blk_cell BK260.out 4).trans rfl; have hfz39_0 := blk_frozen BK260.out 0; have hfz39_1 := blk_frozen BK260.out 1; have hfz39_2 := blk_frozen BK260.out 2; have hfz39_3 := blk_frozen BK260.out 3; have hfz39_4 := blk_frozen BK260.out 4))
                        go_roundg k2
                        case measure => have := HK1.out; have := HK2.out; omega
                        case rel => exact ⟨(wrap64 (x15_1 + 1)), (t265), (t266), (t267), (t268), (t271), (.slice Ao37 t268.length co37), (.slice Ao38 t271.length co38), (by first | rfl | (simp; done) | (simp [*]; done)), H', ⟨by have := HK1.out; have := HK2.out; omega⟩, ⟨by (with_reducible repeat (first | apply Kd.V_alloc | apply Kd.V_drewN | apply Kd.V_drew)); exact Kd.V_mono (Kd.V_far (p := ⟨gb260, 4, none⟩) (Kd.V_far (p := ⟨gb260, 3, none⟩) (Kd.V_far (p := ⟨gb260, 2, none⟩) (Kd.V_far (p := ⟨gb260, 1, none⟩) (Kd.V_far (p := ⟨gb260, 0, none⟩) (Kd.V_far (p := ⟨gb275, 4, none⟩) (Kd.V_far (p := ⟨gb275, 3, none⟩) (Kd.V_far (p := ⟨gb275, 2, none⟩) (Kd.V_far (p := ⟨gb275, 1, none⟩) (Kd.V_far (p := ⟨gb275, 0, none⟩) (Kd.V_mono (Kd.V_mono HO270.out (fun k_ hk => (⟨hk, hk.2⟩ : _ ∧ k_ ≠ gb275))) (fun k_ hk => (⟨hk, hk.1.1.2⟩ : _ ∧ k_ ≠ gb260))) (fun _ hk => hk.1.2) (.int .i64 t265)) (fun _ hk => hk.1.2) (.int .i64 t266)) (fun _ hk => hk.1.2) (.int .i64 t267)) (fun _ hk => hk.1.2) (.slice Ao37 t268.length co37)) (fun _ hk => hk.1.2) (.slice Ao38 t271.length co38)) (fun _ hk => hk.2) (.int .i64 t265)) (fun _ hk => hk.2) (.int .i64 t266)) (fun _ hk => hk.2) (.int .i64 t267)) (fun _ hk => hk.2) (.slice Ao37 t268.length co37)) (fun _ hk => hk.2) (.slice Ao38 t271.length co38)) (fun _ hk => ⟨hk.1.1.1.1, hk.1.1.1.2⟩)⟩, ⟨by (with_reducible repeat (first | apply Kd.V_alloc | apply Kd.V_drewN | apply Kd.V_drew)); exact Kd.V_mono (Kd.V_far (p := ⟨gb260, 4, none⟩) (Kd.V_far (p := ⟨gb260, 3, none⟩) (Kd.V_far (p := ⟨gb260, 2, none⟩) (Kd.V_far (p := ⟨gb260, 1, none⟩) (Kd.V_far (p := ⟨gb260, 0, none⟩) (Kd.V_far (p := ⟨gb275, 4, none⟩) (Kd.V_far (p := ⟨gb275, 3, none⟩) (Kd.V_far (p := ⟨gb275, 2, none⟩) (Kd.V_far (p := ⟨gb275, 1, none⟩) (Kd.V_far (p := ⟨gb275, 0, none⟩) (Kd.V_mono (Kd.V_mono HO273.out (fun k_ hk => (⟨hk, hk.2⟩ : _ ∧ k_ ≠ gb275))) (fun k_ hk => (⟨hk, hk.1.1.2⟩ : _ ∧ k_ ≠ gb260))) (fun _ hk => hk.1.2) (.int .i64 t265)) (fun _ hk => hk.1.2) (.int .i64 t266)) (fun _ hk => hk.1.2) (.int .i64 t267)) (fun _ hk => hk.1.2) (.slice Ao37 t268.length co37)) (fun _ hk => hk.1.2) (.slice Ao38 t271.length co38)) (fun _ hk => hk.2) (.int .i64 t265)) (fun _ hk => hk.2) (.int .i64 t266)) (fun _ hk => hk.2) (.int .i64 t267)) (fun _ hk => hk.2) (.slice Ao37 t268.length co37)) (fun _ hk => hk.2) (.slice Ao38 t271.length co38)) (fun _ hk => ⟨hk.1.1.1.1, hk.1.1.1.2⟩)⟩, ⟨by (with_reducible repeat (first | refine blk_drewN ?_ _ | refine blk_drew ?_ | refine blk_alloc ?_ _)); refine blk_put (cs := #[.int .i64 t265, .int .i64 t266, .int .i64 t267, .slice Ao37 t268.length co37, .slice Ao32 x261004_1.length co32]) ?_ 4 _ rfl; (with_reducible repeat (first | refine blk_drewN ?_ _ | refine blk_drew ?_ | refine blk_alloc ?_ _)); refine blk_put (cs := #[.int .i64 t265, .int .i64 t266, .int .i64 t267, .slice Ao31 x261003_1.length co31, .slice Ao32 x261004_1.length co32]) ?_ 3 _ rfl; (with_reducible repeat (first | refine blk_drewN ?_ _ | refine blk_drew ?_ | refine blk_alloc ?_ _)); refine blk_put (cs := #[.int .i64 t265, .int .i64 t266, .int .i64 x261002_1, .slice Ao31 x261003_1.length co31, .slice Ao32 x261004_1.length co32]) ?_ 2 _ rfl; (with_reducible repeat (first | refine blk_drewN ?_ _ | refine blk_drew ?_ | refine blk_alloc ?_ _)); refine blk_put (cs := #[.int .i64 t265, .int .i64 x261001_1, .int .i64 x261002_1, .slice Ao31 x261003_1.length co31, .slice Ao32 x261004_1.length co32]) ?_ 1 _ rfl; (with_reducible repeat (first | refine blk_drewN ?_ _ | refine blk_drew ?_ | refine blk_alloc ?_ _)); refine blk_put (cs := #[.int .i64 x261000_1, .int .i64 x261001_1, .int .i64 x261002_1, .slice Ao31 x261003_1.length co31, .slice Ao32 x261004_1.length co32]) ?_ 0 _ rfl; (with_reducible repeat (first | refine blk_drewN ?_ _ | refine blk_drew ?_ | refine blk_alloc ?_ _)); refine blk_far ?_ NB260_275.out _; (with_reducible repeat (first | refine blk_drewN ?_ _ | refine blk_drew ?_ | refine blk_alloc ?_ _)); refine blk_far ?_ NB260_275.out _; (with_reducible repeat (first | refine blk_drewN ?_ _ | refine blk_drew ?_ | refine blk_alloc ?_ _)); refine blk_far ?_ NB260_275.out _; (with_reducible repeat (first | refine blk_drewN ?_ _ | refine blk_drew ?_ | refine blk_alloc ?_ _)); refine blk_far ?_ NB260_275.out _; (with_reducible repeat (first | refine blk_drewN ?_ _ | refine blk_drew ?_ | refine blk_alloc ?_ _)); refine blk_far ?_ NB260_275.out _; (with_reducible repeat (first | refine blk_drewN ?_ _ | refine blk_drew ?_ | refine blk_alloc ?_ _)); exact BK260.out⟩, ⟨by repeat (first | (with_reducible first | exact HB.out | apply below_alloc | apply pw_below_drewN | apply below_drew1 | refine below_set ?_ GE260.out | refine below_set ?_ GE275.out) | exact HB.out)⟩⟩
                      · replace c29 := Bool.eq_false_iff.mpr c29
                        subst c29
                        have H1 : (some true) = some r := by rw [if_neg (show ¬ (false = true) by decide)] at H; exact H
                        clear H
                        have H := H1
                        clear H1
                        obtain rfl := Option.some.inj H
                        have hcz40_0 : wr.cell? ⟨gb260, 0, none⟩ = some (.int .i64 x261000_1) := (blk_cell BK260.out 0).trans rfl
                        have hcz40_1 : wr.cell? ⟨gb260, 1, none⟩ = some (.int .i64 x261001_1) := (blk_cell BK260.out 1).trans rfl
                        have hcz40_2 : wr.cell? ⟨gb260, 2, none⟩ = some (.int .i64 x261002_1) := (blk_cell BK260.out 2).trans rfl
                        have hcz40_3 : wr.cell? ⟨gb260, 3, none⟩ = some (u261003) := (blk_cell BK260.out 3).trans rfl
                        have hcz40_4 : wr.cell? ⟨gb260, 4, none⟩ = some (u261004) := (blk_cell BK260.out 4).trans rfl
                        have hfz40_0 := blk_frozen BK260.out 0
                        have hfz40_1 := blk_frozen BK260.out 1
                        have hfz40_2 := blk_frozen BK260.out 2
                        have hfz40_3 := blk_frozen BK260.out 3
                        have hfz40_4 := blk_frozen BK260.out 4
                        obtain ⟨Ao41, co41, eo41⟩ := Kd.V_slice HO_261003.out
                        subst eo41
                        obtain ⟨Ao42, co42, eo42⟩ := Kd.V_slice HO_261004.out
                        subst eo42
                        go_wp2_with (first | ((with_reducible refine gate_callee (f := 26) rfl ?_); refine goesL_ (some 54) rfl rfl Tryd.func26 (by kernel_rfl) rfl #[.string a0, .agg #[.int .i64 x261000_1, .int .i64 x261001_1, .int .i64 x261002_1, .slice Ao41 x261003_1.length co41, .slice Ao42 x261004_1.length co42], .string (rdOf ByteArray.empty l2 x15_1)] rfl (by (try simp only [List.map_toArray, List.map_cons, List.map_nil]); first | done | rfl | (simp only [List.length_drop, List.length_take]; rfl)) ?_; (with_reducible refine (spec_Step.calls k2 a0 x261000_1 x261001_1 x261002_1 _ _ x261003_1 (fun k_ => (((P1_3_ k_ ∨ P1_4_ k_) ∨ w.heap.size ≤ k_) ∧ k_ ≠ gb260)) _ _ x261004_1 (rdOf ByteArray.empty l2 x15_1) t265 t266 t267 t268 t271 false _ ?side1 ?side2 ?side3 A28.out).mono ?_); (case side1 => repeat (first | exact (Kd.V_reads' HO_261003.out).2.2 | (with_reducible refine Kd.C_alloc ?_ _) | (with_reducible refine Kd.C_drewN ?_ _) | (with_reducible refine Kd.C_drew ?_))); (case side2 => exact (Kd.V_reads' HO_261003.out).2.1); (case side3 => exact HO_261004.out); rintro e w43 ⟨v269, v272, rfl, ho0, ho1, hb⟩; refine ⟨_, rfl, ?_⟩; have n0_ := Aside0.mk (Kd.V_below (by (with_reducible repeat (first | apply Kd.V_alloc | apply Kd.V_drewN | apply Kd.V_drew)); exact HO_261003.out) hb); have n1_ := Aside0.mk (Kd.V_below (by (with_reducible repeat (first | apply Kd.V_alloc | apply Kd.V_drewN | apply Kd.V_drew)); exact HO_261004.out) hb); have n2_ := Aside0.mk (Kd.V_lower (Kd.V_mono (ok' := fun k_ => ((P1_3_ k_ ∨ P1_4_ k_) ∨ w.heap.size ≤ k_) ∧ k_ ≠ gb260) ho0 (fun k_ hk_ => ⟨Or.elim hk_ (fun hs_ => hs_.1) (fun hn_ => (.inr (Nat.le_trans (below_size (by repeat (first | (with_reducible first | exact HB.out | apply below_alloc | apply pw_below_drewN | apply below_drew1 | refine below_set ?_ GE260.out) | exact HB.out))) hn_))), Or.elim hk_ (fun hs_ => hs_.2) (fun hn_ => (Kd.freshB (g := gb260) (o := .cells #[.int .i64 x261000_1, .int .i64 x261001_1, .int .i64 x261002_1, .slice Ao41 x261003_1.length co41, .slice Ao42 x261004_1.length co42] 27 (0, 0)) (by (with_reducible repeat (first | refine blk_drewN ?_ _ | refine blk_drew ?_ | refine blk_alloc ?_ _)); exact BK260.out) k_ hn_))⟩)) (below_size (by repeat (first | (with_reducible first | exact HB.out | apply below_alloc | apply pw_below_drewN | apply below_drew1 | refine below_set ?_ GE260.out) | exact HB.out)))); have n3_ := Aside0.mk (Kd.V_lower (Kd.V_mono (ok' := fun k_ => ((P1_3_ k_ ∨ P1_4_ k_) ∨ w.heap.size ≤ k_) ∧ k_ ≠ gb260) ho1 (fun k_ hk_ => ⟨Or.elim hk_ (fun hs_ => hs_.1) (fun hn_ => (.inr (Nat.le_trans (below_size (by repeat (first | (with_reducible first | exact HB.out | apply below_alloc | apply pw_below_drewN | apply below_drew1 | refine below_set ?_ GE260.out) | exact HB.out))) hn_))), Or.elim hk_ (fun hs_ => hs_.2) (fun hn_ => (Kd.freshB (g := gb260) (o := .cells #[.int .i64 x261000_1, .int .i64 x261001_1, .int .i64 x261002_1, .slice Ao41 x261003_1.length co41, .slice Ao42 x261004_1.length co42] 27 (0, 0)) (by (with_reducible repeat (first | refine blk_drewN ?_ _ | refine blk_drew ?_ | refine blk_alloc ?_ _)); exact BK260.out) k_ hn_))⟩)) (below_size (by repeat (first | (with_reducible first | exact HB.out | apply below_alloc | apply pw_below_drewN | apply below_drew1 | refine below_set ?_ GE260.out) | exact HB.out)))); have n4_ := Aside0.mk (blk_below (g := gb260) (o := .cells #[.int .i64 x261000_1, .int .i64 x261001_1, .int .i64 x261002_1, .slice Ao41 x261003_1.length co41, .slice Ao42 x261004_1.length co42] 27 (0, 0)) (by (with_reducible repeat (first | refine blk_drewN ?_ _ | refine blk_drew ?_ | refine blk_alloc ?_ _)); exact BK260.out) hb); have n5_ := Aside0.mk (below_step (by repeat (first | (with_reducible first | exact HB.out | apply below_alloc | apply pw_below_drewN | apply below_drew1 | refine below_set ?_ GE260.out) | exact HB.out)) hb); clear HO_261003; clear HO_261004; clear BK260; clear HB; have HO_261003 := n0_; have HO_261004 := n1_; have HO270 := n2_; have HO273 := n3_; have BK260 := n4_; have HB := n5_; clear n0_ n1_ n2_ n3_ n4_ n5_; (try clear hb); (try clear hb2); (try clear hk); (try clear hi); (try clear ho0); (try clear ho1)) | ((with_reducible refine gate_dst (N := 11) rfl ?_); refine box_event ?hg (N := 11) ?hd (cs := #[.int .i64 0, .int .i64 0, .int .i64 0, .slice none 0 0, .slice none 0 0]) (t := 27) ?hr ?_; (case hd => rfl); (case hg => rfl); (case hr => first | (go_simp; done) | (go_simp; rfl)); intro gb275 hg w44 hbox hb; have n0_ := Aside0.mk (Kd.V_below (Kd.V_elderB (by (with_reducible repeat (first | apply Kd.V_alloc | apply Kd.V_drewN | apply Kd.V_drew)); exact HO_261003.out) gb275 (Nat.le_of_eq hg.symm)) hb); have n1_ := Aside0.mk (Kd.V_below (Kd.V_elderB (by (with_reducible repeat (first | apply Kd.V_alloc | apply Kd.V_drewN | apply Kd.V_drew)); exact HO_261004.out) gb275 (Nat.le_of_eq hg.symm)) hb); have n2_ := Aside0.mk (Kd.V_below (Kd.V_elderB (by (with_reducible repeat (first | apply Kd.V_alloc | apply Kd.V_drewN | apply Kd.V_drew)); exact HO270.out) gb275 (Nat.le_of_eq hg.symm)) hb); have n3_ := Aside0.mk (Kd.V_below (Kd.V_elderB (by (with_reducible repeat (first | apply Kd.V_alloc | apply Kd.V_drewN | apply Kd.V_drew)); exact HO273.out) gb275 (Nat.le_of_eq hg.symm)) hb); have n4_ := Aside0.mk (blk_below (g := gb260) (o := .cells #[.int .i64 x261000_1, .int .i64 x261001_1, .int .i64 x261002_1, .slice Ao41 x261003_1.length co41, .slice Ao42 x261004_1.length co42] 27 (0, 0)) (by (with_reducible repeat (first | refine blk_drewN ?_ _ | refine blk_drew ?_ | refine blk_alloc ?_ _)); exact BK260.out) hb); have n5_ := Aside0.mk (below_step (by repeat (first | (with_reducible first | exact HB.out | apply below_alloc | apply pw_below_drewN | apply below_drew1 | refine below_set ?_ GE260.out) | exact HB.out)) hb); have n6_ := Aside0.mk (hbox); have n7_ := Aside0.mk ((by rw [hg]; exact (below_size (by repeat (first | (with_reducible first | exact HB.out | apply below_alloc | apply pw_below_drewN | apply below_drew1 | refine below_set ?_ GE260.out) | exact HB.out))) : w.heap.size ≤ gb275)); have n8_ := Aside0.mk ((by rw [hg]; exact (below_size (by repeat (first | (with_reducible first | exact HB.out | apply below_alloc | apply pw_below_drewN | apply below_drew1 | refine below_set ?_ GE260.out) | exact HB.out))) : w.heap.size ≤ gb275)); have n9_ := Aside0.mk ((by rw [hg]; exact Nat.ne_of_lt (blk_lt (g := gb260) (o := .cells #[.int .i64 x261000_1, .int .i64 x261001_1, .int .i64 x261002_1, .slice Ao41 x261003_1.length co41, .slice Ao42 x261004_1.length co42] 27 (0, 0)) (by (with_reducible repeat (first | refine blk_drewN ?_ _ | refine blk_drew ?_ | refine blk_alloc ?_ _)); exact BK260.out)) : gb260 ≠ gb275)); have n10_ := Aside0.mk ((by rw [hg]; exact Nat.ne_of_gt (blk_lt (g := gb260) (o := .cells #[.int .i64 x261000_1, .int .i64 x261001_1, .int .i64 x261002_1, .slice Ao41 x261003_1.length co41, .slice Ao42 x261004_1.length co42] 27 (0, 0)) (by (with_reducible repeat (first | refine blk_drewN ?_ _ | refine blk_drew ?_ | refine blk_alloc ?_ _)); exact BK260.out)) : gb275 ≠ gb260)); clear HO_261003; clear HO_261004; clear HO270; clear HO273; clear BK260; clear HB; have HO_261003 := n0_; have HO_261004 := n1_; have HO270 := n2_; have HO273 := n3_; have BK260 := n4_; have HB := n5_; have BK275 := n6_; have GW275 := n7_; have GE275 := n8_; have NB260_275 := n9_; have NB275_260 := n10_; clear n0_ n1_ n2_ n3_ n4_ n5_ n6_ n7_ n8_ n9_ n10_; clear hb hbox hg; have hnb45 := NB275_260.out; have hnc45 := NB260_275.out; have hcz46_0 : w44.cell? ⟨gb275, 0, none⟩ = some (.int .i64 0) := (blk_cell BK275.out 0).trans rfl; have hcz46_1 : w44.cell? ⟨gb275, 1, none⟩ = some (.int .i64 0) := (blk_cell BK275.out 1).trans rfl; have hcz46_2 : w44.cell? ⟨gb275, 2, none⟩ = some (.int .i64 0) := (blk_cell BK275.out 2).trans rfl; have hcz46_3 : w44.cell? ⟨gb275, 3, none⟩ = some (.slice none 0 0) := (blk_cell BK275.out 3).trans rfl; have hcz46_4 : w44.cell? ⟨gb275, 4, none⟩ = some (.slice none 0 0) := (blk_cell BK275.out 4).trans rfl; have hfz46_0 := blk_frozen BK275.out 0; have hfz46_1 := blk_frozen BK275.out 1; have hfz46_2 := blk_frozen BK275.out 2; have hfz46_3 := blk_frozen BK275.out 3; have hfz46_4 := blk_frozen BK275.out 4; obtain ⟨Ao47, co47, eo47⟩ := Kd.V_slice HO270.out; subst eo47; obtain ⟨Ao48, co48, eo48⟩ := Kd.V_slice HO273.out; subst eo48))
                        go_ret
                        exact ⟨by first | rfl | (simp [errW_none, errW_some] <;> rfl) | (simp [*, errW_none, errW_some] <;> rfl), by repeat (first | (with_reducible first | exact HB.out | apply below_alloc | apply pw_below_drewN | apply below_drew1 | refine below_set ?_ GE260.out | refine below_set ?_ GE275.out) | exact HB.out)⟩
            · rw [if_neg c8] at H
              have c8b0 : (x261000_1 == 6) = false := beq_eq_false_iff_ne.mpr c8
              have c8b1 : (x261000_1 != 6) = true := bne_iff_ne.mpr c8
              replace H := Option.bind_eq_some_iff.mp H
              obtain ⟨⟨t276, t277, t278, t279, t282, t285⟩, A490, H⟩ := H
              replace H : (if t285 = true then (spec_Once.l0 k1 a0 l2 (l2.length : Int) (wrap64 (x15_1 + 1)) t276 t277 t278 t279 t282) else (some true)) = some r := H
              have A49 := Aside0.mk A490
              clear A490
              by_cases c50 : t285 = true
              · subst c50
                have H1 : (spec_Once.l0 k1 a0 l2 (l2.length : Int) (wrap64 (x15_1 + 1)) t276 t277 t278 t279 t282) = some r := by rw [if_pos rfl] at H; exact H
                clear H
                have H := H1
                clear H1
                have H' := Aside0.mk H
                clear H
                have p261 : 0 ≤ (x15_1 : Int) := of_decide_eq_true (by first | (with_reducible assumption) | assumption)
                have q261 : x15_1 < (l2.length : Int) := of_decide_eq_true (by first | (with_reducible assumption) | assumption)
                obtain ⟨ad261, e261, hx261_0⟩ := Kd.at_string HR2.out x15_1 p261 q261
                cases e261
                replace hx261_0 := (HB.out.cell (World.block_lt_of_cell? w _ hx261_0)).trans hx261_0
                replace p261 := eq_true p261
                replace q261 := eq_true q261
                have hcz51_0 : wr.cell? ⟨gb260, 0, none⟩ = some (.int .i64 x261000_1) := (blk_cell BK260.out 0).trans rfl
                have hcz51_1 : wr.cell? ⟨gb260, 1, none⟩ = some (.int .i64 x261001_1) := (blk_cell BK260.out 1).trans rfl
                have hcz51_2 : wr.cell? ⟨gb260, 2, none⟩ = some (.int .i64 x261002_1) := (blk_cell BK260.out 2).trans rfl
                have hcz51_3 : wr.cell? ⟨gb260, 3, none⟩ = some (u261003) := (blk_cell BK260.out 3).trans rfl
                have hcz51_4 : wr.cell? ⟨gb260, 4, none⟩ = some (u261004) := (blk_cell BK260.out 4).trans rfl
                have hfz51_0 := blk_frozen BK260.out 0
                have hfz51_1 := blk_frozen BK260.out 1
                have hfz51_2 := blk_frozen BK260.out 2
                have hfz51_3 := blk_frozen BK260.out 3
                have hfz51_4 := blk_frozen BK260.out 4
                obtain ⟨Ao52, co52, eo52⟩ := Kd.V_slice HO_261003.out
                subst eo52
                obtain ⟨Ao53, co53, eo53⟩ := Kd.V_slice HO_261004.out
                subst eo53
                go_wp2_with (first | ((with_reducible refine gate_callee (f := 26) rfl ?_); refine goesL_ (some 54) rfl rfl Tryd.func26 (by kernel_rfl) rfl #[.string a0, .agg #[.int .i64 x261000_1, .int .i64 x261001_1, .int .i64 x261002_1, .slice Ao52 x261003_1.length co52, .slice Ao53 x261004_1.length co53], .string (rdOf ByteArray.empty l2 x15_1)] rfl (by (try simp only [List.map_toArray, List.map_cons, List.map_nil]); first | done | rfl | (simp only [List.length_drop, List.length_take]; rfl)) ?_; (with_reducible refine (spec_Step.calls k1 a0 x261000_1 x261001_1 x261002_1 _ _ x261003_1 (fun k_ => (((P1_3_ k_ ∨ P1_4_ k_) ∨ w.heap.size ≤ k_) ∧ k_ ≠ gb260)) _ _ x261004_1 (rdOf ByteArray.empty l2 x15_1) t276 t277 t278 t279 t282 true _ ?side1 ?side2 ?side3 A49.out).mono ?_); (case side1 => repeat (first | exact (Kd.V_reads' HO_261003.out).2.2 | (with_reducible refine Kd.C_alloc ?_ _) | (with_reducible refine Kd.C_drewN ?_ _) | (with_reducible refine Kd.C_drew ?_))); (case side2 => exact (Kd.V_reads' HO_261003.out).2.1); (case side3 => exact HO_261004.out); rintro e w54 ⟨v280, v283, rfl, ho0, ho1, hb⟩; refine ⟨_, rfl, ?_⟩; have n0_ := Aside0.mk (Kd.V_below (by (with_reducible repeat (first | apply Kd.V_alloc | apply Kd.V_drewN | apply Kd.V_drew)); exact HO_261003.out) hb); have n1_ := Aside0.mk (Kd.V_below (by (with_reducible repeat (first | apply Kd.V_alloc | apply Kd.V_drewN | apply Kd.V_drew)); exact HO_261004.out) hb); have n2_ := Aside0.mk (Kd.V_lower (Kd.V_mono (ok' := fun k_ => ((P1_3_ k_ ∨ P1_4_ k_) ∨ w.heap.size ≤ k_) ∧ k_ ≠ gb260) ho0 (fun k_ hk_ => ⟨Or.elim hk_ (fun hs_ => hs_.1) (fun hn_ => (.inr (Nat.le_trans (below_size (by repeat (first | (with_reducible first | exact HB.out | apply below_alloc | apply pw_below_drewN | apply below_drew1 | refine below_set ?_ GE260.out) | exact HB.out))) hn_))), Or.elim hk_ (fun hs_ => hs_.2) (fun hn_ => (Kd.freshB (g := gb260) (o := .cells #[.int .i64 x261000_1, .int .i64 x261001_1, .int .i64 x261002_1, .slice Ao52 x261003_1.length co52, .slice Ao53 x261004_1.length co53] 27 (0, 0)) (by (with_reducible repeat (first | refine blk_drewN ?_ _ | refine blk_drew ?_ | refine blk_alloc ?_ _)); exact BK260.out) k_ hn_))⟩)) (below_size (by repeat (first | (with_reducible first | exact HB.out | apply below_alloc | apply pw_below_drewN | apply below_drew1 | refine below_set ?_ GE260.out) | exact HB.out)))); have n3_ := Aside0.mk (Kd.V_lower (Kd.V_mono (ok' := fun k_ => ((P1_3_ k_ ∨ P1_4_ k_) ∨ w.heap.size ≤ k_) ∧ k_ ≠ gb260) ho1 (fun k_ hk_ => ⟨Or.elim hk_ (fun hs_ => hs_.1) (fun hn_ => (.inr (Nat.le_trans (below_size (by repeat (first | (with_reducible first | exact HB.out | apply below_alloc | apply pw_below_drewN | apply below_drew1 | refine below_set ?_ GE260.out) | exact HB.out))) hn_))), Or.elim hk_ (fun hs_ => hs_.2) (fun hn_ => (Kd.freshB (g := gb260) (o := .cells #[.int .i64 x261000_1, .int .i64 x261001_1, .int .i64 x261002_1, .slice Ao52 x261003_1.length co52, .slice Ao53 x261004_1.length co53] 27 (0, 0)) (by (with_reducible repeat (first | refine blk_drewN ?_ _ | refine blk_drew ?_ | refine blk_alloc ?_ _)); exact BK260.out) k_ hn_))⟩)) (below_size (by repeat (first | (with_reducible first | exact HB.out | apply below_alloc | apply pw_below_drewN | apply below_drew1 | refine below_set ?_ GE260.out) | exact HB.out)))); have n4_ := Aside0.mk (blk_below (g := gb260) (o := .cells #[.int .i64 x261000_1, .int .i64 x261001_1, .int .i64 x261002_1, .slice Ao52 x261003_1.length co52, .slice Ao53 x261004_1.length co53] 27 (0, 0)) (by (with_reducible repeat (first | refine blk_drewN ?_ _ | refine blk_drew ?_ | refine blk_alloc ?_ _)); exact BK260.out) hb); have n5_ := Aside0.mk (below_step (by repeat (first | (with_reducible first | exact HB.out | apply below_alloc | apply pw_below_drewN | apply below_drew1 | refine below_set ?_ GE260.out) | exact HB.out)) hb); clear HO_261003; clear HO_261004; clear BK260; clear HB; have HO_261003 := n0_; have HO_261004 := n1_; have HO281 := n2_; have HO284 := n3_; have BK260 := n4_; have HB := n5_; clear n0_ n1_ n2_ n3_ n4_ n5_; (try clear hb); (try clear hb2); (try clear hk); (try clear hi); (try clear ho0); (try clear ho1)) | ((with_reducible refine gate_dst (N := 11) rfl ?_); refine box_event ?hg (N := 11) ?hd (cs := #[.int .i64 0, .int .i64 0, .int .i64 0, .slice none 0 0, .slice none 0 0]) (t := 27) ?hr ?_; (case hd => rfl); (case hg => rfl); (case hr => first | (go_simp; done) | (go_simp; rfl)); intro gb286 hg w55 hbox hb; have n0_ := Aside0.mk (Kd.V_below (Kd.V_elderB (by (with_reducible repeat (first | apply Kd.V_alloc | apply Kd.V_drewN | apply Kd.V_drew)); exact HO_261003.out) gb286 (Nat.le_of_eq hg.symm)) hb); have n1_ := Aside0.mk (Kd.V_below (Kd.V_elderB (by (with_reducible repeat (first | apply Kd.V_alloc | apply Kd.V_drewN | apply Kd.V_drew)); exact HO_261004.out) gb286 (Nat.le_of_eq hg.symm)) hb); have n2_ := Aside0.mk (Kd.V_below (Kd.V_elderB (by (with_reducible repeat (first | apply Kd.V_alloc | apply Kd.V_drewN | apply Kd.V_drew)); exact HO281.out) gb286 (Nat.le_of_eq hg.symm)) hb); have n3_ := Aside0.mk (Kd.V_below (Kd.V_elderB (by (with_reducible repeat (first | apply Kd.V_alloc | apply Kd.V_drewN | apply Kd.V_drew)); exact HO284.out) gb286 (Nat.le_of_eq hg.symm)) hb); have n4_ := Aside0.mk (blk_below (g := gb260) (o := .cells #[.int .i64 x261000_1, .int .i64 x261001_1, .int .i64 x261002_1, .slice Ao52 x261003_1.length co52, .slice Ao53 x261004_1.length co53] 27 (0, 0)) (by (with_reducible repeat (first | refine blk_drewN ?_ _ | refine blk_drew ?_ | refine blk_alloc ?_ _)); exact BK260.out) hb); have n5_ := Aside0.mk (below_step (by repeat (first | (with_reducible first | exact HB.out | apply below_alloc | apply pw_below_drewN | apply below_drew1 | refine below_set ?_ GE260.out) | exact HB.out)) hb); have n6_ := Aside0.mk (hbox); have n7_ := Aside0.mk ((by rw [hg]; exact (below_size (by repeat (first | (with_reducible first | exact HB.out | apply below_alloc | apply pw_below_drewN | apply below_drew1 | refine below_set ?_ GE260.out) | exact HB.out))) : w.heap.size ≤ gb286)); have n8_ := Aside0.mk ((by rw [hg]; exact (below_size (by repeat (first | (with_reducible first | exact HB.out | apply below_alloc | apply pw_below_drewN | apply below_drew1 | refine below_set ?_ GE260.out) | exact HB.out))) : w.heap.size ≤ gb286)); have n9_ := Aside0.mk ((by rw [hg]; exact Nat.ne_of_lt (blk_lt (g := gb260) (o := .cells #[.int .i64 x261000_1, .int .i64 x261001_1, .int .i64 x261002_1, .slice Ao52 x261003_1.length co52, .slice Ao53 x261004_1.length co53] 27 (0, 0)) (by (with_reducible repeat (first | refine blk_drewN ?_ _ | refine blk_drew ?_ | refine blk_alloc ?_ _)); exact BK260.out)) : gb260 ≠ gb286)); have n10_ := Aside0.mk ((by rw [hg]; exact Nat.ne_of_gt (blk_lt (g := gb260) (o := .cells #[.int .i64 x261000_1, .int .i64 x261001_1, .int .i64 x261002_1, .slice Ao52 x261003_1.length co52, .slice Ao53 x261004_1.length co53] 27 (0, 0)) (by (with_reducible repeat (first | refine blk_drewN ?_ _ | refine blk_drew ?_ | refine blk_alloc ?_ _)); exact BK260.out)) : gb286 ≠ gb260)); clear HO_261003; clear HO_261004; clear HO281; clear HO284; clear BK260; clear HB; have HO_261003 := n0_; have HO_261004 := n1_; have HO281 := n2_; have HO284 := n3_; have BK260 := n4_; have HB := n5_; have BK286 := n6_; have GW286 := n7_; have GE286 := n8_; have NB260_286 := n9_; have NB286_260 := n10_; clear n0_ n1_ n2_ n3_ n4_ n5_ n6_ n7_ n8_ n9_ n10_; clear hb hbox hg; have hnb56 := NB286_260.out; have hnc56 := NB260_286.out; have hcz57_0 : w55.cell? ⟨gb286, 0, none⟩ = some (.int .i64 0) := (blk_cell BK286.out 0).trans rfl; have hcz57_1 : w55.cell? ⟨gb286, 1, none⟩ = some (.int .i64 0) := (blk_cell BK286.out 1).trans rfl; have hcz57_2 : w55.cell? ⟨gb286, 2, none⟩ = some (.int .i64 0) := (blk_cell BK286.out 2).trans rfl; have hcz57_3 : w55.cell? ⟨gb286, 3, none⟩ = some (.slice none 0 0) := (blk_cell BK286.out 3).trans rfl; have hcz57_4 : w55.cell? ⟨gb286, 4, none⟩ = some (.slice none 0 0) := (blk_cell BK286.out 4).trans rfl; have hfz57_0 := blk_frozen BK286.out 0; have hfz57_1 := blk_frozen BK286.out 1; have hfz57_2 := blk_frozen BK286.out 2; have hfz57_3 := blk_frozen BK286.out 3; have hfz57_4 := blk_frozen BK286.out 4; obtain ⟨Ao58, co58, eo58⟩ := Kd.V_slice HO281.out; subst eo58; obtain ⟨Ao59, co59, eo59⟩ := Kd.V_slice HO284.out; subst eo59; have hcz60_0 : w55.cell? ⟨gb260, 0, none⟩ = some (.int .i64 x261000_1) := (blk_cell BK260.out 0).trans rfl; have hcz60_1 : w55.cell? ⟨gb260, 1, none⟩ = some (.int .i64 x261001_1) := (blk_cell BK260.out 1).trans rfl; have hcz60_2 : w55.cell? ⟨gb260, 2, none⟩ = some (.int .i64 x261002_1) := (blk_cell BK260.out 2).trans rfl; have hcz60_3 : w55.cell? ⟨gb260, 3, none⟩ = some (.slice Ao52 x261003_1.length co52) := (blk_cell BK260.out 3).trans rfl; have hcz60_4 : w55.cell? ⟨gb260, 4, none⟩ = some (.slice Ao53 x261004_1.length co53) := (blk_cell BK260.out 4).trans rfl; have hfz60_0 := blk_frozen BK260.out 0; have hfz60_1 := blk_frozen BK260.out 1; have hfz60_2 := blk_frozen BK260.out 2; have hfz60_3 := blk_frozen BK260.out 3; have hfz60_4 := blk_frozen BK260.out 4))
                go_roundg k1
                case measure => have := HK1.out; omega
                case rel => exact ⟨(wrap64 (x15_1 + 1)), (t276), (t277), (t278), (t279), (t282), (.slice Ao58 t279.length co58), (.slice Ao59 t282.length co59), (by first | rfl | (simp; done) | (simp [*]; done)), H', ⟨by have := HK1.out; omega⟩, ⟨by (with_reducible repeat (first | apply Kd.V_alloc | apply Kd.V_drewN | apply Kd.V_drew)); exact Kd.V_mono (Kd.V_far (p := ⟨gb260, 4, none⟩) (Kd.V_far (p := ⟨gb260, 3, none⟩) (Kd.V_far (p := ⟨gb260, 2, none⟩) (Kd.V_far (p := ⟨gb260, 1, none⟩) (Kd.V_far (p := ⟨gb260, 0, none⟩) (Kd.V_far (p := ⟨gb286, 4, none⟩) (Kd.V_far (p := ⟨gb286, 3, none⟩) (Kd.V_far (p := ⟨gb286, 2, none⟩) (Kd.V_far (p := ⟨gb286, 1, none⟩) (Kd.V_far (p := ⟨gb286, 0, none⟩) (Kd.V_mono (Kd.V_mono HO281.out (fun k_ hk => (⟨hk, hk.2⟩ : _ ∧ k_ ≠ gb286))) (fun k_ hk => (⟨hk, hk.1.1.2⟩ : _ ∧ k_ ≠ gb260))) (fun _ hk => hk.1.2) (.int .i64 t276)) (fun _ hk => hk.1.2) (.int .i64 t277)) (fun _ hk => hk.1.2) (.int .i64 t278)) (fun _ hk => hk.1.2) (.slice Ao58 t279.length co58)) (fun _ hk => hk.1.2) (.slice Ao59 t282.length co59)) (fun _ hk => hk.2) (.int .i64 t276)) (fun _ hk => hk.2) (.int .i64 t277)) (fun _ hk => hk.2) (.int .i64 t278)) (fun _ hk => hk.2) (.slice Ao58 t279.length co58)) (fun _ hk => hk.2) (.slice Ao59 t282.length co59)) (fun _ hk => ⟨hk.1.1.1.1, hk.1.1.1.2⟩)⟩, ⟨by (with_reducible repeat (first | apply Kd.V_alloc | apply Kd.V_drewN | apply Kd.V_drew)); exact Kd.V_mono (Kd.V_far (p := ⟨gb260, 4, none⟩) (Kd.V_far (p := ⟨gb260, 3, none⟩) (Kd.V_far (p := ⟨gb260, 2, none⟩) (Kd.V_far (p := ⟨gb260, 1, none⟩) (Kd.V_far (p := ⟨gb260, 0, none⟩) (Kd.V_far (p := ⟨gb286, 4, none⟩) (Kd.V_far (p := ⟨gb286, 3, none⟩) (Kd.V_far (p := ⟨gb286, 2, none⟩) (Kd.V_far (p := ⟨gb286, 1, none⟩) (Kd.V_far (p := ⟨gb286, 0, none⟩) (Kd.V_mono (Kd.V_mono HO284.out (fun k_ hk => (⟨hk, hk.2⟩ : _ ∧ k_ ≠ gb286))) (fun k_ hk => (⟨hk, hk.1.1.2⟩ : _ ∧ k_ ≠ gb260))) (fun _ hk => hk.1.2) (.int .i64 t276)) (fun _ hk => hk.1.2) (.int .i64 t277)) (fun _ hk => hk.1.2) (.int .i64 t278)) (fun _ hk => hk.1.2) (.slice Ao58 t279.length co58)) (fun _ hk => hk.1.2) (.slice Ao59 t282.length co59)) (fun _ hk => hk.2) (.int .i64 t276)) (fun _ hk => hk.2) (.int .i64 t277)) (fun _ hk => hk.2) (.int .i64 t278)) (fun _ hk => hk.2) (.slice Ao58 t279.length co58)) (fun _ hk => hk.2) (.slice Ao59 t282.length co59)) (fun _ hk => ⟨hk.1.1.1.1, hk.1.1.1.2⟩)⟩, ⟨by (with_reducible repeat (first | refine blk_drewN ?_ _ | refine blk_drew ?_ | refine blk_alloc ?_ _)); refine blk_put (cs := #[.int .i64 t276, .int .i64 t277, .int .i64 t278, .slice Ao58 t279.length co58, .slice Ao53 x261004_1.length co53]) ?_ 4 _ rfl; (with_reducible repeat (first | refine blk_drewN ?_ _ | refine blk_drew ?_ | refine blk_alloc ?_ _)); refine blk_put (cs := #[.int .i64 t276, .int .i64 t277, .int .i64 t278, .slice Ao52 x261003_1.length co52, .slice Ao53 x261004_1.length co53]) ?_ 3 _ rfl; (with_reducible repeat (first | refine blk_drewN ?_ _ | refine blk_drew ?_ | refine blk_alloc ?_ _)); refine blk_put (cs := #[.int .i64 t276, .int .i64 t277, .int .i64 x261002_1, .slice Ao52 x261003_1.length co52, .slice Ao53 x261004_1.length co53]) ?_ 2 _ rfl; (with_reducible repeat (first | refine blk_drewN ?_ _ | refine blk_drew ?_ | refine blk_alloc ?_ _)); refine blk_put (cs := #[.int .i64 t276, .int .i64 x261001_1, .int .i64 x261002_1, .slice Ao52 x261003_1.length co52, .slice Ao53 x261004_1.length co53]) ?_ 1 _ rfl; (with_reducible repeat (first | refine blk_drewN ?_ _ | refine blk_drew ?_ | refine blk_alloc ?_ _)); refine blk_put (cs := #[.int .i64 x261000_1, .int .i64 x261001_1, .int .i64 x261002_1, .slice Ao52 x261003_1.length co52, .slice Ao53 x261004_1.length co53]) ?_ 0 _ rfl; (with_reducible repeat (first | refine blk_drewN ?_ _ | refine blk_drew ?_ | refine blk_alloc ?_ _)); refine blk_far ?_ NB260_286.out _; (with_reducible repeat (first | refine blk_drewN ?_ _ | refine blk_drew ?_ | refine blk_alloc ?_ _)); refine blk_far ?_ NB260_286.out _; (with_reducible repeat (first | refine blk_drewN ?_ _ | refine blk_drew ?_ | refine blk_alloc ?_ _)); refine blk_far ?_ NB260_286.out _; (with_reducible repeat (first | refine blk_drewN ?_ _ | refine blk_drew ?_ | refine blk_alloc ?_ _)); refine blk_far ?_ NB260_286.out _; (with_reducible repeat (first | refine blk_drewN ?_ _ | refine blk_drew ?_ | refine blk_alloc ?_ _)); refine blk_far ?_ NB260_286.out _; (with_reducible repeat (first | refine blk_drewN ?_ _ | refine blk_drew ?_ | refine blk_alloc ?_ _)); exact BK260.out⟩, ⟨by repeat (first | (with_reducible first | exact HB.out | apply below_alloc | apply pw_below_drewN | apply below_drew1 | refine below_set ?_ GE260.out | refine below_set ?_ GE286.out) | exact HB.out)⟩⟩
              · replace c50 := Bool.eq_false_iff.mpr c50
                subst c50
                have H1 : (some true) = some r := by rw [if_neg (show ¬ (false = true) by decide)] at H; exact H
                clear H
                have H := H1
                clear H1
                obtain rfl := Option.some.inj H
                have p261 : 0 ≤ (x15_1 : Int) := of_decide_eq_true (by first | (with_reducible assumption) | assumption)
                have q261 : x15_1 < (l2.length : Int) := of_decide_eq_true (by first | (with_reducible assumption) | assumption)
                obtain ⟨ad261, e261, hx261_0⟩ := Kd.at_string HR2.out x15_1 p261 q261
                cases e261
                replace hx261_0 := (HB.out.cell (World.block_lt_of_cell? w _ hx261_0)).trans hx261_0
                replace p261 := eq_true p261
                replace q261 := eq_true q261
                have hcz61_0 : wr.cell? ⟨gb260, 0, none⟩ = some (.int .i64 x261000_1) := (blk_cell BK260.out 0).trans rfl
                have hcz61_1 : wr.cell? ⟨gb260, 1, none⟩ = some (.int .i64 x261001_1) := (blk_cell BK260.out 1).trans rfl
                have hcz61_2 : wr.cell? ⟨gb260, 2, none⟩ = some (.int .i64 x261002_1) := (blk_cell BK260.out 2).trans rfl
                have hcz61_3 : wr.cell? ⟨gb260, 3, none⟩ = some (u261003) := (blk_cell BK260.out 3).trans rfl
                have hcz61_4 : wr.cell? ⟨gb260, 4, none⟩ = some (u261004) := (blk_cell BK260.out 4).trans rfl
                have hfz61_0 := blk_frozen BK260.out 0
                have hfz61_1 := blk_frozen BK260.out 1
                have hfz61_2 := blk_frozen BK260.out 2
                have hfz61_3 := blk_frozen BK260.out 3
                have hfz61_4 := blk_frozen BK260.out 4
                obtain ⟨Ao62, co62, eo62⟩ := Kd.V_slice HO_261003.out
                subst eo62
                obtain ⟨Ao63, co63, eo63⟩ := Kd.V_slice HO_261004.out
                subst eo63
                go_wp2_with (first | ((with_reducible refine gate_callee (f := 26) rfl ?_); refine goesL_ (some 54) rfl rfl Tryd.func26 (by kernel_rfl) rfl #[.string a0, .agg #[.int .i64 x261000_1, .int .i64 x261001_1, .int .i64 x261002_1, .slice Ao62 x261003_1.length co62, .slice Ao63 x261004_1.length co63], .string (rdOf ByteArray.empty l2 x15_1)] rfl (by (try simp only [List.map_toArray, List.map_cons, List.map_nil]); first | done | rfl | (simp only [List.length_drop, List.length_take]; rfl)) ?_; (with_reducible refine (spec_Step.calls k1 a0 x261000_1 x261001_1 x261002_1 _ _ x261003_1 (fun k_ => (((P1_3_ k_ ∨ P1_4_ k_) ∨ w.heap.size ≤ k_) ∧ k_ ≠ gb260)) _ _ x261004_1 (rdOf ByteArray.empty l2 x15_1) t276 t277 t278 t279 t282 false _ ?side1 ?side2 ?side3 A49.out).mono ?_); (case side1 => repeat (first | exact (Kd.V_reads' HO_261003.out).2.2 | (with_reducible refine Kd.C_alloc ?_ _) | (with_reducible refine Kd.C_drewN ?_ _) | (with_reducible refine Kd.C_drew ?_))); (case side2 => exact (Kd.V_reads' HO_261003.out).2.1); (case side3 => exact HO_261004.out); rintro e w64 ⟨v280, v283, rfl, ho0, ho1, hb⟩; refine ⟨_, rfl, ?_⟩; have n0_ := Aside0.mk (Kd.V_below (by (with_reducible repeat (first | apply Kd.V_alloc | apply Kd.V_drewN | apply Kd.V_drew)); exact HO_261003.out) hb); have n1_ := Aside0.mk (Kd.V_below (by (with_reducible repeat (first | apply Kd.V_alloc | apply Kd.V_drewN | apply Kd.V_drew)); exact HO_261004.out) hb); have n2_ := Aside0.mk (Kd.V_lower (Kd.V_mono (ok' := fun k_ => ((P1_3_ k_ ∨ P1_4_ k_) ∨ w.heap.size ≤ k_) ∧ k_ ≠ gb260) ho0 (fun k_ hk_ => ⟨Or.elim hk_ (fun hs_ => hs_.1) (fun hn_ => (.inr (Nat.le_trans (below_size (by repeat (first | (with_reducible first | exact HB.out | apply below_alloc | apply pw_below_drewN | apply below_drew1 | refine below_set ?_ GE260.out) | exact HB.out))) hn_))), Or.elim hk_ (fun hs_ => hs_.2) (fun hn_ => (Kd.freshB (g := gb260) (o := .cells #[.int .i64 x261000_1, .int .i64 x261001_1, .int .i64 x261002_1, .slice Ao62 x261003_1.length co62, .slice Ao63 x261004_1.length co63] 27 (0, 0)) (by (with_reducible repeat (first | refine blk_drewN ?_ _ | refine blk_drew ?_ | refine blk_alloc ?_ _)); exact BK260.out) k_ hn_))⟩)) (below_size (by repeat (first | (with_reducible first | exact HB.out | apply below_alloc | apply pw_below_drewN | apply below_drew1 | refine below_set ?_ GE260.out) | exact HB.out)))); have n3_ := Aside0.mk (Kd.V_lower (Kd.V_mono (ok' := fun k_ => ((P1_3_ k_ ∨ P1_4_ k_) ∨ w.heap.size ≤ k_) ∧ k_ ≠ gb260) ho1 (fun k_ hk_ => ⟨Or.elim hk_ (fun hs_ => hs_.1) (fun hn_ => (.inr (Nat.le_trans (below_size (by repeat (first | (with_reducible first | exact HB.out | apply below_alloc | apply pw_below_drewN | apply below_drew1 | refine below_set ?_ GE260.out) | exact HB.out))) hn_))), Or.elim hk_ (fun hs_ => hs_.2) (fun hn_ => (Kd.freshB (g := gb260) (o := .cells #[.int .i64 x261000_1, .int .i64 x261001_1, .int .i64 x261002_1, .slice Ao62 x261003_1.length co62, .slice Ao63 x261004_1.length co63] 27 (0, 0)) (by (with_reducible repeat (first | refine blk_drewN ?_ _ | refine blk_drew ?_ | refine blk_alloc ?_ _)); exact BK260.out) k_ hn_))⟩)) (below_size (by repeat (first | (with_reducible first | exact HB.out | apply below_alloc | apply pw_below_drewN | apply below_drew1 | refine below_set ?_ GE260.out) | exact HB.out)))); have n4_ := Aside0.mk (blk_below (g := gb260) (o := .cells #[.int .i64 x261000_1, .int .i64 x261001_1, .int .i64 x261002_1, .slice Ao62 x261003_1.length co62, .slice Ao63 x261004_1.length co63] 27 (0, 0)) (by (with_reducible repeat (first | refine blk_drewN ?_ _ | refine blk_drew ?_ | refine blk_alloc ?_ _)); exact BK260.out) hb); have n5_ := Aside0.mk (below_step (by repeat (first | (with_reducible first | exact HB.out | apply below_alloc | apply pw_below_drewN | apply below_drew1 | refine below_set ?_ GE260.out) | exact HB.out)) hb); clear HO_261003; clear HO_261004; clear BK260; clear HB; have HO_261003 := n0_; have HO_261004 := n1_; have HO281 := n2_; have HO284 := n3_; have BK260 := n4_; have HB := n5_; clear n0_ n1_ n2_ n3_ n4_ n5_; (try clear hb); (try clear hb2); (try clear hk); (try clear hi); (try clear ho0); (try clear ho1)) | ((with_reducible refine gate_dst (N := 11) rfl ?_); refine box_event ?hg (N := 11) ?hd (cs := #[.int .i64 0, .int .i64 0, .int .i64 0, .slice none 0 0, .slice none 0 0]) (t := 27) ?hr ?_; (case hd => rfl); (case hg => rfl); (case hr => first | (go_simp; done) | (go_simp; rfl)); intro gb286 hg w65 hbox hb; have n0_ := Aside0.mk (Kd.V_below (Kd.V_elderB (by (with_reducible repeat (first | apply Kd.V_alloc | apply Kd.V_drewN | apply Kd.V_drew)); exact HO_261003.out) gb286 (Nat.le_of_eq hg.symm)) hb); have n1_ := Aside0.mk (Kd.V_below (Kd.V_elderB (by (with_reducible repeat (first | apply Kd.V_alloc | apply Kd.V_drewN | apply Kd.V_drew)); exact HO_261004.out) gb286 (Nat.le_of_eq hg.symm)) hb); have n2_ := Aside0.mk (Kd.V_below (Kd.V_elderB (by (with_reducible repeat (first | apply Kd.V_alloc | apply Kd.V_drewN | apply Kd.V_drew)); exact HO281.out) gb286 (Nat.le_of_eq hg.symm)) hb); have n3_ := Aside0.mk (Kd.V_below (Kd.V_elderB (by (with_reducible repeat (first | apply Kd.V_alloc | apply Kd.V_drewN | apply Kd.V_drew)); exact HO284.out) gb286 (Nat.le_of_eq hg.symm)) hb); have n4_ := Aside0.mk (blk_below (g := gb260) (o := .cells #[.int .i64 x261000_1, .int .i64 x261001_1, .int .i64 x261002_1, .slice Ao62 x261003_1.length co62, .slice Ao63 x261004_1.length co63] 27 (0, 0)) (by (with_reducible repeat (first | refine blk_drewN ?_ _ | refine blk_drew ?_ | refine blk_alloc ?_ _)); exact BK260.out) hb); have n5_ := Aside0.mk (below_step (by repeat (first | (with_reducible first | exact HB.out | apply below_alloc | apply pw_below_drewN | apply below_drew1 | refine below_set ?_ GE260.out) | exact HB.out)) hb); have n6_ := Aside0.mk (hbox); have n7_ := Aside0.mk ((by rw [hg]; exact (below_size (by repeat (first | (with_reducible first | exact HB.out | apply below_alloc | apply pw_below_drewN | apply below_drew1 | refine below_set ?_ GE260.out) | exact HB.out))) : w.heap.size ≤ gb286)); have n8_ := Aside0.mk ((by rw [hg]; exact (below_size (by repeat (first | (with_reducible first | exact HB.out | apply below_alloc | apply pw_below_drewN | apply below_drew1 | refine below_set ?_ GE260.out) | exact HB.out))) : w.heap.size ≤ gb286)); have n9_ := Aside0.mk ((by rw [hg]; exact Nat.ne_of_lt (blk_lt (g := gb260) (o := .cells #[.int .i64 x261000_1, .int .i64 x261001_1, .int .i64 x261002_1, .slice Ao62 x261003_1.length co62, .slice Ao63 x261004_1.length co63] 27 (0, 0)) (by (with_reducible repeat (first | refine blk_drewN ?_ _ | refine blk_drew ?_ | refine blk_alloc ?_ _)); exact BK260.out)) : gb260 ≠ gb286)); have n10_ := Aside0.mk ((by rw [hg]; exact Nat.ne_of_gt (blk_lt (g := gb260) (o := .cells #[.int .i64 x261000_1, .int .i64 x261001_1, .int .i64 x261002_1, .slice Ao62 x261003_1.length co62, .slice Ao63 x261004_1.length co63] 27 (0, 0)) (by (with_reducible repeat (first | refine blk_drewN ?_ _ | refine blk_drew ?_ | refine blk_alloc ?_ _)); exact BK260.out)) : gb286 ≠ gb260)); clear HO_261003; clear HO_261004; clear HO281; clear HO284; clear BK260; clear HB; have HO_261003 := n0_; have HO_261004 := n1_; have HO281 := n2_; have HO284 := n3_; have BK260 := n4_; have HB := n5_; have BK286 := n6_; have GW286 := n7_; have GE286 := n8_; have NB260_286 := n9_; have NB286_260 := n10_; clear n0_ n1_ n2_ n3_ n4_ n5_ n6_ n7_ n8_ n9_ n10_; clear hb hbox hg; have hnb66 := NB286_260.out; have hnc66 := NB260_286.out; have hcz67_0 : w65.cell? ⟨gb286, 0, none⟩ = some (.int .i64 0) := (blk_cell BK286.out 0).trans rfl; have hcz67_1 : w65.cell? ⟨gb286, 1, none⟩ = some (.int .i64 0) := (blk_cell BK286.out 1).trans rfl; have hcz67_2 : w65.cell? ⟨gb286, 2, none⟩ = some (.int .i64 0) := (blk_cell BK286.out 2).trans rfl; have hcz67_3 : w65.cell? ⟨gb286, 3, none⟩ = some (.slice none 0 0) := (blk_cell BK286.out 3).trans rfl; have hcz67_4 : w65.cell? ⟨gb286, 4, none⟩ = some (.slice none 0 0) := (blk_cell BK286.out 4).trans rfl; have hfz67_0 := blk_frozen BK286.out 0; have hfz67_1 := blk_frozen BK286.out 1; have hfz67_2 := blk_frozen BK286.out 2; have hfz67_3 := blk_frozen BK286.out 3; have hfz67_4 := blk_frozen BK286.out 4; obtain ⟨Ao68, co68, eo68⟩ := Kd.V_slice HO281.out; subst eo68; obtain ⟨Ao69, co69, eo69⟩ := Kd.V_slice HO284.out; subst eo69))
                go_ret
                exact ⟨by first | rfl | (simp [errW_none, errW_some] <;> rfl) | (simp [*, errW_none, errW_some] <;> rfl), by repeat (first | (with_reducible first | exact HB.out | apply below_alloc | apply pw_below_drewN | apply below_drew1 | refine below_set ?_ GE260.out | refine below_set ?_ GE286.out) | exact HB.out)⟩
          · rw [if_neg c7] at H
            exact absurd H (by simp)
        · rw [if_neg c6] at H
          exact absurd H (by simp)
      · rw [if_neg c5] at H
        have c5b0 : decide (x15_1 < (l2.length : Int)) = false := decide_eq_false c5
        clear c5
        obtain rfl := Option.some.inj H
        go_wp2
        go_ret
        exact ⟨by first | rfl | (simp [errW_none, errW_some] <;> rfl) | (simp [*, errW_none, errW_some] <;> rfl), by repeat (first | (with_reducible first | exact HB.out | apply below_alloc | apply pw_below_drewN | apply below_drew1 | refine below_set ?_ GE260.out) | exact HB.out)⟩

def laws_jpIndex.f (a0 : ByteArray) : Option (Bool) := if a0.toList = ([] : List UInt8) then (some false) else (if 0 < (a0.size : Int) then (some ((bt a0 0) == 91)) else (none))
set_option maxHeartbeats 8000000 in
set_option maxRecDepth 100000 in
theorem laws_jpIndex.calls (a0 : ByteArray) (r : Bool) (w : World) (h : laws_jpIndex.f a0 = some r) :
    Calls Tryd.prog 25 #[.string a0] w fun e w' => e = .returned (.bool r) ∧ Drawn0 w w' := by
  have H : (if a0.toList = ([] : List UInt8) then (some false) else (if 0 < (a0.size : Int) then (some ((bt a0 0) == 91)) else (none))) = some r := h
  clear h
  by_cases c2 : a0.toList = ([] : List UInt8)
  · rw [if_pos c2] at H
    have c2b0 : (a0.toList == ([] : List UInt8)) = true := beq_iff_eq.mpr c2
    have c2b1 : (a0.toList != ([] : List UInt8)) = false := bne_eq_false_iff_eq.mpr c2
    clear c2
    obtain rfl := Option.some.inj H
    go_enter Tryd.func25, Tryd.ntmps25
    go_wp2
    go_ret
    exact ⟨by first | rfl | (simp; done) | (simp [*]; done), by repeat (first | exact Drawn0.refl _ | apply Drawn0.step)⟩
  · rw [if_neg c2] at H
    have c2b0 : (a0.toList == ([] : List UInt8)) = false := beq_eq_false_iff_ne.mpr c2
    have c2b1 : (a0.toList != ([] : List UInt8)) = true := bne_iff_ne.mpr c2
    by_cases c3 : 0 < (a0.size : Int)
    · rw [if_pos c3] at H
      have c3b0 : decide (0 < (a0.size : Int)) = true := decide_eq_true c3
      have c3b1 : decide (0 < a0.size) = true := decide_eq_true (by omega)
      clear c3
      obtain rfl := Option.some.inj H
      have p4 : 0 ≤ (0 : Int) := (by omega)
      have q4 : 0 < a0.size := (by have : (0 : Int) < (a0.size : Int) := of_decide_eq_true (by first | (with_reducible assumption) | assumption); omega)
      have hx4 : ∀ h : 0 < a0.size, ((a0[0]'h).toNat : Int) = bt a0 0 := bt_at a0 0
      clear p4
      have qi4 : (0 < (a0.size : Int)) = True := eq_true (of_decide_eq_true (by first | (with_reducible assumption) | assumption))
      replace q4 := eq_true q4
      go_enter Tryd.func25, Tryd.ntmps25
      go_wp2
      go_ret
      exact ⟨by first | rfl | (simp; done) | (simp [*]; done), by repeat (first | exact Drawn0.refl _ | apply Drawn0.step)⟩
    · rw [if_neg c3] at H
      exact absurd H (by simp)

-- NOT PRINTED: function 9 (laws_jpFound)

end Go.Proofs.YthehnffmbdlopaaDoor.PFnJpGetRest
