/- Several texts in one. -/
import Derived.Test.YthehnffmbdlopaaDoorZPFnJpGetRestx0
import Derived.Test.YthehnffmbdlopaaDoorZGe
namespace Go.Proofs.YthehnffmbdlopaaDoor.PFnJpGetRest
open Go.RowKit Go.Proofs.YthehnffmbdlopaaDoorW.PrintWords Go.Proofs.YthehnffmbdlopaaDoorW.PrintLast Go.Proofs.YthehnffmbdlopaaDoorW.PrintMore
attribute [local go_sem] max2_int min2_int max_two min_two max_three min_three max_four min_four   -- for this text's walks alone
set_option linter.unusedVariables false
set_option linter.unusedSimpArgs false

def spec_Named.l0 : Nat → ByteArray → ByteArray → Int → Int → Int → Int → List (S43) → List (S27) → Option (Int)
  | 0, _, _, _, _, _, _, _, _ => none
  | k + 1, x0, x2, x7, x246000, x246001, x246002, x246003, x246004 => if x7 < (x246003.length : Int) then (if 0 ≤ x7 then (if 0 ≤ ((rd_T43 x246003 x7).f0) then (if ((rd_T43 x246003 x7).f0) ≤ ((rd_T43 x246003 x7).f1) then (if ((rd_T43 x246003 x7).f1) ≤ (x0.size : Int) then ((spec_Unquote.f k (x0.extract (((rd_T43 x246003 x7).f0) : Int).toNat (((rd_T43 x246003 x7).f1) : Int).toNat)).bind fun t248 => (if t248.toList = x2.toList then (some x7) else (spec_Named.l0 k x0 x2 (wrap64 (x7 + 1)) x246000 x246001 x246002 x246003 x246004))) else (none)) else (none)) else (none)) else (none)) else (some (-1))
def spec_Named.f (k : Nat) (a0 : ByteArray) (a1_0 : Int) (a1_1 : Int) (a1_2 : Int) (l1_3 : List (S43)) (l1_4 : List (S27)) (a2 : ByteArray) : Option (Int) := spec_Named.l0 k a0 a2 0 a1_0 a1_1 a1_2 l1_3 l1_4
theorem spec_Named.mono_l : ∀ k, (∀ y0 y1 y2 y3 y4 y5 y6 y7, LeO (spec_Named.l0 k y0 y1 y2 y3 y4 y5 y6 y7) (spec_Named.l0 (k + 1) y0 y1 y2 y3 y4 y5 y6 y7))
  | 0 => fun _ _ _ _ _ _ _ _ r h => by simp [spec_Named.l0] at h
  | k + 1 => by
    have ih0 := spec_Named.mono_l k
    · intro y0 y1 y2 y3 y4 y5 y6 y7
      unfold spec_Named.l0
      repeat' first
      | (with_reducible exact ih0 _ _ _ _ _ _ _ _)
      | (with_reducible exact spec_Unquote.mono _ _)
      | (with_reducible exact LeO.refl _)
      | (with_reducible exact LeO.none _)
      | (with_reducible refine LeO.ite ?_ ?_)
      | (with_reducible refine LeO.bind ?_ (fun _ => ?_))
      | exact ih0 _ _ _ _ _ _ _ _
      | exact spec_Unquote.mono _ _
      | exact LeO.none _
      | refine LeO.ite ?_ ?_
      | refine LeO.bind ?_ (fun _ => ?_)
theorem spec_Named.mono : ∀ a0 a1 a2 a3 a4 a5 a6 k, LeO (spec_Named.f k a0 a1 a2 a3 a4 a5 a6) (spec_Named.f (k + 1) a0 a1 a2 a3 a4 a5 a6) := by
  intro a0 a1 a2 a3 a4 a5 a6 k
  have ih0 := spec_Named.mono_l k
  unfold spec_Named.f
  repeat' first
      | (with_reducible exact ih0 _ _ _ _ _ _ _ _)
      | (with_reducible exact spec_Unquote.mono _ _)
      | (with_reducible exact LeO.refl _)
      | (with_reducible exact LeO.none _)
      | (with_reducible refine LeO.ite ?_ ?_)
      | (with_reducible refine LeO.bind ?_ (fun _ => ?_))
      | exact ih0 _ _ _ _ _ _ _ _
      | exact spec_Unquote.mono _ _
      | exact LeO.none _
      | refine LeO.ite ?_ ?_
      | refine LeO.bind ?_ (fun _ => ?_)
def spec_Named.T4 : Bool × List (List Nat × List Nat) := (true, [([], []), ([], []), ([1], [1]), ([], []), ([2, 3], [2, 3]), ([4], [4]), ([5], [5]), ([], []), ([7], [7]), ([], []), ([8, 9], [8, 9]), ([10], [10]), ([11], [11]), ([0, 6, 12], [0, 6, 12]), ([13], [13]), ([], []), ([14, 15], [14, 15])])
def spec_Named.B4 : List Nat := [0, 0, 2, 0, 14, 30, 62, 0, 128, 0, 896, 1920, 3968, 8191, 16383, 0, 65535]
theorem spec_Named.tab4 : rtab .any (opsOf Tryd.f16 4) = spec_Named.T4 := by kernel_rfl
theorem spec_Named.bits4 : waitsOk spec_Named.T4.2 spec_Named.B4 = true := by kernel_rfl
set_option maxHeartbeats 8000000 in
set_option maxRecDepth 100000 in
theorem spec_Named.calls (k : Nat) (a0 : ByteArray) (a1_0 : Int) (a1_1 : Int) (a1_2 : Int) (A1_3 : Option Addr) (c1_3 : Nat) (l1_3 : List (S43)) (A1_4 : Option Addr) (c1_4 : Nat) (l1_4 : List (S27)) (a2 : ByteArray) (r : Int) (w : World) (hr1_3 : Kd.C k43 w A1_3 l1_3.length l1_3) (hc1_3 : l1_3.length ≤ c1_3) (hr1_4 : Kd.C k27 w A1_4 l1_4.length l1_4) (hc1_4 : l1_4.length ≤ c1_4) (h : spec_Named.f k a0 a1_0 a1_1 a1_2 l1_3 l1_4 a2 = some r) :
    Calls Tryd.prog 16 #[.string a0, .agg #[.int .i64 a1_0, .int .i64 a1_1, .int .i64 a1_2, .slice A1_3 l1_3.length c1_3, .slice A1_4 l1_4.length c1_4], .string a2] w fun e w' => e = .returned (.int .i64 r) ∧ Below w.heap.size w w' := by
  have hu27 := Tryd.underlying27
  have HR1_3 := Aside0.mk hr1_3
  have HC1_3 := Aside0.mk hc1_3
  clear hr1_3 hc1_3
  have HR1_4 := Aside0.mk hr1_4
  have HC1_4 := Aside0.mk hc1_4
  clear hr1_4 hc1_4
  have HB := Aside0.mk (Below.refl w.heap.size w)
  have H : (spec_Named.l0 k a0 a2 0 a1_0 a1_1 a1_2 l1_3 l1_4) = some r := h
  clear h
  have H' := Aside0.mk H
  clear H
  go_enter Tryd.func16, Tryd.ntmps16
  go_wp2_with (first | ((with_reducible refine gate_dst (N := 4) rfl ?_); refine box_event ?hg (N := 4) ?hd (cs := #[.int .i64 a1_0, .int .i64 a1_1, .int .i64 a1_2, .slice A1_3 l1_3.length c1_3, .slice A1_4 l1_4.length c1_4]) (t := 27) ?hr ?_; (case hd => rfl); (case hg => rfl); (case hr => first | (go_simp; done) | (go_simp; rfl)); intro gb245 hg w4 hbox hb; have n0_ := Aside0.mk (below_step (by repeat (first | (with_reducible first | exact HB.out | apply below_alloc | apply pw_below_drewN | apply below_drew1) | exact HB.out)) hb); have n1_ := Aside0.mk (hbox); have n2_ := Aside0.mk ((by rw [hg]; exact (below_size (by repeat (first | (with_reducible first | exact HB.out | apply below_alloc | apply pw_below_drewN | apply below_drew1) | exact HB.out))) : w.heap.size ≤ gb245)); have n3_ := Aside0.mk ((by rw [hg]; exact (below_size (by repeat (first | (with_reducible first | exact HB.out | apply below_alloc | apply pw_below_drewN | apply below_drew1) | exact HB.out))) : w.heap.size ≤ gb245)); clear HB; have HB := n0_; have BK245 := n1_; have GW245 := n2_; have GE245 := n3_; clear n0_ n1_ n2_ n3_; clear hb hbox hg))
  go_loopg [7] k (fun kq v7 w' => ∃ (x7_1 : Int), v7 = .int .i64 x7_1 ∧ Aside0 (spec_Named.l0 kq a0 a2 x7_1 a1_0 a1_1 a1_2 l1_3 l1_4 = some r) ∧ Aside0 (kq ≤ k) ∧ Aside0 (w'.heap[gb245]? = some (.cells #[.int .i64 a1_0, .int .i64 a1_1, .int .i64 a1_2, (.slice A1_3 l1_3.length c1_3), (.slice A1_4 l1_4.length c1_4)] 27 (0, 0))) ∧ Aside0 (Below w.heap.size w w'))
  case atStart => exact ⟨(0), (by first | rfl | (simp; done) | (simp [*]; done)), H', ⟨Nat.le_refl _⟩, ⟨by (with_reducible repeat (first | refine blk_drewN ?_ _ | refine blk_drew ?_ | refine blk_alloc ?_ _)); exact BK245.out⟩, ⟨by repeat (first | (with_reducible first | exact HB.out | apply below_alloc | apply pw_below_drewN | apply below_drew1 | refine below_set ?_ GE245.out) | exact HB.out)⟩⟩
  case round =>
    clear H'
    try clear c1
    try clear p2
    obtain ⟨x7_1, rfl, HA, HK1, BK245, HB⟩ := hrel
    cases gk with
    | zero => exact absurd HA.out (by simp [spec_Named.l0])
    | succ k1 =>
      have H := HA.out
      clear HA
      simp only [spec_Named.l0] at H
      by_cases c5 : x7_1 < (l1_3.length : Int)
      · rw [if_pos c5] at H
        have c5b0 : decide (x7_1 < (l1_3.length : Int)) = true := decide_eq_true c5
        clear c5
        by_cases c6 : 0 ≤ x7_1
        · rw [if_pos c6] at H
          have c6b0 : decide (0 ≤ x7_1) = true := decide_eq_true c6
          clear c6
          by_cases c7 : 0 ≤ ((rd_T43 l1_3 x7_1).f0)
          · rw [if_pos c7] at H
            have c7b0 := eq_true c7
            have c7b1 : decide (0 ≤ ((rd_T43 l1_3 x7_1).f0)) = true := decide_eq_true c7
            clear c7
            by_cases c8 : ((rd_T43 l1_3 x7_1).f0) ≤ ((rd_T43 l1_3 x7_1).f1)
            · rw [if_pos c8] at H
              have c8b0 := eq_true c8
              have c8b1 : decide (((rd_T43 l1_3 x7_1).f0) ≤ ((rd_T43 l1_3 x7_1).f1)) = true := decide_eq_true c8
              clear c8
              by_cases c9 : ((rd_T43 l1_3 x7_1).f1) ≤ (a0.size : Int)
              · rw [if_pos c9] at H
                have c9b0 := eq_true c9
                have c9b1 : decide (((rd_T43 l1_3 x7_1).f1) ≤ (a0.size : Int)) = true := decide_eq_true c9
                clear c9
                replace H := Option.bind_eq_some_iff.mp H
                obtain ⟨t248, A100, H⟩ := H
                replace H : (if t248.toList = a2.toList then (some x7_1) else (spec_Named.l0 k1 a0 a2 (wrap64 (x7_1 + 1)) a1_0 a1_1 a1_2 l1_3 l1_4)) = some r := H
                have A10 := Aside0.mk A100
                clear A100
                by_cases c11 : t248.toList = a2.toList
                · rw [if_pos c11] at H
                  have c11b0 : (t248.toList == a2.toList) = true := beq_iff_eq.mpr c11
                  have c11b1 : (t248.toList != a2.toList) = false := bne_eq_false_iff_eq.mpr c11
                  clear c11
                  obtain rfl := Option.some.inj H
                  have hcz12_0 : wr.cell? ⟨gb245, 0, none⟩ = some (.int .i64 a1_0) := (blk_cell BK245.out 0).trans rfl
                  have hcz12_1 : wr.cell? ⟨gb245, 1, none⟩ = some (.int .i64 a1_1) := (blk_cell BK245.out 1).trans rfl
                  have hcz12_2 : wr.cell? ⟨gb245, 2, none⟩ = some (.int .i64 a1_2) := (blk_cell BK245.out 2).trans rfl
                  have hcz12_3 : wr.cell? ⟨gb245, 3, none⟩ = some (.slice A1_3 l1_3.length c1_3) := (blk_cell BK245.out 3).trans rfl
                  have hcz12_4 : wr.cell? ⟨gb245, 4, none⟩ = some (.slice A1_4 l1_4.length c1_4) := (blk_cell BK245.out 4).trans rfl
                  have hfz12_0 := blk_frozen BK245.out 0
                  have hfz12_1 := blk_frozen BK245.out 1
                  have hfz12_2 := blk_frozen BK245.out 2
                  have hfz12_3 := blk_frozen BK245.out 3
                  have hfz12_4 := blk_frozen BK245.out 4
                  try go_wp2
                  have n0_ := Aside0.mk (blk_drew BK245.out)
                  have n1_ := Aside0.mk (below_drew1 HB.out)
                  clear BK245
                  clear HB
                  have BK245 := n0_
                  have HB := n1_
                  clear n0_ n1_
                  have p246 : 0 ≤ (x7_1 : Int) := of_decide_eq_true (by first | (with_reducible assumption) | assumption)
                  have q246 : x7_1 < (l1_3.length : Int) := of_decide_eq_true (by first | (with_reducible assumption) | assumption)
                  obtain ⟨ad246, e246, hx246_0, hx246_1⟩ := at_T43 HR1_3.out x7_1 p246 q246
                  have hw246_1 := hx246_1
                  have hw246_0 := hx246_0
                  cases e246
                  replace hx246_0 := (HB.out.cell (World.block_lt_of_cell? w _ hx246_0)).trans hx246_0
                  replace hx246_1 := (HB.out.cell (World.block_lt_of_cell? w _ hx246_1)).trans hx246_1
                  replace p246 := eq_true p246
                  replace q246 := eq_true q246
                  have p247 : 0 ≤ (x7_1 : Int) := of_decide_eq_true (by first | (with_reducible assumption) | assumption)
                  have q247 : x7_1 < (l1_3.length : Int) := of_decide_eq_true (by first | (with_reducible assumption) | assumption)
                  obtain ⟨ad247, e247, hx247_0, hx247_1⟩ := at_T43 HR1_3.out x7_1 p247 q247
                  have hw247_1 := hx247_1
                  have hw247_0 := hx247_0
                  obtain rfl : ad246 = ad247 := (by injection e247)
                  replace hx247_0 := (HB.out.cell (World.block_lt_of_cell? w _ hx247_0)).trans hx247_0
                  replace hx247_1 := (HB.out.cell (World.block_lt_of_cell? w _ hx247_1)).trans hx247_1
                  replace p247 := eq_true p247
                  replace q247 := eq_true q247
                  refine start_ (n := 17) (S := fun w' => w'.cell? ⟨gb245, 0, none⟩ = some (.int .i64 a1_0) ∧ w'.cell? ⟨gb245, 1, none⟩ = some (.int .i64 a1_1) ∧ w'.cell? ⟨gb245, 2, none⟩ = some (.int .i64 a1_2) ∧ w'.cell? ⟨gb245, 3, none⟩ = some (.slice (some ad246) l1_3.length c1_3) ∧ w'.cell? ⟨gb245, 4, none⟩ = some (.slice A1_4 l1_4.length c1_4) ∧ w'.cell? (ad246.add ((x7_1).toNat * 2)) = some (.int .i64 ((rd_T43 l1_3 x7_1).f0)) ∧ w'.cell? ⟨(ad246.add ((x7_1).toNat * 2)).block, (ad246.add ((x7_1).toNat * 2)).off + 1, none⟩ = some (.int .i64 ((rd_T43 l1_3 x7_1).f1)) ∧ w'.cell? (ad246.add ((x7_1).toNat * 2)) = some (.int .i64 ((rd_T43 l1_3 x7_1).f0)) ∧ w'.cell? ⟨(ad246.add ((x7_1).toNat * 2)).block, (ad246.add ((x7_1).toNat * 2)).off + 1, none⟩ = some (.int .i64 ((rd_T43 l1_3 x7_1).f1))) (ds := []) #[false, false, false, false, false, false, false, false, false, false, false, false, false, false, false, false, false] (by kernel_rfl) rfl rfl ⟨(blk_cell BK245.out 0).trans rfl, (blk_cell BK245.out 1).trans rfl, (blk_cell BK245.out 2).trans rfl, (blk_cell BK245.out 3).trans rfl, (blk_cell BK245.out 4).trans rfl, ((HB.out.cell (World.block_lt_of_cell? w _ hw246_0)).trans hw246_0), ((HB.out.cell (World.block_lt_of_cell? w _ hw246_1)).trans hw246_1), ((HB.out.cell (World.block_lt_of_cell? w _ hw247_0)).trans hw247_0), ((HB.out.cell (World.block_lt_of_cell? w _ hw247_1)).trans hw247_1)⟩ (fun hHeld => ?_); refine with_tabW spec_Named.tab4 spec_Named.bits4 (fun HT_ HW_ => ?_)
                  generalize wr.drew = w13 at BK245 HB hx246_0 hx246_1 hx247_0 hx247_1 hHeld ⊢
                  refine pure_ (i := 0) (N := some 15) (v := ?_) (a' := ?_) #[true, false, false, false, false, false, false, false, false, false, false, false, false, false, false, false, false] rfl rfl (any_of HT_.out (by kernel_rfl)) (fun _ _ _ h => h) (Or.inl ⟨by rfl, ?_⟩) ?_ ?_
                  rotate_left
                  · intro w'
                    go_simp
                    with_reducible rfl
                  rotate_left
                  · simp only [Act.put, List.setIfInBounds_toArray, List.set_cons_zero, List.set_cons_succ, i64_w, i32_w]
                    rfl
                  refine pure_ (i := 1) (N := some 16) (v := ?_) (a' := ?_) #[true, true, false, false, false, false, false, false, false, false, false, false, false, false, false, false, false] rfl rfl (any_of HT_.out (by kernel_rfl)) (fun _ _ _ h => h) (Or.inl ⟨by rfl, ?_⟩) ?_ ?_
                  rotate_left
                  · intro w'
                    go_simp
                    with_reducible rfl
                  rotate_left
                  · simp only [Act.put, List.setIfInBounds_toArray, List.set_cons_zero, List.set_cons_succ, i64_w, i32_w]
                    rfl
                  refine pure_ (i := 3) (N := some 18) (v := ?_) (a' := ?_) #[true, true, false, true, false, false, false, false, false, false, false, false, false, false, false, false, false] rfl rfl (any_of HT_.out (by kernel_rfl)) (fun _ _ _ h => h) (Or.inl ⟨by rfl, ?_⟩) ?_ ?_
                  rotate_left
                  · intro w'
                    go_simp
                    with_reducible rfl
                  rotate_left
                  · simp only [Act.put, List.setIfInBounds_toArray, List.set_cons_zero, List.set_cons_succ, i64_w, i32_w]
                    rfl
                  refine pure_ (i := 7) (N := some 22) (v := ?_) (a' := ?_) #[true, true, false, true, false, false, false, true, false, false, false, false, false, false, false, false, false] rfl rfl (any_of HT_.out (by kernel_rfl)) (fun _ _ _ h => h) (Or.inl ⟨by rfl, ?_⟩) ?_ ?_
                  rotate_left
                  · intro w'
                    go_simp
                    with_reducible rfl
                  rotate_left
                  · simp only [Act.put, List.setIfInBounds_toArray, List.set_cons_zero, List.set_cons_succ, i64_w, i32_w]
                    rfl
                  refine pure_ (i := 9) (N := some 24) (v := ?_) (a' := ?_) #[true, true, false, true, false, false, false, true, false, true, false, false, false, false, false, false, false] rfl rfl (any_of HT_.out (by kernel_rfl)) (fun _ _ _ h => h) (Or.inl ⟨by rfl, ?_⟩) ?_ ?_
                  rotate_left
                  · intro w'
                    go_simp
                    with_reducible rfl
                  rotate_left
                  · simp only [Act.put, List.setIfInBounds_toArray, List.set_cons_zero, List.set_cons_succ, i64_w, i32_w]
                    rfl
                  refine pure_ (i := 15) (N := some 30) (v := ?_) (a' := ?_) #[true, true, false, true, false, false, false, true, false, true, false, false, false, false, false, true, false] rfl rfl (any_of HT_.out (by kernel_rfl)) (fun _ _ _ h => h) (Or.inl ⟨by rfl, ?_⟩) ?_ ?_
                  rotate_left
                  · intro w'
                    go_simp
                    with_reducible rfl
                  rotate_left
                  · simp only [Act.put, List.setIfInBounds_toArray, List.set_cons_zero, List.set_cons_succ, i64_w, i32_w]
                    rfl
                  refine take_ (i := 2) (N := some 17) (v := ?_) (a' := ?_) #[true, true, true, true, false, false, false, true, false, true, false, false, false, false, false, true, false] rfl rfl (take_ofW HT_.out HW_.out (by kernel_rfl)) (fun _ _ _ h => h) (Or.inl ⟨by rfl, ?_⟩) hHeld ?_ ?_
                  rotate_left
                  · rintro w' ⟨s0, s1, s2, s3, s4, s5, s6, s7, s8⟩
                    go_simp
                    with_reducible rfl
                  rotate_left
                  · simp only [Act.put, List.setIfInBounds_toArray, List.set_cons_zero, List.set_cons_succ, i64_w, i32_w]
                    rfl
                  refine pure_ (i := 4) (N := some 19) (v := ?_) (a' := ?_) #[true, true, true, true, true, false, false, true, false, true, false, false, false, false, false, true, false] rfl rfl (any_of HT_.out (by kernel_rfl)) (fun _ _ _ h => h) (Or.inl ⟨by rfl, ?_⟩) ?_ ?_
                  rotate_left
                  · intro w'
                    go_simp
                    with_reducible rfl
                  rotate_left
                  · simp only [Act.put, List.setIfInBounds_toArray, List.set_cons_zero, List.set_cons_succ, i64_w, i32_w]
                    rfl
                  refine pure_ (i := 5) (N := some 20) (v := ?_) (a' := ?_) #[true, true, true, true, true, true, false, true, false, true, false, false, false, false, false, true, false] rfl rfl (any_of HT_.out (by kernel_rfl)) (fun _ _ _ h => h) (Or.inl ⟨by rfl, ?_⟩) ?_ ?_
                  rotate_left
                  · intro w'
                    go_simp
                    with_reducible rfl
                  rotate_left
                  · simp only [Act.put, List.setIfInBounds_toArray, List.set_cons_zero, List.set_cons_succ, i64_w, i32_w]
                    rfl
                  refine take_ (i := 6) (N := some 21) (v := ?_) (a' := ?_) #[true, true, true, true, true, true, true, true, false, true, false, false, false, false, false, true, false] rfl rfl (take_ofW HT_.out HW_.out (by kernel_rfl)) (fun _ _ _ h => h) (Or.inl ⟨by rfl, ?_⟩) hHeld ?_ ?_
                  rotate_left
                  · rintro w' ⟨s0, s1, s2, s3, s4, s5, s6, s7, s8⟩
                    go_simp
                    with_reducible rfl
                  rotate_left
                  · simp only [Act.put, List.setIfInBounds_toArray, List.set_cons_zero, List.set_cons_succ, i64_w, i32_w]
                    rfl
                  refine take_ (i := 8) (N := some 23) (v := ?_) (a' := ?_) #[true, true, true, true, true, true, true, true, true, true, false, false, false, false, false, true, false] rfl rfl (take_ofW HT_.out HW_.out (by kernel_rfl)) (fun _ _ _ h => h) (Or.inl ⟨by rfl, ?_⟩) hHeld ?_ ?_
                  rotate_left
                  · rintro w' ⟨s0, s1, s2, s3, s4, s5, s6, s7, s8⟩
                    go_simp
                    with_reducible rfl
                  rotate_left
                  · simp only [Act.put, List.setIfInBounds_toArray, List.set_cons_zero, List.set_cons_succ, i64_w, i32_w]
                    rfl
                  refine pure_ (i := 10) (N := some 25) (v := ?_) (a' := ?_) #[true, true, true, true, true, true, true, true, true, true, true, false, false, false, false, true, false] rfl rfl (any_of HT_.out (by kernel_rfl)) (fun _ _ _ h => h) (Or.inl ⟨by rfl, ?_⟩) ?_ ?_
                  rotate_left
                  · intro w'
                    go_simp
                    with_reducible rfl
                  rotate_left
                  · simp only [Act.put, List.setIfInBounds_toArray, List.set_cons_zero, List.set_cons_succ, i64_w, i32_w]
                    rfl
                  refine pure_ (i := 11) (N := some 26) (v := ?_) (a' := ?_) #[true, true, true, true, true, true, true, true, true, true, true, true, false, false, false, true, false] rfl rfl (any_of HT_.out (by kernel_rfl)) (fun _ _ _ h => h) (Or.inl ⟨by rfl, ?_⟩) ?_ ?_
                  rotate_left
                  · intro w'
                    go_simp
                    with_reducible rfl
                  rotate_left
                  · simp only [Act.put, List.setIfInBounds_toArray, List.set_cons_zero, List.set_cons_succ, i64_w, i32_w]
                    rfl
                  refine take_ (i := 12) (N := some 27) (v := ?_) (a' := ?_) #[true, true, true, true, true, true, true, true, true, true, true, true, true, false, false, true, false] rfl rfl (take_ofW HT_.out HW_.out (by kernel_rfl)) (fun _ _ _ h => h) (Or.inl ⟨by rfl, ?_⟩) hHeld ?_ ?_
                  rotate_left
                  · rintro w' ⟨s0, s1, s2, s3, s4, s5, s6, s7, s8⟩
                    go_simp
                    with_reducible rfl
                  rotate_left
                  · simp only [Act.put, List.setIfInBounds_toArray, List.set_cons_zero, List.set_cons_succ, i64_w, i32_w]
                    rfl
                  refine pure_ (i := 13) (N := some 28) (v := ?_) (a' := ?_) #[true, true, true, true, true, true, true, true, true, true, true, true, true, true, false, true, false] rfl rfl (any_of HT_.out (by kernel_rfl)) (fun _ _ _ h => h) (Or.inl ⟨by rfl, ?_⟩) ?_ ?_
                  rotate_left
                  · intro w'
                    go_simp
                    with_reducible rfl
                  rotate_left
                  · simp only [Act.put, List.setIfInBounds_toArray, List.set_cons_zero, List.set_cons_succ, i64_w, i32_w]
                    rfl
                  refine one_ (i := 14) (N := some 29) #[true, true, true, true, true, true, true, true, true, true, true, true, true, true, true, true, false] rfl rfl (one_of HT_.out (by kernel_rfl)) (by decide) (fun K hK => ?_)
                  refine goes_ Tryd.func22 (by kernel_rfl) rfl #[.string (a0.extract (((rd_T43 l1_3 x7_1).f0) : Int).toNat (((rd_T43 l1_3 x7_1).f1) : Int).toNat)] (by rfl) rfl rfl (by (try simp only [List.map_toArray, List.map_cons, List.map_nil]); first | done | rfl | (simp only [List.length_drop, List.length_take]; rfl)) ?_
                  with_reducible refine (spec_Unquote.calls k1 (a0.extract (((rd_T43 l1_3 x7_1).f0) : Int).toNat (((rd_T43 l1_3 x7_1).f1) : Int).toNat) t248 _ A10.out).mono ?_
                  rintro e w14 ⟨rfl, hb⟩
                  refine ⟨_, rfl, ?_⟩
                  have n0_ := Aside0.mk (blk_below (g := gb245) (o := .cells #[.int .i64 a1_0, .int .i64 a1_1, .int .i64 a1_2, .slice (some ad246) l1_3.length c1_3, .slice A1_4 l1_4.length c1_4] 27 (0, 0)) (by (with_reducible repeat (first | refine blk_drewN ?_ _ | refine blk_drew ?_ | refine blk_alloc ?_ _)); exact BK245.out) hb)
                  have n1_ := Aside0.mk (below_step (by repeat (first | (with_reducible first | exact HB.out | apply below_alloc | apply pw_below_drewN | apply below_drew1 | refine below_set ?_ GE245.out) | exact HB.out)) hb)
                  clear BK245
                  clear HB
                  have BK245 := n0_
                  have HB := n1_
                  clear n0_ n1_
                  (try clear hb)
                  (try clear hb2)
                  (try clear hk)
                  (try clear hi)
                  refine hK.out _ _ ⟨(blk_cell BK245.out 0).trans rfl, (blk_cell BK245.out 1).trans rfl, (blk_cell BK245.out 2).trans rfl, (blk_cell BK245.out 3).trans rfl, (blk_cell BK245.out 4).trans rfl, ((HB.out.cell (World.block_lt_of_cell? w _ hw246_0)).trans hw246_0), ((HB.out.cell (World.block_lt_of_cell? w _ hw246_1)).trans hw246_1), ((HB.out.cell (World.block_lt_of_cell? w _ hw247_0)).trans hw247_0), ((HB.out.cell (World.block_lt_of_cell? w _ hw247_1)).trans hw247_1)⟩ (fun hHeld => ?_)
                  clear hK K
                  refine norm_ (a' := ?_) ?_ ?_
                  rotate_left
                  · show Act.put _ (some 29) _ = _
                    simp only [Act.put, List.setIfInBounds_toArray, List.set_cons_zero, List.set_cons_succ, i64_w, i32_w]
                    rfl
                  refine pure_ (i := 16) (N := some 31) (v := ?_) (a' := ?_) #[true, true, true, true, true, true, true, true, true, true, true, true, true, true, true, true, true] rfl rfl (any_of HT_.out (by kernel_rfl)) (fun _ _ _ h => h) (Or.inl ⟨by rfl, ?_⟩) ?_ ?_
                  rotate_left
                  · intro w'
                    go_simp
                    with_reducible rfl
                  rotate_left
                  · simp only [Act.put, List.setIfInBounds_toArray, List.set_cons_zero, List.set_cons_succ, i64_w, i32_w]
                    rfl
                  refine done_ (done_of HT_.out (by kernel_rfl)) ?_
                  try go_wp2
                  go_ret
                  exact ⟨by first | rfl | (simp [errW_none, errW_some] <;> rfl) | (simp [*, errW_none, errW_some] <;> rfl), by repeat (first | (with_reducible first | exact HB.out | apply below_alloc | apply pw_below_drewN | apply below_drew1 | refine below_set ?_ GE245.out) | exact HB.out)⟩
                · rw [if_neg c11] at H
                  have c11b0 : (t248.toList == a2.toList) = false := beq_eq_false_iff_ne.mpr c11
                  have c11b1 : (t248.toList != a2.toList) = true := bne_iff_ne.mpr c11
                  have H' := Aside0.mk H
                  clear H
                  have hcz15_0 : wr.cell? ⟨gb245, 0, none⟩ = some (.int .i64 a1_0) := (blk_cell BK245.out 0).trans rfl
                  have hcz15_1 : wr.cell? ⟨gb245, 1, none⟩ = some (.int .i64 a1_1) := (blk_cell BK245.out 1).trans rfl
                  have hcz15_2 : wr.cell? ⟨gb245, 2, none⟩ = some (.int .i64 a1_2) := (blk_cell BK245.out 2).trans rfl
                  have hcz15_3 : wr.cell? ⟨gb245, 3, none⟩ = some (.slice A1_3 l1_3.length c1_3) := (blk_cell BK245.out 3).trans rfl
                  have hcz15_4 : wr.cell? ⟨gb245, 4, none⟩ = some (.slice A1_4 l1_4.length c1_4) := (blk_cell BK245.out 4).trans rfl
                  have hfz15_0 := blk_frozen BK245.out 0
                  have hfz15_1 := blk_frozen BK245.out 1
                  have hfz15_2 := blk_frozen BK245.out 2
                  have hfz15_3 := blk_frozen BK245.out 3
                  have hfz15_4 := blk_frozen BK245.out 4
                  try go_wp2
                  have n0_ := Aside0.mk (blk_drew BK245.out)
                  have n1_ := Aside0.mk (below_drew1 HB.out)
                  clear BK245
                  clear HB
                  have BK245 := n0_
                  have HB := n1_
                  clear n0_ n1_
                  have p246 : 0 ≤ (x7_1 : Int) := of_decide_eq_true (by first | (with_reducible assumption) | assumption)
                  have q246 : x7_1 < (l1_3.length : Int) := of_decide_eq_true (by first | (with_reducible assumption) | assumption)
                  obtain ⟨ad246, e246, hx246_0, hx246_1⟩ := at_T43 HR1_3.out x7_1 p246 q246
                  have hw246_1 := hx246_1
                  have hw246_0 := hx246_0
                  cases e246
                  replace hx246_0 := (HB.out.cell (World.block_lt_of_cell? w _ hx246_0)).trans hx246_0
                  replace hx246_1 := (HB.out.cell (World.block_lt_of_cell? w _ hx246_1)).trans hx246_1
                  replace p246 := eq_true p246
                  replace q246 := eq_true q246
                  have p247 : 0 ≤ (x7_1 : Int) := of_decide_eq_true (by first | (with_reducible assumption) | assumption)
                  have q247 : x7_1 < (l1_3.length : Int) := of_decide_eq_true (by first | (with_reducible assumption) | assumption)
                  obtain ⟨ad247, e247, hx247_0, hx247_1⟩ := at_T43 HR1_3.out x7_1 p247 q247
                  have hw247_1 := hx247_1
                  have hw247_0 := hx247_0
                  obtain rfl : ad246 = ad247 := (by injection e247)
                  replace hx247_0 := (HB.out.cell (World.block_lt_of_cell? w _ hx247_0)).trans hx247_0
                  replace hx247_1 := (HB.out.cell (World.block_lt_of_cell? w _ hx247_1)).trans hx247_1
                  replace p247 := eq_true p247
                  replace q247 := eq_true q247
                  refine start_ (n := 17) (S := fun w' => w'.cell? ⟨gb245, 0, none⟩ = some (.int .i64 a1_0) ∧ w'.cell? ⟨gb245, 1, none⟩ = some (.int .i64 a1_1) ∧ w'.cell? ⟨gb245, 2, none⟩ = some (.int .i64 a1_2) ∧ w'.cell? ⟨gb245, 3, none⟩ = some (.slice (some ad246) l1_3.length c1_3) ∧ w'.cell? ⟨gb245, 4, none⟩ = some (.slice A1_4 l1_4.length c1_4) ∧ w'.cell? (ad246.add ((x7_1).toNat * 2)) = some (.int .i64 ((rd_T43 l1_3 x7_1).f0)) ∧ w'.cell? ⟨(ad246.add ((x7_1).toNat * 2)).block, (ad246.add ((x7_1).toNat * 2)).off + 1, none⟩ = some (.int .i64 ((rd_T43 l1_3 x7_1).f1)) ∧ w'.cell? (ad246.add ((x7_1).toNat * 2)) = some (.int .i64 ((rd_T43 l1_3 x7_1).f0)) ∧ w'.cell? ⟨(ad246.add ((x7_1).toNat * 2)).block, (ad246.add ((x7_1).toNat * 2)).off + 1, none⟩ = some (.int .i64 ((rd_T43 l1_3 x7_1).f1))) (ds := []) #[false, false, false, false, false, false, false, false, false, false, false, false, false, false, false, false, false] (by kernel_rfl) rfl rfl ⟨(blk_cell BK245.out 0).trans rfl, (blk_cell BK245.out 1).trans rfl, (blk_cell BK245.out 2).trans rfl, (blk_cell BK245.out 3).trans rfl, (blk_cell BK245.out 4).trans rfl, ((HB.out.cell (World.block_lt_of_cell? w _ hw246_0)).trans hw246_0), ((HB.out.cell (World.block_lt_of_cell? w _ hw246_1)).trans hw246_1), ((HB.out.cell (World.block_lt_of_cell? w _ hw247_0)).trans hw247_0), ((HB.out.cell (World.block_lt_of_cell? w _ hw247_1)).trans hw247_1)⟩ (fun hHeld => ?_); refine with_tabW spec_Named.tab4 spec_Named.bits4 (fun HT_ HW_ => ?_)
                  generalize wr.drew = w16 at BK245 HB hx246_0 hx246_1 hx247_0 hx247_1 hHeld ⊢
                  refine pure_ (i := 0) (N := some 15) (v := ?_) (a' := ?_) #[true, false, false, false, false, false, false, false, false, false, false, false, false, false, false, false, false] rfl rfl (any_of HT_.out (by kernel_rfl)) (fun _ _ _ h => h) (Or.inl ⟨by rfl, ?_⟩) ?_ ?_
                  rotate_left
                  · intro w'
                    go_simp
                    with_reducible rfl
                  rotate_left
                  · simp only [Act.put, List.setIfInBounds_toArray, List.set_cons_zero, List.set_cons_succ, i64_w, i32_w]
                    rfl
                  refine pure_ (i := 1) (N := some 16) (v := ?_) (a' := ?_) #[true, true, false, false, false, false, false, false, false, false, false, false, false, false, false, false, false] rfl rfl (any_of HT_.out (by kernel_rfl)) (fun _ _ _ h => h) (Or.inl ⟨by rfl, ?_⟩) ?_ ?_
                  rotate_left
                  · intro w'
                    go_simp
                    with_reducible rfl
                  rotate_left
                  · simp only [Act.put, List.setIfInBounds_toArray, List.set_cons_zero, List.set_cons_succ, i64_w, i32_w]
                    rfl
                  refine pure_ (i := 3) (N := some 18) (v := ?_) (a' := ?_) #[true, true, false, true, false, false, false, false, false, false, false, false, false, false, false, false, false] rfl rfl (any_of HT_.out (by kernel_rfl)) (fun _ _ _ h => h) (Or.inl ⟨by rfl, ?_⟩) ?_ ?_
                  rotate_left
                  · intro w'
                    go_simp
                    with_reducible rfl
                  rotate_left
                  · simp only [Act.put, List.setIfInBounds_toArray, List.set_cons_zero, List.set_cons_succ, i64_w, i32_w]
                    rfl
                  refine pure_ (i := 7) (N := some 22) (v := ?_) (a' := ?_) #[true, true, false, true, false, false, false, true, false, false, false, false, false, false, false, false, false] rfl rfl (any_of HT_.out (by kernel_rfl)) (fun _ _ _ h => h) (Or.inl ⟨by rfl, ?_⟩) ?_ ?_
                  rotate_left
                  · intro w'
                    go_simp
                    with_reducible rfl
                  rotate_left
                  · simp only [Act.put, List.setIfInBounds_toArray, List.set_cons_zero, List.set_cons_succ, i64_w, i32_w]
                    rfl
                  refine pure_ (i := 9) (N := some 24) (v := ?_) (a' := ?_) #[true, true, false, true, false, false, false, true, false, true, false, false, false, false, false, false, false] rfl rfl (any_of HT_.out (by kernel_rfl)) (fun _ _ _ h => h) (Or.inl ⟨by rfl, ?_⟩) ?_ ?_
                  rotate_left
                  · intro w'
                    go_simp
                    with_reducible rfl
                  rotate_left
                  · simp only [Act.put, List.setIfInBounds_toArray, List.set_cons_zero, List.set_cons_succ, i64_w, i32_w]
                    rfl
                  refine pure_ (i := 15) (N := some 30) (v := ?_) (a' := ?_) #[true, true, false, true, false, false, false, true, false, true, false, false, false, false, false, true, false] rfl rfl (any_of HT_.out (by kernel_rfl)) (fun _ _ _ h => h) (Or.inl ⟨by rfl, ?_⟩) ?_ ?_
                  rotate_left
                  · intro w'
                    go_simp
                    with_reducible rfl
                  rotate_left
                  · simp only [Act.put, List.setIfInBounds_toArray, List.set_cons_zero, List.set_cons_succ, i64_w, i32_w]
                    rfl
                  refine take_ (i := 2) (N := some 17) (v := ?_) (a' := ?_) #[true, true, true, true, false, false, false, true, false, true, false, false, false, false, false, true, false] rfl rfl (take_ofW HT_.out HW_.out (by kernel_rfl)) (fun _ _ _ h => h) (Or.inl ⟨by rfl, ?_⟩) hHeld ?_ ?_
                  rotate_left
                  · rintro w' ⟨s0, s1, s2, s3, s4, s5, s6, s7, s8⟩
                    go_simp
                    with_reducible rfl
                  rotate_left
                  · simp only [Act.put, List.setIfInBounds_toArray, List.set_cons_zero, List.set_cons_succ, i64_w, i32_w]
                    rfl
                  refine pure_ (i := 4) (N := some 19) (v := ?_) (a' := ?_) #[true, true, true, true, true, false, false, true, false, true, false, false, false, false, false, true, false] rfl rfl (any_of HT_.out (by kernel_rfl)) (fun _ _ _ h => h) (Or.inl ⟨by rfl, ?_⟩) ?_ ?_
                  rotate_left
                  · intro w'
                    go_simp
                    with_reducible rfl
                  rotate_left
                  · simp only [Act.put, List.setIfInBounds_toArray, List.set_cons_zero, List.set_cons_succ, i64_w, i32_w]
                    rfl
                  refine pure_ (i := 5) (N := some 20) (v := ?_) (a' := ?_) #[true, true, true, true, true, true, false, true, false, true, false, false, false, false, false, true, false] rfl rfl (any_of HT_.out (by kernel_rfl)) (fun _ _ _ h => h) (Or.inl ⟨by rfl, ?_⟩) ?_ ?_
                  rotate_left
                  · intro w'
                    go_simp
                    with_reducible rfl
                  rotate_left
                  · simp only [Act.put, List.setIfInBounds_toArray, List.set_cons_zero, List.set_cons_succ, i64_w, i32_w]
                    rfl
                  refine take_ (i := 6) (N := some 21) (v := ?_) (a' := ?_) #[true, true, true, true, true, true, true, true, false, true, false, false, false, false, false, true, false] rfl rfl (take_ofW HT_.out HW_.out (by kernel_rfl)) (fun _ _ _ h => h) (Or.inl ⟨by rfl, ?_⟩) hHeld ?_ ?_
                  rotate_left
                  · rintro w' ⟨s0, s1, s2, s3, s4, s5, s6, s7, s8⟩
                    go_simp
                    with_reducible rfl
                  rotate_left
                  · simp only [Act.put, List.setIfInBounds_toArray, List.set_cons_zero, List.set_cons_succ, i64_w, i32_w]
                    rfl
                  refine take_ (i := 8) (N := some 23) (v := ?_) (a' := ?_) #[true, true, true, true, true, true, true, true, true, true, false, false, false, false, false, true, false] rfl rfl (take_ofW HT_.out HW_.out (by kernel_rfl)) (fun _ _ _ h => h) (Or.inl ⟨by rfl, ?_⟩) hHeld ?_ ?_
                  rotate_left
                  · rintro w' ⟨s0, s1, s2, s3, s4, s5, s6, s7, s8⟩
                    go_simp
                    with_reducible rfl
                  rotate_left
                  · simp only [Act.put, List.setIfInBounds_toArray, List.set_cons_zero, List.set_cons_succ, i64_w, i32_w]
                    rfl
                  refine pure_ (i := 10) (N := some 25) (v := ?_) (a' := ?_) #[true, true, true, true, true, true, true, true, true, true, true, false, false, false, false, true, false] rfl rfl (any_of HT_.out (by kernel_rfl)) (fun _ _ _ h => h) (Or.inl ⟨by rfl, ?_⟩) ?_ ?_
                  rotate_left
                  · intro w'
                    go_simp
                    with_reducible rfl
                  rotate_left
                  · simp only [Act.put, List.setIfInBounds_toArray, List.set_cons_zero, List.set_cons_succ, i64_w, i32_w]
                    rfl
                  refine pure_ (i := 11) (N := some 26) (v := ?_) (a' := ?_) #[true, true, true, true, true, true, true, true, true, true, true, true, false, false, false, true, false] rfl rfl (any_of HT_.out (by kernel_rfl)) (fun _ _ _ h => h) (Or.inl ⟨by rfl, ?_⟩) ?_ ?_
                  rotate_left
                  · intro w'
                    go_simp
                    with_reducible rfl
                  rotate_left
                  · simp only [Act.put, List.setIfInBounds_toArray, List.set_cons_zero, List.set_cons_succ, i64_w, i32_w]
                    rfl
                  refine take_ (i := 12) (N := some 27) (v := ?_) (a' := ?_) #[true, true, true, true, true, true, true, true, true, true, true, true, true, false, false, true, false] rfl rfl (take_ofW HT_.out HW_.out (by kernel_rfl)) (fun _ _ _ h => h) (Or.inl ⟨by rfl, ?_⟩) hHeld ?_ ?_
                  rotate_left
                  · rintro w' ⟨s0, s1, s2, s3, s4, s5, s6, s7, s8⟩
                    go_simp
                    with_reducible rfl
                  rotate_left
                  · simp only [Act.put, List.setIfInBounds_toArray, List.set_cons_zero, List.set_cons_succ, i64_w, i32_w]
                    rfl
                  refine pure_ (i := 13) (N := some 28) (v := ?_) (a' := ?_) #[true, true, true, true, true, true, true, true, true, true, true, true, true, true, false, true, false] rfl rfl (any_of HT_.out (by kernel_rfl)) (fun _ _ _ h => h) (Or.inl ⟨by rfl, ?_⟩) ?_ ?_
                  rotate_left
                  · intro w'
                    go_simp
                    with_reducible rfl
                  rotate_left
                  · simp only [Act.put, List.setIfInBounds_toArray, List.set_cons_zero, List.set_cons_succ, i64_w, i32_w]
                    rfl
                  refine one_ (i := 14) (N := some 29) #[true, true, true, true, true, true, true, true, true, true, true, true, true, true, true, true, false] rfl rfl (one_of HT_.out (by kernel_rfl)) (by decide) (fun K hK => ?_)
                  refine goes_ Tryd.func22 (by kernel_rfl) rfl #[.string (a0.extract (((rd_T43 l1_3 x7_1).f0) : Int).toNat (((rd_T43 l1_3 x7_1).f1) : Int).toNat)] (by rfl) rfl rfl (by (try simp only [List.map_toArray, List.map_cons, List.map_nil]); first | done | rfl | (simp only [List.length_drop, List.length_take]; rfl)) ?_
                  with_reducible refine (spec_Unquote.calls k1 (a0.extract (((rd_T43 l1_3 x7_1).f0) : Int).toNat (((rd_T43 l1_3 x7_1).f1) : Int).toNat) t248 _ A10.out).mono ?_
                  rintro e w17 ⟨rfl, hb⟩
                  refine ⟨_, rfl, ?_⟩
                  have n0_ := Aside0.mk (blk_below (g := gb245) (o := .cells #[.int .i64 a1_0, .int .i64 a1_1, .int .i64 a1_2, .slice (some ad246) l1_3.length c1_3, .slice A1_4 l1_4.length c1_4] 27 (0, 0)) (by (with_reducible repeat (first | refine blk_drewN ?_ _ | refine blk_drew ?_ | refine blk_alloc ?_ _)); exact BK245.out) hb)
                  have n1_ := Aside0.mk (below_step (by repeat (first | (with_reducible first | exact HB.out | apply below_alloc | apply pw_below_drewN | apply below_drew1 | refine below_set ?_ GE245.out) | exact HB.out)) hb)
                  clear BK245
                  clear HB
                  have BK245 := n0_
                  have HB := n1_
                  clear n0_ n1_
                  (try clear hb)
                  (try clear hb2)
                  (try clear hk)
                  (try clear hi)
                  refine hK.out _ _ ⟨(blk_cell BK245.out 0).trans rfl, (blk_cell BK245.out 1).trans rfl, (blk_cell BK245.out 2).trans rfl, (blk_cell BK245.out 3).trans rfl, (blk_cell BK245.out 4).trans rfl, ((HB.out.cell (World.block_lt_of_cell? w _ hw246_0)).trans hw246_0), ((HB.out.cell (World.block_lt_of_cell? w _ hw246_1)).trans hw246_1), ((HB.out.cell (World.block_lt_of_cell? w _ hw247_0)).trans hw247_0), ((HB.out.cell (World.block_lt_of_cell? w _ hw247_1)).trans hw247_1)⟩ (fun hHeld => ?_)
                  clear hK K
                  refine norm_ (a' := ?_) ?_ ?_
                  rotate_left
                  · show Act.put _ (some 29) _ = _
                    simp only [Act.put, List.setIfInBounds_toArray, List.set_cons_zero, List.set_cons_succ, i64_w, i32_w]
                    rfl
                  refine pure_ (i := 16) (N := some 31) (v := ?_) (a' := ?_) #[true, true, true, true, true, true, true, true, true, true, true, true, true, true, true, true, true] rfl rfl (any_of HT_.out (by kernel_rfl)) (fun _ _ _ h => h) (Or.inl ⟨by rfl, ?_⟩) ?_ ?_
                  rotate_left
                  · intro w'
                    go_simp
                    with_reducible rfl
                  rotate_left
                  · simp only [Act.put, List.setIfInBounds_toArray, List.set_cons_zero, List.set_cons_succ, i64_w, i32_w]
                    rfl
                  refine done_ (done_of HT_.out (by kernel_rfl)) ?_
                  try go_wp2
                  go_roundg k1
                  case measure => have := HK1.out; omega
                  case rel => exact ⟨(wrap64 (x7_1 + 1)), (by first | rfl | (simp; done) | (simp [*]; done)), H', ⟨by have := HK1.out; omega⟩, ⟨by (with_reducible repeat (first | refine blk_drewN ?_ _ | refine blk_drew ?_ | refine blk_alloc ?_ _)); exact BK245.out⟩, ⟨by repeat (first | (with_reducible first | exact HB.out | apply below_alloc | apply pw_below_drewN | apply below_drew1 | refine below_set ?_ GE245.out) | exact HB.out)⟩⟩
              · rw [if_neg c9] at H
                exact absurd H (by simp)
            · rw [if_neg c8] at H
              exact absurd H (by simp)
          · rw [if_neg c7] at H
            exact absurd H (by simp)
        · rw [if_neg c6] at H
          exact absurd H (by simp)
      · rw [if_neg c5] at H
        have c5b0 : decide (x7_1 < (l1_3.length : Int)) = false := decide_eq_false c5
        clear c5
        obtain rfl := Option.some.inj H
        have hcz18_0 : wr.cell? ⟨gb245, 0, none⟩ = some (.int .i64 a1_0) := (blk_cell BK245.out 0).trans rfl
        have hcz18_1 : wr.cell? ⟨gb245, 1, none⟩ = some (.int .i64 a1_1) := (blk_cell BK245.out 1).trans rfl
        have hcz18_2 : wr.cell? ⟨gb245, 2, none⟩ = some (.int .i64 a1_2) := (blk_cell BK245.out 2).trans rfl
        have hcz18_3 : wr.cell? ⟨gb245, 3, none⟩ = some (.slice A1_3 l1_3.length c1_3) := (blk_cell BK245.out 3).trans rfl
        have hcz18_4 : wr.cell? ⟨gb245, 4, none⟩ = some (.slice A1_4 l1_4.length c1_4) := (blk_cell BK245.out 4).trans rfl
        have hfz18_0 := blk_frozen BK245.out 0
        have hfz18_1 := blk_frozen BK245.out 1
        have hfz18_2 := blk_frozen BK245.out 2
        have hfz18_3 := blk_frozen BK245.out 3
        have hfz18_4 := blk_frozen BK245.out 4
        go_wp2
        go_ret
        exact ⟨by first | rfl | (simp [errW_none, errW_some] <;> rfl) | (simp [*, errW_none, errW_some] <;> rfl), by repeat (first | (with_reducible first | exact HB.out | apply below_alloc | apply pw_below_drewN | apply below_drew1 | refine below_set ?_ GE245.out) | exact HB.out)⟩

mutual
def spec_Index.j0 : Nat → ByteArray → Bool → Option (Int × Bool)
  | 0, _, _ => none
  | k + 1, x0, x18 => if x18 = true then (some (0, false)) else (spec_Index.l0 k x0 0 0)
def spec_Index.l0 : Nat → ByteArray → Int → Int → Option (Int × Bool)
  | 0, _, _, _ => none
  | k + 1, x0, x4, x5 => if x5 < (x0.size : Int) then (if 0 ≤ x5 then (if (bt x0 x5) < 48 then (spec_Index.j2 k x0 x4 x5 (bt x0 x5) true) else (spec_Index.j2 k x0 x4 x5 (bt x0 x5) (decide ((bt x0 x5) > 57)))) else (none)) else (some (x4, true))
def spec_Index.j2 : Nat → ByteArray → Int → Int → Int → Bool → Option (Int × Bool)
  | 0, _, _, _, _, _ => none
  | k + 1, x0, x4, x5, x6, x33 => if x33 = true then (some (0, false)) else (if x4 < 288230376151711744 then (spec_Index.l0 k x0 (wrap64 ((wrap64 (x4 * 10)) + ((x6 - 48) % 256))) (wrap64 (x5 + 1))) else (spec_Index.l0 k x0 4611686018427387904 (wrap64 (x5 + 1))))
end
def spec_Index.f (k : Nat) (a0 : ByteArray) : Option (Int × Bool) := if a0.toList = ([] : List UInt8) then (spec_Index.j0 k a0 true) else (if (a0.size : Int) > 1 then (if 0 < (a0.size : Int) then (spec_Index.j0 k a0 ((bt a0 0) == 48)) else (none)) else (spec_Index.j0 k a0 false))
theorem spec_Index.mono_l : ∀ k, (∀ y0 y1, LeO (spec_Index.j0 k y0 y1) (spec_Index.j0 (k + 1) y0 y1)) ∧ (∀ y0 y1 y2, LeO (spec_Index.l0 k y0 y1 y2) (spec_Index.l0 (k + 1) y0 y1 y2)) ∧ (∀ y0 y1 y2 y3 y4, LeO (spec_Index.j2 k y0 y1 y2 y3 y4) (spec_Index.j2 (k + 1) y0 y1 y2 y3 y4))
  | 0 => ⟨fun _ _ r h => by simp [spec_Index.j0] at h, fun _ _ _ r h => by simp [spec_Index.l0] at h, fun _ _ _ _ _ r h => by simp [spec_Index.j2] at h⟩
  | k + 1 => by
    obtain ⟨ih0, ih1, ih2⟩ := spec_Index.mono_l k
    refine ⟨?_, ?_, ?_⟩
    · intro y0 y1
      unfold spec_Index.j0
      repeat' first
      | (with_reducible exact ih0 _ _)
      | (with_reducible exact ih1 _ _ _)
      | (with_reducible exact ih2 _ _ _ _ _)
      | (with_reducible exact LeO.refl _)
      | (with_reducible exact LeO.none _)
      | (with_reducible refine LeO.ite ?_ ?_)
      | (with_reducible refine LeO.bind ?_ (fun _ => ?_))
      | exact ih0 _ _
      | exact ih1 _ _ _
      | exact ih2 _ _ _ _ _
      | exact LeO.none _
      | refine LeO.ite ?_ ?_
      | refine LeO.bind ?_ (fun _ => ?_)
    · intro y0 y1 y2
      unfold spec_Index.l0
      repeat' first
      | (with_reducible exact ih0 _ _)
      | (with_reducible exact ih1 _ _ _)
      | (with_reducible exact ih2 _ _ _ _ _)
      | (with_reducible exact LeO.refl _)
      | (with_reducible exact LeO.none _)
      | (with_reducible refine LeO.ite ?_ ?_)
      | (with_reducible refine LeO.bind ?_ (fun _ => ?_))
      | exact ih0 _ _
      | exact ih1 _ _ _
      | exact ih2 _ _ _ _ _
      | exact LeO.none _
      | refine LeO.ite ?_ ?_
      | refine LeO.bind ?_ (fun _ => ?_)
    · intro y0 y1 y2 y3 y4
      unfold spec_Index.j2
      repeat' first
      | (with_reducible exact ih0 _ _)
      | (with_reducible exact ih1 _ _ _)
      | (with_reducible exact ih2 _ _ _ _ _)
      | (with_reducible exact LeO.refl _)
      | (with_reducible exact LeO.none _)
      | (with_reducible refine LeO.ite ?_ ?_)
      | (with_reducible refine LeO.bind ?_ (fun _ => ?_))
      | exact ih0 _ _
      | exact ih1 _ _ _
      | exact ih2 _ _ _ _ _
      | exact LeO.none _
      | refine LeO.ite ?_ ?_
      | refine LeO.bind ?_ (fun _ => ?_)
theorem spec_Index.mono : ∀ a0 k, LeO (spec_Index.f k a0) (spec_Index.f (k + 1) a0) := by
  intro a0 k
  obtain ⟨ih0, ih1, ih2⟩ := spec_Index.mono_l k
  unfold spec_Index.f
  repeat' first
      | (with_reducible exact ih0 _ _)
      | (with_reducible exact ih1 _ _ _)
      | (with_reducible exact ih2 _ _ _ _ _)
      | (with_reducible exact LeO.refl _)
      | (with_reducible exact LeO.none _)
      | (with_reducible refine LeO.ite ?_ ?_)
      | (with_reducible refine LeO.bind ?_ (fun _ => ?_))
      | exact ih0 _ _
      | exact ih1 _ _ _
      | exact ih2 _ _ _ _ _
      | exact LeO.none _
      | refine LeO.ite ?_ ?_
      | refine LeO.bind ?_ (fun _ => ?_)
set_option maxHeartbeats 8000000 in
set_option maxRecDepth 100000 in
theorem spec_Index.calls (k : Nat) (a0 : ByteArray) (r1 : Int) (r2 : Bool) (w : World) (h : spec_Index.f k a0 = some (r1, r2)) :
    Calls Tryd.prog 51 #[.string a0] w fun e w' => e = .returned (.tuple #[.int .i64 r1, .bool r2]) ∧ Drawn0 w w' := by
  have H : (if a0.toList = ([] : List UInt8) then (spec_Index.j0 k a0 true) else (if (a0.size : Int) > 1 then (if 0 < (a0.size : Int) then (spec_Index.j0 k a0 ((bt a0 0) == 48)) else (none)) else (spec_Index.j0 k a0 false))) = some (r1, r2) := h
  clear h
  have HC2 := Aside0.mk H
  clear H
  go_enter Tryd.func51, Tryd.ntmps51
  go_upto_region 1 with (fail)
  go_cut [18] (fun v18 wc => ∃ (kq : Nat) (x18_1 : Bool), v18 = .bool x18_1 ∧ Aside0 (spec_Index.j0 kq a0 x18_1 = some (r1, r2)) ∧ Aside0 (kq ≤ k) ∧ Drawn0 w wc)
  case first =>
    have H := HC2.out
    clear HC2
    by_cases c3 : a0.toList = ([] : List UInt8)
    · rw [if_pos c3] at H
      have c3b0 : (a0.toList == ([] : List UInt8)) = true := beq_iff_eq.mpr c3
      have c3b1 : (a0.toList != ([] : List UInt8)) = false := bne_eq_false_iff_eq.mpr c3
      clear c3
      (first | rw [c3b0] | (simp only [i64_w, i32_w]; rw [c3b0]) | skip)
      have H' := Aside0.mk H
      clear H
      go_wp2
      go_meet
      case rel => exact ⟨_, (true), (by first | rfl | (simp; done) | (simp [*]; done)), H', ⟨by first | omega | exact Nat.le_refl _⟩, by repeat (first | exact Drawn0.refl _ | apply Drawn0.step)⟩
    · rw [if_neg c3] at H
      have c3b0 : (a0.toList == ([] : List UInt8)) = false := beq_eq_false_iff_ne.mpr c3
      have c3b1 : (a0.toList != ([] : List UInt8)) = true := bne_iff_ne.mpr c3
      (first | rw [c3b0] | (simp only [i64_w, i32_w]; rw [c3b0]) | skip)
      by_cases c4 : (a0.size : Int) > 1
      · rw [if_pos c4] at H
        have c4b0 : decide (1 < (a0.size : Int)) = true := decide_eq_true c4
        have c4b1 : decide (1 < a0.size) = true := decide_eq_true (by omega)
        clear c4
        by_cases c5 : 0 < (a0.size : Int)
        · rw [if_pos c5] at H
          have c5b0 : decide (0 < (a0.size : Int)) = true := decide_eq_true c5
          have c5b1 : decide (0 < a0.size) = true := decide_eq_true (by omega)
          clear c5
          have H' := Aside0.mk H
          clear H
          have p6 : 0 ≤ (0 : Int) := (by omega)
          have q6 : 0 < a0.size := (by have : (0 : Int) < (a0.size : Int) := of_decide_eq_true (by first | (with_reducible assumption) | assumption); omega)
          have hx6 : ∀ h : 0 < a0.size, ((a0[0]'h).toNat : Int) = bt a0 0 := bt_at a0 0
          clear p6
          have qi6 : (0 < (a0.size : Int)) = True := eq_true (of_decide_eq_true (by first | (with_reducible assumption) | assumption))
          replace q6 := eq_true q6
          go_wp2
          go_meet
          case rel => exact ⟨_, (((bt a0 0) == 48)), (by first | rfl | (simp; done) | (simp [*]; done)), H', ⟨by first | omega | exact Nat.le_refl _⟩, by repeat (first | exact Drawn0.refl _ | apply Drawn0.step)⟩
        · rw [if_neg c5] at H
          exact absurd H (by simp)
      · rw [if_neg c4] at H
        have c4b0 : decide (1 < (a0.size : Int)) = false := decide_eq_false c4
        have c4b1 : decide (1 < a0.size) = false := decide_eq_false (by omega)
        clear c4
        have H' := Aside0.mk H
        clear H
        go_wp2
        go_meet
        case rel => exact ⟨_, (false), (by first | rfl | (simp; done) | (simp [*]; done)), H', ⟨by first | omega | exact Nat.le_refl _⟩, by repeat (first | exact Drawn0.refl _ | apply Drawn0.step)⟩
  case rest =>
    clear HC2
    try clear p2
    try clear c3
    try clear c3b0
    try clear c3b1
    try clear c4
    try clear c4b0
    try clear c4b1
    try clear c5
    try clear c5b0
    try clear c5b1
    try clear p6
    try clear q6
    try clear hx6
    try clear qi6
    try clear p6
    try clear q6
    obtain ⟨kq, x18_1, rfl, HA, HJ1, ⟨mc1, rfl⟩⟩ := hcut
    cases kq with
    | zero => exact absurd HA.out (by simp [spec_Index.j0])
    | succ kj1 =>
      have H := HA.out
      clear HA
      simp only [spec_Index.j0] at H
      by_cases c7 : x18_1 = true
      · subst c7
        have H1 : (some (0, false)) = some (r1, r2) := by rw [if_pos rfl] at H; exact H
        clear H
        have H := H1
        clear H1
        simp only [Option.some.injEq, Prod.mk.injEq] at H
        obtain ⟨rfl, rfl⟩ := H
        go_wp2
        go_ret2
        exact ⟨by first | rfl | (simp; done) | (simp [*]; done), by repeat (first | exact Drawn0.refl _ | apply Drawn0.step)⟩
      · replace c7 := Bool.eq_false_iff.mpr c7
        subst c7
        have H1 : (spec_Index.l0 kj1 a0 0 0) = some (r1, r2) := by rw [if_neg (show ¬ (false = true) by decide)] at H; exact H
        clear H
        have H := H1
        clear H1
        have H' := Aside0.mk H
        clear H
        go_wp2
        go_loopg [4, 5] kj1 (fun kq v4 v5 w' => ∃ (x4_2 : Int) (x5_2 : Int), v4 = .int .i64 x4_2 ∧ v5 = .int .i64 x5_2 ∧ Aside0 (spec_Index.l0 kq a0 x4_2 x5_2 = some (r1, r2)) ∧ Aside0 (kq ≤ kj1) ∧ Drawn0 w w')
        case atStart => exact ⟨(0), (0), (by first | rfl | (simp; done) | (simp [*]; done)), (by first | rfl | (simp; done) | (simp [*]; done)), H', ⟨Nat.le_refl _⟩, by repeat (first | exact Drawn0.refl _ | apply Drawn0.step)⟩
        case round =>
          clear H'
          try clear c1
          try clear p2
          try clear c3
          try clear c3b0
          try clear c3b1
          try clear c4
          try clear c4b0
          try clear c4b1
          try clear c5
          try clear c5b0
          try clear c5b1
          try clear p6
          try clear q6
          try clear hx6
          try clear qi6
          try clear c7
          try clear p2
          try clear p6
          try clear q6
          obtain ⟨x4_2, x5_2, rfl, rfl, HA, HK2, ⟨m2, rfl⟩⟩ := hrel
          cases gk with
          | zero => exact absurd HA.out (by simp [spec_Index.l0])
          | succ k2 =>
            have H := HA.out
            clear HA
            simp only [spec_Index.l0] at H
            by_cases c8 : x5_2 < (a0.size : Int)
            · rw [if_pos c8] at H
              have c8b0 : decide (x5_2 < (a0.size : Int)) = true := decide_eq_true c8
              clear c8
              by_cases c9 : 0 ≤ x5_2
              · rw [if_pos c9] at H
                have c9b0 : decide (0 ≤ x5_2) = true := decide_eq_true c9
                clear c9
                have HC11 := Aside0.mk H
                clear H
                have p10 : 0 ≤ (x5_2 : Int) := of_decide_eq_true (by first | (with_reducible assumption) | assumption)
                have q10 : x5_2 < (a0.size : Int) := of_decide_eq_true (by first | (with_reducible assumption) | assumption)
                have hx10 := bt_at a0 x5_2
                replace p10 := eq_true p10
                replace q10 := eq_true q10
                go_upto_region 8 with (fail)
                go_cut [33] (fun v33 wc => ∃ (kq : Nat) (x33_10 : Bool), v33 = .bool x33_10 ∧ Aside0 (spec_Index.j2 kq a0 x4_2 x5_2 (bt a0 x5_2) x33_10 = some (r1, r2)) ∧ Aside0 (kq ≤ k2) ∧ Drawn0 w wc)
                case first =>
                  have H := HC11.out
                  clear HC11
                  by_cases c12 : (bt a0 x5_2) < 48
                  · rw [if_pos c12] at H
                    have c12b0 : decide ((bt a0 x5_2) < 48) = true := decide_eq_true c12
                    clear c12
                    (first | rw [c12b0] | (simp only [i64_w, i32_w]; rw [c12b0]) | skip)
                    have H' := Aside0.mk H
                    clear H
                    go_wp2
                    go_meet
                    case rel => exact ⟨_, (true), (by first | rfl | (simp; done) | (simp [*]; done)), H', ⟨by have := HJ1.out; have := HK2.out; first | omega | exact Nat.le_refl _⟩, by repeat (first | exact Drawn0.refl _ | apply Drawn0.step)⟩
                  · rw [if_neg c12] at H
                    have c12b0 : decide ((bt a0 x5_2) < 48) = false := decide_eq_false c12
                    clear c12
                    (first | rw [c12b0] | (simp only [i64_w, i32_w]; rw [c12b0]) | skip)
                    have H' := Aside0.mk H
                    clear H
                    go_wp2
                    go_meet
                    case rel => exact ⟨_, (decide ((bt a0 x5_2) > 57)), (by first | rfl | (simp; done) | (simp [*]; done)), H', ⟨by have := HJ1.out; have := HK2.out; first | omega | exact Nat.le_refl _⟩, by repeat (first | exact Drawn0.refl _ | apply Drawn0.step)⟩
                case rest =>
                  clear HC11
                  try clear c1
                  try clear p1
                  try clear q1
                  try clear hx1
                  try clear p2
                  try clear c3
                  try clear c3b0
                  try clear c3b1
                  try clear c4
                  try clear c4b0
                  try clear c4b1
                  try clear c5
                  try clear c5b0
                  try clear c5b1
                  try clear p6
                  try clear q6
                  try clear hx6
                  try clear qi6
                  try clear c7
                  try clear c8
                  try clear c8b0
                  try clear c9
                  try clear c9b0
                  try clear p10
                  try clear q10
                  try clear hx10
                  try clear c12
                  try clear c12b0
                  try clear p10
                  try clear p2
                  try clear p6
                  try clear q10
                  try clear q6
                  obtain ⟨kq, x33_10, rfl, HA, HJ10, ⟨mc10, rfl⟩⟩ := hcut
                  cases kq with
                  | zero => exact absurd HA.out (by simp [spec_Index.j2])
                  | succ kj10 =>
                    have H := HA.out
                    clear HA
                    simp only [spec_Index.j2] at H
                    by_cases c13 : x33_10 = true
                    · subst c13
                      have H1 : (some (0, false)) = some (r1, r2) := by rw [if_pos rfl] at H; exact H
                      clear H
                      have H := H1
                      clear H1
                      simp only [Option.some.injEq, Prod.mk.injEq] at H
                      obtain ⟨rfl, rfl⟩ := H
                      go_wp2
                      go_ret2
                      exact ⟨by first | rfl | (simp; done) | (simp [*]; done), by repeat (first | exact Drawn0.refl _ | apply Drawn0.step)⟩
                    · replace c13 := Bool.eq_false_iff.mpr c13
                      subst c13
                      have H1 : (if x4_2 < 288230376151711744 then (spec_Index.l0 kj10 a0 (wrap64 ((wrap64 (x4_2 * 10)) + (((bt a0 x5_2) - 48) % 256))) (wrap64 (x5_2 + 1))) else (spec_Index.l0 kj10 a0 4611686018427387904 (wrap64 (x5_2 + 1)))) = some (r1, r2) := by rw [if_neg (show ¬ (false = true) by decide)] at H; exact H
                      clear H
                      have H := H1
                      clear H1
                      by_cases c14 : x4_2 < 288230376151711744
                      · rw [if_pos c14] at H
                        have c14b0 : decide (x4_2 < 288230376151711744) = true := decide_eq_true c14
                        clear c14
                        have H' := Aside0.mk H
                        clear H
                        go_wp2
                        go_roundg kj10
                        case measure => have := HJ1.out; have := HK2.out; have := HJ10.out; omega
                        case rel => exact ⟨(wrap64 ((wrap64 (x4_2 * 10)) + (((bt a0 x5_2) - 48) % 256))), (wrap64 (x5_2 + 1)), (by first | rfl | (simp; done) | (simp [*]; done)), (by first | rfl | (simp; done) | (simp [*]; done)), H', ⟨by have := HJ1.out; have := HK2.out; have := HJ10.out; omega⟩, by repeat (first | exact Drawn0.refl _ | apply Drawn0.step)⟩
                      · rw [if_neg c14] at H
                        have c14b0 : decide (x4_2 < 288230376151711744) = false := decide_eq_false c14
                        clear c14
                        have H' := Aside0.mk H
                        clear H
                        go_wp2
                        go_roundg kj10
                        case measure => have := HJ1.out; have := HK2.out; have := HJ10.out; omega
                        case rel => exact ⟨(4611686018427387904), (wrap64 (x5_2 + 1)), (by first | rfl | (simp; done) | (simp [*]; done)), (by first | rfl | (simp; done) | (simp [*]; done)), H', ⟨by have := HJ1.out; have := HK2.out; have := HJ10.out; omega⟩, by repeat (first | exact Drawn0.refl _ | apply Drawn0.step)⟩
              · rw [if_neg c9] at H
                exact absurd H (by simp)
            · rw [if_neg c8] at H
              have c8b0 : decide (x5_2 < (a0.size : Int)) = false := decide_eq_false c8
              clear c8
              simp only [Option.some.injEq, Prod.mk.injEq] at H
              obtain ⟨rfl, rfl⟩ := H
              go_wp2
              go_ret2
              exact ⟨by first | rfl | (simp; done) | (simp [*]; done), by repeat (first | exact Drawn0.refl _ | apply Drawn0.step)⟩

end Go.Proofs.YthehnffmbdlopaaDoor.PFnJpGetRest
