/- Texts of this claim, what is not used left out. -/
import Derived.Test.YtcaigeikdnoheaaGreatDoorZPFnFjStructurex0
namespace Go.Proofs.YtcaigeikdnoheaaGreatDoor.PFnFjStructure
open Go.RowKit Go.Proofs.YtcaigeikdnoheaaGreatDoorW.PrintWords Go.Proofs.YtcaigeikdnoheaaGreatDoorW.PrintLast Go.Proofs.YtcaigeikdnoheaaGreatDoorW.PrintMore
attribute [local go_sem] max2_int min2_int max_two min_two max_three min_three max_four min_four   -- for this text's walks alone
set_option linter.unusedVariables false
set_option linter.unusedSimpArgs false

mutual
def spec_Same.j0 : Nat → Bool → Int → ByteArray → List ByteArray → List (S25) → Int → ByteArray → List ByteArray → List (S25) → Option (Bool)
  | 0, _, _, _, _, _, _, _, _, _ => none
  | k + 1, x36, x102000, x102001, x102002, x102003, x103000, x103001, x103002, x103003 => if x36 = true then (some false) else (spec_Same.l0 k 0 x102000 x102001 x102002 x102003 x103000 x103001 x103002 x103003)
def spec_Same.l0 : Nat → Int → Int → ByteArray → List ByteArray → List (S25) → Int → ByteArray → List ByteArray → List (S25) → Option (Bool)
  | 0, _, _, _, _, _, _, _, _, _ => none
  | k + 1, x5, x102000, x102001, x102002, x102003, x103000, x103001, x103002, x103003 => if x5 < (x102002.length : Int) then (if 0 ≤ x5 then (if x5 < (x103002.length : Int) then (if (rdOf ByteArray.empty x102002 x5).toList = (rdOf ByteArray.empty x103002 x5).toList then (spec_Same.l0 k (wrap64 (x5 + 1)) x102000 x102001 x102002 x102003 x103000 x103001 x103002 x103003) else (some false)) else (none)) else (none)) else (spec_Same.l1 k 0 x102000 x102001 x102002 x102003 x103000 x103001 x103002 x103003)
def spec_Same.l1 : Nat → Int → Int → ByteArray → List ByteArray → List (S25) → Int → ByteArray → List ByteArray → List (S25) → Option (Bool)
  | 0, _, _, _, _, _, _, _, _, _ => none
  | k + 1, x6, x102000, x102001, x102002, x102003, x103000, x103001, x103002, x103003 => if x6 < (x102003.length : Int) then (if 0 ≤ x6 then (if x6 < (x103003.length : Int) then ((spec_Same.f k ((rd_T25 x102003 x6).f0) ((rd_T25 x102003 x6).f1) ((rd_T25 x102003 x6).f2) ((rd_T25 x102003 x6).f3) ((rd_T25 x103003 x6).f0) ((rd_T25 x103003 x6).f1) ((rd_T25 x103003 x6).f2) ((rd_T25 x103003 x6).f3)).bind fun t107 => (if t107 = true then (spec_Same.l1 k (wrap64 (x6 + 1)) x102000 x102001 x102002 x102003 x103000 x103001 x103002 x103003) else (some false))) else (none)) else (none)) else (some true)
def spec_Same.f : Nat → Int → ByteArray → List ByteArray → List (S25) → Int → ByteArray → List ByteArray → List (S25) → Option (Bool)
  | 0, _, _, _, _, _, _, _, _ => none
  | k + 1, a0_0, a0_1, l0_2, l0_3, a1_0, a1_1, l1_2, l1_3 => if a0_0 = a1_0 then (if a0_1.toList = a1_1.toList then (if (l0_2.length : Int) = (l1_2.length : Int) then (spec_Same.j0 k ((l0_3.length : Int) != (l1_3.length : Int)) a0_0 a0_1 l0_2 l0_3 a1_0 a1_1 l1_2 l1_3) else (spec_Same.j0 k true a0_0 a0_1 l0_2 l0_3 a1_0 a1_1 l1_2 l1_3)) else (spec_Same.j0 k true a0_0 a0_1 l0_2 l0_3 a1_0 a1_1 l1_2 l1_3)) else (spec_Same.j0 k true a0_0 a0_1 l0_2 l0_3 a1_0 a1_1 l1_2 l1_3)
end
theorem spec_Same.mono_l : ∀ k, (∀ y0 y1 y2 y3 y4 y5 y6 y7, LeO (spec_Same.f k y0 y1 y2 y3 y4 y5 y6 y7) (spec_Same.f (k + 1) y0 y1 y2 y3 y4 y5 y6 y7)) ∧ (∀ y0 y1 y2 y3 y4 y5 y6 y7 y8, LeO (spec_Same.j0 k y0 y1 y2 y3 y4 y5 y6 y7 y8) (spec_Same.j0 (k + 1) y0 y1 y2 y3 y4 y5 y6 y7 y8)) ∧ (∀ y0 y1 y2 y3 y4 y5 y6 y7 y8, LeO (spec_Same.l0 k y0 y1 y2 y3 y4 y5 y6 y7 y8) (spec_Same.l0 (k + 1) y0 y1 y2 y3 y4 y5 y6 y7 y8)) ∧ (∀ y0 y1 y2 y3 y4 y5 y6 y7 y8, LeO (spec_Same.l1 k y0 y1 y2 y3 y4 y5 y6 y7 y8) (spec_Same.l1 (k + 1) y0 y1 y2 y3 y4 y5 y6 y7 y8))
  | 0 => ⟨fun _ _ _ _ _ _ _ _ r h => by simp [spec_Same.f] at h, fun _ _ _ _ _ _ _ _ _ r h => by simp [spec_Same.j0] at h, fun _ _ _ _ _ _ _ _ _ r h => by simp [spec_Same.l0] at h, fun _ _ _ _ _ _ _ _ _ r h => by simp [spec_Same.l1] at h⟩
  | k + 1 => by
    obtain ⟨ih0, ih1, ih2, ih3⟩ := spec_Same.mono_l k
    refine ⟨?_, ?_, ?_, ?_⟩
    · intro y0 y1 y2 y3 y4 y5 y6 y7
      unfold spec_Same.f
      repeat' first
      | (with_reducible exact ih0 _ _ _ _ _ _ _ _)
      | (with_reducible exact ih1 _ _ _ _ _ _ _ _ _)
      | (with_reducible exact ih2 _ _ _ _ _ _ _ _ _)
      | (with_reducible exact ih3 _ _ _ _ _ _ _ _ _)
      | (with_reducible exact LeO.refl _)
      | (with_reducible exact LeO.none _)
      | (with_reducible refine LeO.ite ?_ ?_)
      | (with_reducible refine LeO.bind ?_ (fun _ => ?_))
      | exact ih0 _ _ _ _ _ _ _ _
      | exact ih1 _ _ _ _ _ _ _ _ _
      | exact ih2 _ _ _ _ _ _ _ _ _
      | exact ih3 _ _ _ _ _ _ _ _ _
      | exact LeO.none _
      | refine LeO.ite ?_ ?_
      | refine LeO.bind ?_ (fun _ => ?_)
    · intro y0 y1 y2 y3 y4 y5 y6 y7 y8
      unfold spec_Same.j0
      repeat' first
      | (with_reducible exact ih0 _ _ _ _ _ _ _ _)
      | (with_reducible exact ih1 _ _ _ _ _ _ _ _ _)
      | (with_reducible exact ih2 _ _ _ _ _ _ _ _ _)
      | (with_reducible exact ih3 _ _ _ _ _ _ _ _ _)
      | (with_reducible exact LeO.refl _)
      | (with_reducible exact LeO.none _)
      | (with_reducible refine LeO.ite ?_ ?_)
      | (with_reducible refine LeO.bind ?_ (fun _ => ?_))
      | exact ih0 _ _ _ _ _ _ _ _
      | exact ih1 _ _ _ _ _ _ _ _ _
      | exact ih2 _ _ _ _ _ _ _ _ _
      | exact ih3 _ _ _ _ _ _ _ _ _
      | exact LeO.none _
      | refine LeO.ite ?_ ?_
      | refine LeO.bind ?_ (fun _ => ?_)
    · intro y0 y1 y2 y3 y4 y5 y6 y7 y8
      unfold spec_Same.l0
      repeat' first
      | (with_reducible exact ih0 _ _ _ _ _ _ _ _)
      | (with_reducible exact ih1 _ _ _ _ _ _ _ _ _)
      | (with_reducible exact ih2 _ _ _ _ _ _ _ _ _)
      | (with_reducible exact ih3 _ _ _ _ _ _ _ _ _)
      | (with_reducible exact LeO.refl _)
      | (with_reducible exact LeO.none _)
      | (with_reducible refine LeO.ite ?_ ?_)
      | (with_reducible refine LeO.bind ?_ (fun _ => ?_))
      | exact ih0 _ _ _ _ _ _ _ _
      | exact ih1 _ _ _ _ _ _ _ _ _
      | exact ih2 _ _ _ _ _ _ _ _ _
      | exact ih3 _ _ _ _ _ _ _ _ _
      | exact LeO.none _
      | refine LeO.ite ?_ ?_
      | refine LeO.bind ?_ (fun _ => ?_)
    · intro y0 y1 y2 y3 y4 y5 y6 y7 y8
      unfold spec_Same.l1
      repeat' first
      | (with_reducible exact ih0 _ _ _ _ _ _ _ _)
      | (with_reducible exact ih1 _ _ _ _ _ _ _ _ _)
      | (with_reducible exact ih2 _ _ _ _ _ _ _ _ _)
      | (with_reducible exact ih3 _ _ _ _ _ _ _ _ _)
      | (with_reducible exact LeO.refl _)
      | (with_reducible exact LeO.none _)
      | (with_reducible refine LeO.ite ?_ ?_)
      | (with_reducible refine LeO.bind ?_ (fun _ => ?_))
      | exact ih0 _ _ _ _ _ _ _ _
      | exact ih1 _ _ _ _ _ _ _ _ _
      | exact ih2 _ _ _ _ _ _ _ _ _
      | exact ih3 _ _ _ _ _ _ _ _ _
      | exact LeO.none _
      | refine LeO.ite ?_ ?_
      | refine LeO.bind ?_ (fun _ => ?_)
theorem spec_Same.mono : ∀ a0 a1 a2 a3 a4 a5 a6 a7 k, LeO (spec_Same.f k a0 a1 a2 a3 a4 a5 a6 a7) (spec_Same.f (k + 1) a0 a1 a2 a3 a4 a5 a6 a7) := by
  intro a0 a1 a2 a3 a4 a5 a6 a7 k
  obtain ⟨ih0, ih1, ih2, ih3⟩ := spec_Same.mono_l k
  exact ih0 a0 a1 a2 a3 a4 a5 a6 a7
def spec_Same.T6 : Bool × List (List Nat × List Nat) := (true, [([], []), ([0], [0]), ([], []), ([1, 2], [1, 2]), ([3], [3]), ([], []), ([5], [5]), ([], []), ([6, 7], [6, 7]), ([8], [8]), ([4, 9], [4, 9])])
def spec_Same.B6 : List Nat := [0, 1, 0, 7, 15, 0, 32, 0, 224, 480, 1023]
theorem spec_Same.tab6 : rtab .any (opsOf Tryz.f17 6) = spec_Same.T6 := by kernel_rfl
theorem spec_Same.bits6 : waitsOk spec_Same.T6.2 spec_Same.B6 = true := by kernel_rfl
def spec_Same.T11 : Bool × List (List Nat × List Nat) := (true, [([], []), ([0], [0]), ([], []), ([1, 2], [1, 2]), ([3], [3]), ([], []), ([5], [5]), ([], []), ([6, 7], [6, 7]), ([8], [8]), ([4, 9], [4, 9]), ([10], [10])])
def spec_Same.B11 : List Nat := [0, 1, 0, 7, 15, 0, 32, 0, 224, 480, 1023, 2047]
theorem spec_Same.tab11 : rtab .any (opsOf Tryz.f17 11) = spec_Same.T11 := by kernel_rfl
theorem spec_Same.bits11 : waitsOk spec_Same.T11.2 spec_Same.B11 = true := by kernel_rfl
set_option maxHeartbeats 8000000 in
set_option maxRecDepth 100000 in
theorem spec_Same.calls (k : Nat) : ∀ (a0_0 : Int) (a0_1 : ByteArray) (A0_2 : Option Addr) (c0_2 : Nat) (l0_2 : List ByteArray) (A0_3 : Option Addr) (c0_3 : Nat) (l0_3 : List (S25)) (a1_0 : Int) (a1_1 : ByteArray) (A1_2 : Option Addr) (c1_2 : Nat) (l1_2 : List ByteArray) (A1_3 : Option Addr) (c1_3 : Nat) (l1_3 : List (S25)) (r : Bool) (w : World) (hr0_2 : Kd.C Kd.string w A0_2 l0_2.length l0_2) (hc0_2 : l0_2.length ≤ c0_2) (hr0_3 : Kd.C k25 w A0_3 l0_3.length l0_3) (hc0_3 : l0_3.length ≤ c0_3) (hr1_2 : Kd.C Kd.string w A1_2 l1_2.length l1_2) (hc1_2 : l1_2.length ≤ c1_2) (hr1_3 : Kd.C k25 w A1_3 l1_3.length l1_3) (hc1_3 : l1_3.length ≤ c1_3) (h : spec_Same.f k a0_0 a0_1 l0_2 l0_3 a1_0 a1_1 l1_2 l1_3 = some r),
    Calls Tryz.prog 17 #[.agg #[.int .i64 a0_0, .string a0_1, .slice A0_2 l0_2.length c0_2, .slice A0_3 l0_3.length c0_3], .agg #[.int .i64 a1_0, .string a1_1, .slice A1_2 l1_2.length c1_2, .slice A1_3 l1_3.length c1_3]] w fun e w' => e = .returned (.bool r) ∧ Below w.heap.size w w' := by
  induction k using Nat.strongRecOn with
  | _ k ih =>
  intro a0_0 a0_1 A0_2 c0_2 l0_2 A0_3 c0_3 l0_3 a1_0 a1_1 A1_2 c1_2 l1_2 A1_3 c1_3 l1_3 r w hr0_2 hc0_2 hr0_3 hc0_3 hr1_2 hc1_2 hr1_3 hc1_3 h
  cases k with
  | zero => exact absurd h (by simp [spec_Same.f])
  | succ k =>
  simp only [spec_Same.f] at h
  have hu25 := Tryz.underlying25
  have HR0_2 := Aside0.mk hr0_2
  have HC0_2 := Aside0.mk hc0_2
  clear hr0_2 hc0_2
  have HR0_3 := Aside0.mk hr0_3
  have HC0_3 := Aside0.mk hc0_3
  clear hr0_3 hc0_3
  have HR1_2 := Aside0.mk hr1_2
  have HC1_2 := Aside0.mk hc1_2
  clear hr1_2 hc1_2
  have HR1_3 := Aside0.mk hr1_3
  have HC1_3 := Aside0.mk hc1_3
  clear hr1_3 hc1_3
  have HB := Aside0.mk (Below.refl w.heap.size w)
  have H : (if a0_0 = a1_0 then (if a0_1.toList = a1_1.toList then (if (l0_2.length : Int) = (l1_2.length : Int) then (spec_Same.j0 k ((l0_3.length : Int) != (l1_3.length : Int)) a0_0 a0_1 l0_2 l0_3 a1_0 a1_1 l1_2 l1_3) else (spec_Same.j0 k true a0_0 a0_1 l0_2 l0_3 a1_0 a1_1 l1_2 l1_3)) else (spec_Same.j0 k true a0_0 a0_1 l0_2 l0_3 a1_0 a1_1 l1_2 l1_3)) else (spec_Same.j0 k true a0_0 a0_1 l0_2 l0_3 a1_0 a1_1 l1_2 l1_3)) = some r := h
  clear h
  have HC3 := Aside0.mk H
  clear H
  go_enter Tryz.func17, Tryz.ntmps17
  go_upto_region 1 with (first | ((with_reducible refine gate_dst (N := 2) rfl ?_); (try (refine gate_guard (by rfl) ?_; dsimp only)); refine box_event ?hg (N := 2) ?hd (cs := #[.int .i64 a0_0, .string a0_1, .slice A0_2 l0_2.length c0_2, .slice A0_3 l0_3.length c0_3]) (t := 25) ?hr ?_; (case hd => rfl); (case hg => rfl); (case hr => first | (go_simp; done) | (go_simp; rfl)); intro gb101 hg w4 hbox hb; have n0_ := Aside0.mk (below_step (by repeat (first | (with_reducible first | exact HB.out | apply below_alloc | apply pw_below_drewN | apply below_drew1) | exact HB.out)) hb); have n1_ := Aside0.mk (hbox); have n2_ := Aside0.mk ((by rw [hg]; exact (below_size (by repeat (first | (with_reducible first | exact HB.out | apply below_alloc | apply pw_below_drewN | apply below_drew1) | exact HB.out))) : w.heap.size ≤ gb101)); have n3_ := Aside0.mk ((by rw [hg]; exact (below_size (by repeat (first | (with_reducible first | exact HB.out | apply below_alloc | apply pw_below_drewN | apply below_drew1) | exact HB.out))) : w.heap.size ≤ gb101)); clear HB; have HB := n0_; have BK101 := n1_; have GW101 := n2_; have GE101 := n3_; clear n0_ n1_ n2_ n3_; clear hb hbox hg) | ((with_reducible refine gate_dst (N := 3) rfl ?_); (try (refine gate_guard (by rfl) ?_; dsimp only)); refine box_event ?hg (N := 3) ?hd (cs := #[.int .i64 a1_0, .string a1_1, .slice A1_2 l1_2.length c1_2, .slice A1_3 l1_3.length c1_3]) (t := 25) ?hr ?_; (case hd => rfl); (case hg => rfl); (case hr => first | (go_simp; done) | (go_simp; rfl)); intro gb102 hg w5 hbox hb; have n0_ := Aside0.mk (blk_below (g := gb101) (o := .cells #[.int .i64 a0_0, .string a0_1, .slice A0_2 l0_2.length c0_2, .slice A0_3 l0_3.length c0_3] 25 (0, 0)) (by (with_reducible repeat (first | refine blk_drewN ?_ _ | refine blk_drew ?_ | refine blk_alloc ?_ _)); exact BK101.out) hb); have n1_ := Aside0.mk (below_step (by repeat (first | (with_reducible first | exact HB.out | apply below_alloc | apply pw_below_drewN | apply below_drew1 | refine below_set ?_ GE101.out) | exact HB.out)) hb); have n2_ := Aside0.mk (hbox); have n3_ := Aside0.mk ((by rw [hg]; exact (below_size (by repeat (first | (with_reducible first | exact HB.out | apply below_alloc | apply pw_below_drewN | apply below_drew1 | refine below_set ?_ GE101.out) | exact HB.out))) : w.heap.size ≤ gb102)); have n4_ := Aside0.mk ((by rw [hg]; exact (below_size (by repeat (first | (with_reducible first | exact HB.out | apply below_alloc | apply pw_below_drewN | apply below_drew1 | refine below_set ?_ GE101.out) | exact HB.out))) : w.heap.size ≤ gb102)); have n5_ := Aside0.mk ((by rw [hg]; exact Nat.ne_of_lt (blk_lt (g := gb101) (o := .cells #[.int .i64 a0_0, .string a0_1, .slice A0_2 l0_2.length c0_2, .slice A0_3 l0_3.length c0_3] 25 (0, 0)) (by (with_reducible repeat (first | refine blk_drewN ?_ _ | refine blk_drew ?_ | refine blk_alloc ?_ _)); exact BK101.out)) : gb101 ≠ gb102)); have n6_ := Aside0.mk ((by rw [hg]; exact Nat.ne_of_gt (blk_lt (g := gb101) (o := .cells #[.int .i64 a0_0, .string a0_1, .slice A0_2 l0_2.length c0_2, .slice A0_3 l0_3.length c0_3] 25 (0, 0)) (by (with_reducible repeat (first | refine blk_drewN ?_ _ | refine blk_drew ?_ | refine blk_alloc ?_ _)); exact BK101.out)) : gb102 ≠ gb101)); clear BK101; clear HB; have BK101 := n0_; have HB := n1_; have BK102 := n2_; have GW102 := n3_; have GE102 := n4_; have NB101_102 := n5_; have NB102_101 := n6_; clear n0_ n1_ n2_ n3_ n4_ n5_ n6_; clear hb hbox hg))
  (try simp only [Act.put, List.setIfInBounds_toArray, List.set_cons_zero, List.set_cons_succ])
  go_cut [36] (fun v36 wc => ∃ (kq : Nat) (x36_2 : Bool), v36 = .bool x36_2 ∧ Aside0 (spec_Same.j0 kq x36_2 a0_0 a0_1 l0_2 l0_3 a1_0 a1_1 l1_2 l1_3 = some r) ∧ Aside0 (kq ≤ k) ∧ Aside0 (wc.heap[gb101]? = some (.cells #[.int .i64 a0_0, .string a0_1, (.slice A0_2 l0_2.length c0_2), (.slice A0_3 l0_3.length c0_3)] 25 (0, 0))) ∧ Aside0 (wc.heap[gb102]? = some (.cells #[.int .i64 a1_0, .string a1_1, (.slice A1_2 l1_2.length c1_2), (.slice A1_3 l1_3.length c1_3)] 25 (0, 0))) ∧ Aside0 (Below w.heap.size w wc))
  case first =>
    have H := HC3.out
    clear HC3
    by_cases c6 : a0_0 = a1_0
    · rw [if_pos c6] at H
      have c6b0 : (a0_0 == a1_0) = true := beq_iff_eq.mpr c6
      have c6b1 : (a0_0 != a1_0) = false := bne_eq_false_iff_eq.mpr c6
      clear c6
      (first | rw [c6b0] | (simp only [i64_w, i32_w]; rw [c6b0]) | skip)
      by_cases c7 : a0_1.toList = a1_1.toList
      · rw [if_pos c7] at H
        have c7b0 : (a0_1.toList == a1_1.toList) = true := beq_iff_eq.mpr c7
        have c7b1 : (a0_1.toList != a1_1.toList) = false := bne_eq_false_iff_eq.mpr c7
        clear c7
        by_cases c8 : (l0_2.length : Int) = (l1_2.length : Int)
        · rw [if_pos c8] at H
          have c8b0 : ((l0_2.length : Int) == (l1_2.length : Int)) = true := beq_iff_eq.mpr c8
          have c8b1 : ((l0_2.length : Int) != (l1_2.length : Int)) = false := bne_eq_false_iff_eq.mpr c8
          have c8b2 : (l0_2.length == l1_2.length) = true := by first | simpa using c8 | (simp at c8 ⊢; omega)
          clear c8
          have H' := Aside0.mk H
          clear H
          have hnb9 := NB101_102.out
          have hnc9 := NB102_101.out
          have hcz10_0 : w5.cell? ⟨gb101, 0, none⟩ = some (.int .i64 a0_0) := (blk_cell BK101.out 0).trans rfl
          have hcz10_1 : w5.cell? ⟨gb101, 1, none⟩ = some (.string a0_1) := (blk_cell BK101.out 1).trans rfl
          have hcz10_2 : w5.cell? ⟨gb101, 2, none⟩ = some (.slice A0_2 l0_2.length c0_2) := (blk_cell BK101.out 2).trans rfl
          have hcz10_3 : w5.cell? ⟨gb101, 3, none⟩ = some (.slice A0_3 l0_3.length c0_3) := (blk_cell BK101.out 3).trans rfl
          have hfz10_0 := blk_frozen BK101.out 0
          have hfz10_1 := blk_frozen BK101.out 1
          have hfz10_2 := blk_frozen BK101.out 2
          have hfz10_3 := blk_frozen BK101.out 3
          have hcz11_0 : w5.cell? ⟨gb102, 0, none⟩ = some (.int .i64 a1_0) := (blk_cell BK102.out 0).trans rfl
          have hcz11_1 : w5.cell? ⟨gb102, 1, none⟩ = some (.string a1_1) := (blk_cell BK102.out 1).trans rfl
          have hcz11_2 : w5.cell? ⟨gb102, 2, none⟩ = some (.slice A1_2 l1_2.length c1_2) := (blk_cell BK102.out 2).trans rfl
          have hcz11_3 : w5.cell? ⟨gb102, 3, none⟩ = some (.slice A1_3 l1_3.length c1_3) := (blk_cell BK102.out 3).trans rfl
          have hfz11_0 := blk_frozen BK102.out 0
          have hfz11_1 := blk_frozen BK102.out 1
          have hfz11_2 := blk_frozen BK102.out 2
          have hfz11_3 := blk_frozen BK102.out 3
          go_wp2
          go_meet
          case rel => exact ⟨_, (((l0_3.length : Int) != (l1_3.length : Int))), (by first | rfl | (simp; done) | (simp [*]; done)), H', ⟨by first | omega | exact Nat.le_refl _⟩, ⟨by (with_reducible repeat (first | refine blk_drewN ?_ _ | refine blk_drew ?_ | refine blk_alloc ?_ _)); exact BK101.out⟩, ⟨by (with_reducible repeat (first | refine blk_drewN ?_ _ | refine blk_drew ?_ | refine blk_alloc ?_ _)); exact BK102.out⟩, ⟨by repeat (first | (with_reducible first | exact HB.out | apply below_alloc | apply pw_below_drewN | apply below_drew1 | refine below_set ?_ GE101.out | refine below_set ?_ GE102.out) | exact HB.out)⟩⟩
        · rw [if_neg c8] at H
          have c8b0 : ((l0_2.length : Int) == (l1_2.length : Int)) = false := beq_eq_false_iff_ne.mpr c8
          have c8b1 : ((l0_2.length : Int) != (l1_2.length : Int)) = true := bne_iff_ne.mpr c8
          have c8b2 : (l0_2.length == l1_2.length) = false := by first | simpa using c8 | (simp at c8 ⊢; omega)
          have H' := Aside0.mk H
          clear H
          have hnb12 := NB101_102.out
          have hnc12 := NB102_101.out
          have hcz13_0 : w5.cell? ⟨gb101, 0, none⟩ = some (.int .i64 a0_0) := (blk_cell BK101.out 0).trans rfl
          have hcz13_1 : w5.cell? ⟨gb101, 1, none⟩ = some (.string a0_1) := (blk_cell BK101.out 1).trans rfl
          have hcz13_2 : w5.cell? ⟨gb101, 2, none⟩ = some (.slice A0_2 l0_2.length c0_2) := (blk_cell BK101.out 2).trans rfl
          have hcz13_3 : w5.cell? ⟨gb101, 3, none⟩ = some (.slice A0_3 l0_3.length c0_3) := (blk_cell BK101.out 3).trans rfl
          have hfz13_0 := blk_frozen BK101.out 0
          have hfz13_1 := blk_frozen BK101.out 1
          have hfz13_2 := blk_frozen BK101.out 2
          have hfz13_3 := blk_frozen BK101.out 3
          have hcz14_0 : w5.cell? ⟨gb102, 0, none⟩ = some (.int .i64 a1_0) := (blk_cell BK102.out 0).trans rfl
          have hcz14_1 : w5.cell? ⟨gb102, 1, none⟩ = some (.string a1_1) := (blk_cell BK102.out 1).trans rfl
          have hcz14_2 : w5.cell? ⟨gb102, 2, none⟩ = some (.slice A1_2 l1_2.length c1_2) := (blk_cell BK102.out 2).trans rfl
          have hcz14_3 : w5.cell? ⟨gb102, 3, none⟩ = some (.slice A1_3 l1_3.length c1_3) := (blk_cell BK102.out 3).trans rfl
          have hfz14_0 := blk_frozen BK102.out 0
          have hfz14_1 := blk_frozen BK102.out 1
          have hfz14_2 := blk_frozen BK102.out 2
          have hfz14_3 := blk_frozen BK102.out 3
          go_wp2
          go_meet
          case rel => exact ⟨_, (true), (by first | rfl | (simp; done) | (simp [*]; done)), H', ⟨by first | omega | exact Nat.le_refl _⟩, ⟨by (with_reducible repeat (first | refine blk_drewN ?_ _ | refine blk_drew ?_ | refine blk_alloc ?_ _)); exact BK101.out⟩, ⟨by (with_reducible repeat (first | refine blk_drewN ?_ _ | refine blk_drew ?_ | refine blk_alloc ?_ _)); exact BK102.out⟩, ⟨by repeat (first | (with_reducible first | exact HB.out | apply below_alloc | apply pw_below_drewN | apply below_drew1 | refine below_set ?_ GE101.out | refine below_set ?_ GE102.out) | exact HB.out)⟩⟩
      · rw [if_neg c7] at H
        have c7b0 : (a0_1.toList == a1_1.toList) = false := beq_eq_false_iff_ne.mpr c7
        have c7b1 : (a0_1.toList != a1_1.toList) = true := bne_iff_ne.mpr c7
        have H' := Aside0.mk H
        clear H
        have hnb15 := NB101_102.out
        have hnc15 := NB102_101.out
        have hcz16_0 : w5.cell? ⟨gb101, 0, none⟩ = some (.int .i64 a0_0) := (blk_cell BK101.out 0).trans rfl
        have hcz16_1 : w5.cell? ⟨gb101, 1, none⟩ = some (.string a0_1) := (blk_cell BK101.out 1).trans rfl
        have hcz16_2 : w5.cell? ⟨gb101, 2, none⟩ = some (.slice A0_2 l0_2.length c0_2) := (blk_cell BK101.out 2).trans rfl
        have hcz16_3 : w5.cell? ⟨gb101, 3, none⟩ = some (.slice A0_3 l0_3.length c0_3) := (blk_cell BK101.out 3).trans rfl
        have hfz16_0 := blk_frozen BK101.out 0
        have hfz16_1 := blk_frozen BK101.out 1
        have hfz16_2 := blk_frozen BK101.out 2
        have hfz16_3 := blk_frozen BK101.out 3
        have hcz17_0 : w5.cell? ⟨gb102, 0, none⟩ = some (.int .i64 a1_0) := (blk_cell BK102.out 0).trans rfl
        have hcz17_1 : w5.cell? ⟨gb102, 1, none⟩ = some (.string a1_1) := (blk_cell BK102.out 1).trans rfl
        have hcz17_2 : w5.cell? ⟨gb102, 2, none⟩ = some (.slice A1_2 l1_2.length c1_2) := (blk_cell BK102.out 2).trans rfl
        have hcz17_3 : w5.cell? ⟨gb102, 3, none⟩ = some (.slice A1_3 l1_3.length c1_3) := (blk_cell BK102.out 3).trans rfl
        have hfz17_0 := blk_frozen BK102.out 0
        have hfz17_1 := blk_frozen BK102.out 1
        have hfz17_2 := blk_frozen BK102.out 2
        have hfz17_3 := blk_frozen BK102.out 3
        go_wp2
        go_meet
        case rel => exact ⟨_, (true), (by first | rfl | (simp; done) | (simp [*]; done)), H', ⟨by first | omega | exact Nat.le_refl _⟩, ⟨by (with_reducible repeat (first | refine blk_drewN ?_ _ | refine blk_drew ?_ | refine blk_alloc ?_ _)); exact BK101.out⟩, ⟨by (with_reducible repeat (first | refine blk_drewN ?_ _ | refine blk_drew ?_ | refine blk_alloc ?_ _)); exact BK102.out⟩, ⟨by repeat (first | (with_reducible first | exact HB.out | apply below_alloc | apply pw_below_drewN | apply below_drew1 | refine below_set ?_ GE101.out | refine below_set ?_ GE102.out) | exact HB.out)⟩⟩
    · rw [if_neg c6] at H
      have c6b0 : (a0_0 == a1_0) = false := beq_eq_false_iff_ne.mpr c6
      have c6b1 : (a0_0 != a1_0) = true := bne_iff_ne.mpr c6
      (first | rw [c6b0] | (simp only [i64_w, i32_w]; rw [c6b0]) | skip)
      have H' := Aside0.mk H
      clear H
      have hnb18 := NB101_102.out
      have hnc18 := NB102_101.out
      have hcz19_0 : w5.cell? ⟨gb101, 0, none⟩ = some (.int .i64 a0_0) := (blk_cell BK101.out 0).trans rfl
      have hcz19_1 : w5.cell? ⟨gb101, 1, none⟩ = some (.string a0_1) := (blk_cell BK101.out 1).trans rfl
      have hcz19_2 : w5.cell? ⟨gb101, 2, none⟩ = some (.slice A0_2 l0_2.length c0_2) := (blk_cell BK101.out 2).trans rfl
      have hcz19_3 : w5.cell? ⟨gb101, 3, none⟩ = some (.slice A0_3 l0_3.length c0_3) := (blk_cell BK101.out 3).trans rfl
      have hfz19_0 := blk_frozen BK101.out 0
      have hfz19_1 := blk_frozen BK101.out 1
      have hfz19_2 := blk_frozen BK101.out 2
      have hfz19_3 := blk_frozen BK101.out 3
      have hcz20_0 : w5.cell? ⟨gb102, 0, none⟩ = some (.int .i64 a1_0) := (blk_cell BK102.out 0).trans rfl
      have hcz20_1 : w5.cell? ⟨gb102, 1, none⟩ = some (.string a1_1) := (blk_cell BK102.out 1).trans rfl
      have hcz20_2 : w5.cell? ⟨gb102, 2, none⟩ = some (.slice A1_2 l1_2.length c1_2) := (blk_cell BK102.out 2).trans rfl
      have hcz20_3 : w5.cell? ⟨gb102, 3, none⟩ = some (.slice A1_3 l1_3.length c1_3) := (blk_cell BK102.out 3).trans rfl
      have hfz20_0 := blk_frozen BK102.out 0
      have hfz20_1 := blk_frozen BK102.out 1
      have hfz20_2 := blk_frozen BK102.out 2
      have hfz20_3 := blk_frozen BK102.out 3
      go_wp2
      go_meet
      case rel => exact ⟨_, (true), (by first | rfl | (simp; done) | (simp [*]; done)), H', ⟨by first | omega | exact Nat.le_refl _⟩, ⟨by (with_reducible repeat (first | refine blk_drewN ?_ _ | refine blk_drew ?_ | refine blk_alloc ?_ _)); exact BK101.out⟩, ⟨by (with_reducible repeat (first | refine blk_drewN ?_ _ | refine blk_drew ?_ | refine blk_alloc ?_ _)); exact BK102.out⟩, ⟨by repeat (first | (with_reducible first | exact HB.out | apply below_alloc | apply pw_below_drewN | apply below_drew1 | refine below_set ?_ GE101.out | refine below_set ?_ GE102.out) | exact HB.out)⟩⟩
  case rest =>
    clear HC3
    try clear c1
    try clear p2
    try clear c6
    try clear c6b0
    try clear c6b1
    try clear c7
    try clear c7b0
    try clear c7b1
    try clear c8
    try clear c8b0
    try clear c8b1
    try clear c8b2
    try clear c9
    try clear c12
    try clear c15
    try clear c17
    try clear c18
    try clear hcz10_0
    try clear hcz10_1
    try clear hcz10_2
    try clear hcz10_3
    try clear hcz11_0
    try clear hcz11_1
    try clear hcz11_2
    try clear hcz11_3
    try clear hcz13_0
    try clear hcz13_1
    try clear hcz13_2
    try clear hcz13_3
    try clear hcz14_0
    try clear hcz14_1
    try clear hcz14_2
    try clear hcz14_3
    try clear hcz16_0
    try clear hcz16_1
    try clear hcz16_2
    try clear hcz16_3
    try clear hcz17_0
    try clear hcz17_1
    try clear hcz17_2
    try clear hcz17_3
    try clear hcz19_0
    try clear hcz19_1
    try clear hcz19_2
    try clear hcz19_3
    try clear hcz20_0
    try clear hcz20_1
    try clear hcz20_2
    try clear hcz20_3
    try clear hfz10_0
    try clear hfz10_1
    try clear hfz10_2
    try clear hfz10_3
    try clear hfz11_0
    try clear hfz11_1
    try clear hfz11_2
    try clear hfz11_3
    try clear hfz13_0
    try clear hfz13_1
    try clear hfz13_2
    try clear hfz13_3
    try clear hfz14_0
    try clear hfz14_1
    try clear hfz14_2
    try clear hfz14_3
    try clear hfz16_0
    try clear hfz16_1
    try clear hfz16_2
    try clear hfz16_3
    try clear hfz17_0
    try clear hfz17_1
    try clear hfz17_2
    try clear hfz17_3
    try clear hfz19_0
    try clear hfz19_1
    try clear hfz19_2
    try clear hfz19_3
    try clear hfz20_0
    try clear hfz20_1
    try clear hfz20_2
    try clear hfz20_3
    obtain ⟨kq, x36_2, rfl, HA, HJ2, BK101, BK102, HB⟩ := hcut
    cases kq with
    | zero => exact absurd HA.out (by simp [spec_Same.j0])
    | succ kj2 =>
      have H := HA.out
      clear HA
      simp only [spec_Same.j0] at H
      by_cases c21 : x36_2 = true
      · subst c21
        have H1 : (some false) = some r := by rw [if_pos rfl] at H; exact H
        clear H
        have H := H1
        clear H1
        obtain rfl := Option.some.inj H
        go_wp2
        go_ret
        exact ⟨by first | rfl | (simp [errW_none, errW_some] <;> rfl) | (simp [*, errW_none, errW_some] <;> rfl), by repeat (first | (with_reducible first | exact HB.out | apply below_alloc | apply pw_below_drewN | apply below_drew1 | refine below_set ?_ GE101.out | refine below_set ?_ GE102.out) | exact HB.out)⟩
      · replace c21 := Bool.eq_false_iff.mpr c21
        subst c21
        have H1 : (spec_Same.l0 kj2 0 a0_0 a0_1 l0_2 l0_3 a1_0 a1_1 l1_2 l1_3) = some r := by rw [if_neg (show ¬ (false = true) by decide)] at H; exact H
        clear H
        have H := H1
        clear H1
        have H' := Aside0.mk H
        clear H
        go_wp2
        go_loopg [5] kj2 (fun kq v5 w' => ∃ (x5_2 : Int), v5 = .int .i64 x5_2 ∧ Aside0 (spec_Same.l0 kq x5_2 a0_0 a0_1 l0_2 l0_3 a1_0 a1_1 l1_2 l1_3 = some r) ∧ Aside0 (kq ≤ kj2) ∧ Aside0 (w'.heap[gb101]? = some (.cells #[.int .i64 a0_0, .string a0_1, (.slice A0_2 l0_2.length c0_2), (.slice A0_3 l0_3.length c0_3)] 25 (0, 0))) ∧ Aside0 (w'.heap[gb102]? = some (.cells #[.int .i64 a1_0, .string a1_1, (.slice A1_2 l1_2.length c1_2), (.slice A1_3 l1_3.length c1_3)] 25 (0, 0))) ∧ Aside0 (Below w.heap.size w w'))
        case atStart => exact ⟨(0), (by first | rfl | (simp; done) | (simp [*]; done)), H', ⟨Nat.le_refl _⟩, ⟨by (with_reducible repeat (first | refine blk_drewN ?_ _ | refine blk_drew ?_ | refine blk_alloc ?_ _)); exact BK101.out⟩, ⟨by (with_reducible repeat (first | refine blk_drewN ?_ _ | refine blk_drew ?_ | refine blk_alloc ?_ _)); exact BK102.out⟩, ⟨by repeat (first | (with_reducible first | exact HB.out | apply below_alloc | apply pw_below_drewN | apply below_drew1 | refine below_set ?_ GE101.out | refine below_set ?_ GE102.out) | exact HB.out)⟩⟩
        case round =>
          clear H'
          try clear c1
          try clear c2
          try clear p2
          try clear c6
          try clear c6b0
          try clear c6b1
          try clear c7
          try clear c7b0
          try clear c7b1
          try clear c8
          try clear c8b0
          try clear c8b1
          try clear c8b2
          try clear c9
          try clear c12
          try clear c15
          try clear c17
          try clear c18
          try clear c21
          try clear hcz10_0
          try clear hcz10_1
          try clear hcz10_2
          try clear hcz10_3
          try clear hcz11_0
          try clear hcz11_1
          try clear hcz11_2
          try clear hcz11_3
          try clear hcz13_0
          try clear hcz13_1
          try clear hcz13_2
          try clear hcz13_3
          try clear hcz14_0
          try clear hcz14_1
          try clear hcz14_2
          try clear hcz14_3
          try clear hcz16_0
          try clear hcz16_1
          try clear hcz16_2
          try clear hcz16_3
          try clear hcz17_0
          try clear hcz17_1
          try clear hcz17_2
          try clear hcz17_3
          try clear hcz19_0
          try clear hcz19_1
          try clear hcz19_2
          try clear hcz19_3
          try clear hcz20_0
          try clear hcz20_1
          try clear hcz20_2
          try clear hcz20_3
          try clear hfz10_0
          try clear hfz10_1
          try clear hfz10_2
          try clear hfz10_3
          try clear hfz11_0
          try clear hfz11_1
          try clear hfz11_2
          try clear hfz11_3
          try clear hfz13_0
          try clear hfz13_1
          try clear hfz13_2
          try clear hfz13_3
          try clear hfz14_0
          try clear hfz14_1
          try clear hfz14_2
          try clear hfz14_3
          try clear hfz16_0
          try clear hfz16_1
          try clear hfz16_2
          try clear hfz16_3
          try clear hfz17_0
          try clear hfz17_1
          try clear hfz17_2
          try clear hfz17_3
          try clear hfz19_0
          try clear hfz19_1
          try clear hfz19_2
          try clear hfz19_3
          try clear hfz20_0
          try clear hfz20_1
          try clear hfz20_2
          try clear hfz20_3
          try clear p2
          obtain ⟨x5_2, rfl, HA, HK2, BK101, BK102, HB⟩ := hrel
          cases gk with
          | zero => exact absurd HA.out (by simp [spec_Same.l0])
          | succ k2 =>
            have H := HA.out
            clear HA
            simp only [spec_Same.l0] at H
            by_cases c22 : x5_2 < (l0_2.length : Int)
            · rw [if_pos c22] at H
              have c22b0 : decide (x5_2 < (l0_2.length : Int)) = true := decide_eq_true c22
              clear c22
              by_cases c23 : 0 ≤ x5_2
              · rw [if_pos c23] at H
                have c23b0 : decide (0 ≤ x5_2) = true := decide_eq_true c23
                clear c23
                by_cases c24 : x5_2 < (l1_2.length : Int)
                · rw [if_pos c24] at H
                  have c24b0 : decide (x5_2 < (l1_2.length : Int)) = true := decide_eq_true c24
                  clear c24
                  by_cases c25 : (rdOf ByteArray.empty l0_2 x5_2).toList = (rdOf ByteArray.empty l1_2 x5_2).toList
                  · rw [if_pos c25] at H
                    have c25b0 : ((rdOf ByteArray.empty l0_2 x5_2).toList == (rdOf ByteArray.empty l1_2 x5_2).toList) = true := beq_iff_eq.mpr c25
                    have c25b1 : ((rdOf ByteArray.empty l0_2 x5_2).toList != (rdOf ByteArray.empty l1_2 x5_2).toList) = false := bne_eq_false_iff_eq.mpr c25
                    clear c25
                    have H' := Aside0.mk H
                    clear H
                    have hnb26 := NB101_102.out
                    have hnc26 := NB102_101.out
                    have hcz27_0 : wr.cell? ⟨gb101, 0, none⟩ = some (.int .i64 a0_0) := (blk_cell BK101.out 0).trans rfl
                    have hcz27_1 : wr.cell? ⟨gb101, 1, none⟩ = some (.string a0_1) := (blk_cell BK101.out 1).trans rfl
                    have hcz27_2 : wr.cell? ⟨gb101, 2, none⟩ = some (.slice A0_2 l0_2.length c0_2) := (blk_cell BK101.out 2).trans rfl
                    have hcz27_3 : wr.cell? ⟨gb101, 3, none⟩ = some (.slice A0_3 l0_3.length c0_3) := (blk_cell BK101.out 3).trans rfl
                    have hfz27_0 := blk_frozen BK101.out 0
                    have hfz27_1 := blk_frozen BK101.out 1
                    have hfz27_2 := blk_frozen BK101.out 2
                    have hfz27_3 := blk_frozen BK101.out 3
                    try go_wp2
                    have n0_ := Aside0.mk (blk_drew BK101.out)
                    have n1_ := Aside0.mk (blk_drew BK102.out)
                    have n2_ := Aside0.mk (below_drew1 HB.out)
                    clear BK101
                    clear BK102
                    clear HB
                    have BK101 := n0_
                    have BK102 := n1_
                    have HB := n2_
                    clear n0_ n1_ n2_
                    have p103 : 0 ≤ (x5_2 : Int) := of_decide_eq_true (by first | (with_reducible assumption) | assumption)
                    have q103 : x5_2 < (l0_2.length : Int) := of_decide_eq_true (by first | (with_reducible assumption) | assumption)
                    obtain ⟨ad103, e103, hx103_0⟩ := Kd.at_string HR0_2.out x5_2 p103 q103
                    have hw103_0 := hx103_0
                    cases e103
                    replace hx103_0 := (HB.out.cell (World.block_lt_of_cell? w _ hx103_0)).trans hx103_0
                    replace p103 := eq_true p103
                    replace q103 := eq_true q103
                    have p104 : 0 ≤ (x5_2 : Int) := of_decide_eq_true (by first | (with_reducible assumption) | assumption)
                    have q104 : x5_2 < (l1_2.length : Int) := of_decide_eq_true (by first | (with_reducible assumption) | assumption)
                    obtain ⟨ad104, e104, hx104_0⟩ := Kd.at_string HR1_2.out x5_2 p104 q104
                    have hw104_0 := hx104_0
                    cases e104
                    replace hx104_0 := (HB.out.cell (World.block_lt_of_cell? w _ hx104_0)).trans hx104_0
                    replace p104 := eq_true p104
                    replace q104 := eq_true q104
                    refine start_ (n := 11) (S := fun w' => w'.cell? ⟨gb101, 0, none⟩ = some (.int .i64 a0_0) ∧ w'.cell? ⟨gb101, 1, none⟩ = some (.string a0_1) ∧ w'.cell? ⟨gb101, 2, none⟩ = some (.slice (some ad103) l0_2.length c0_2) ∧ w'.cell? ⟨gb101, 3, none⟩ = some (.slice A0_3 l0_3.length c0_3) ∧ w'.cell? ⟨gb102, 0, none⟩ = some (.int .i64 a1_0) ∧ w'.cell? ⟨gb102, 1, none⟩ = some (.string a1_1) ∧ w'.cell? ⟨gb102, 2, none⟩ = some (.slice (some ad104) l1_2.length c1_2) ∧ w'.cell? ⟨gb102, 3, none⟩ = some (.slice A1_3 l1_3.length c1_3) ∧ w'.cell? (ad103.add (x5_2).toNat) = some (.string (rdOf ByteArray.empty l0_2 x5_2)) ∧ w'.cell? (ad104.add (x5_2).toNat) = some (.string (rdOf ByteArray.empty l1_2 x5_2))) (ds := []) #[false, false, false, false, false, false, false, false, false, false, false] (by kernel_rfl) rfl rfl ⟨(blk_cell BK101.out 0).trans rfl, (blk_cell BK101.out 1).trans rfl, (blk_cell BK101.out 2).trans rfl, (blk_cell BK101.out 3).trans rfl, (blk_cell BK102.out 0).trans rfl, (blk_cell BK102.out 1).trans rfl, (blk_cell BK102.out 2).trans rfl, (blk_cell BK102.out 3).trans rfl, ((HB.out.cell (World.block_lt_of_cell? w _ hw103_0)).trans hw103_0), ((HB.out.cell (World.block_lt_of_cell? w _ hw104_0)).trans hw104_0)⟩ (fun hHeld => ?_); refine with_tabW spec_Same.tab6 spec_Same.bits6 (fun HT_ HW_ => ?_)
                    generalize wr.drew = w28 at BK101 BK102 HB hx103_0 hx104_0 hHeld ⊢
                    refine pure_ (i := 0) (N := some 44) (v := ?_) (a' := ?_) #[true, false, false, false, false, false, false, false, false, false, false] rfl rfl (any_of HT_.out (by kernel_rfl)) (fun _ _ _ h => h) (Or.inl ⟨by rfl, ?_⟩) ?_ ?_
                    rotate_left
                    · intro w'
                      go_simp
                      with_reducible rfl
                    rotate_left
                    · simp only [Act.put, List.setIfInBounds_toArray, List.set_cons_zero, List.set_cons_succ, i64_w, i32_w]
                      rfl
                    refine pure_ (i := 2) (N := some 46) (v := ?_) (a' := ?_) #[true, false, true, false, false, false, false, false, false, false, false] rfl rfl (any_of HT_.out (by kernel_rfl)) (fun _ _ _ h => h) (Or.inl ⟨by rfl, ?_⟩) ?_ ?_
                    rotate_left
                    · intro w'
                      go_simp
                      with_reducible rfl
                    rotate_left
                    · simp only [Act.put, List.setIfInBounds_toArray, List.set_cons_zero, List.set_cons_succ, i64_w, i32_w]
                      rfl
                    refine pure_ (i := 5) (N := some 49) (v := ?_) (a' := ?_) #[true, false, true, false, false, true, false, false, false, false, false] rfl rfl (any_of HT_.out (by kernel_rfl)) (fun _ _ _ h => h) (Or.inl ⟨by rfl, ?_⟩) ?_ ?_
                    rotate_left
                    · intro w'
                      go_simp
                      with_reducible rfl
                    rotate_left
                    · simp only [Act.put, List.setIfInBounds_toArray, List.set_cons_zero, List.set_cons_succ, i64_w, i32_w]
                      rfl
                    refine pure_ (i := 7) (N := some 51) (v := ?_) (a' := ?_) #[true, false, true, false, false, true, false, true, false, false, false] rfl rfl (any_of HT_.out (by kernel_rfl)) (fun _ _ _ h => h) (Or.inl ⟨by rfl, ?_⟩) ?_ ?_
                    rotate_left
                    · intro w'
                      go_simp
                      with_reducible rfl
                    rotate_left
                    · simp only [Act.put, List.setIfInBounds_toArray, List.set_cons_zero, List.set_cons_succ, i64_w, i32_w]
                      rfl
                    refine take_ (i := 1) (N := some 45) (v := ?_) (a' := ?_) #[true, true, true, false, false, true, false, true, false, false, false] rfl rfl (take_ofW HT_.out HW_.out (by kernel_rfl)) (fun _ _ _ h => h) (Or.inl ⟨by rfl, ?_⟩) hHeld ?_ ?_
                    rotate_left
                    · rintro w' ⟨s0, s1, s2, s3, s4, s5, s6, s7, s8, s9⟩
                      go_simp
                      with_reducible rfl
                    rotate_left
                    · simp only [Act.put, List.setIfInBounds_toArray, List.set_cons_zero, List.set_cons_succ, i64_w, i32_w]
                      rfl
                    refine pure_ (i := 3) (N := some 47) (v := ?_) (a' := ?_) #[true, true, true, true, false, true, false, true, false, false, false] rfl rfl (any_of HT_.out (by kernel_rfl)) (fun _ _ _ h => h) (Or.inl ⟨by rfl, ?_⟩) ?_ ?_
                    rotate_left
                    · intro w'
                      go_simp
                      with_reducible rfl
                    rotate_left
                    · simp only [Act.put, List.setIfInBounds_toArray, List.set_cons_zero, List.set_cons_succ, i64_w, i32_w]
                      rfl
                    refine take_ (i := 4) (N := some 48) (v := ?_) (a' := ?_) #[true, true, true, true, true, true, false, true, false, false, false] rfl rfl (take_ofW HT_.out HW_.out (by kernel_rfl)) (fun _ _ _ h => h) (Or.inl ⟨by rfl, ?_⟩) hHeld ?_ ?_
                    rotate_left
                    · rintro w' ⟨s0, s1, s2, s3, s4, s5, s6, s7, s8, s9⟩
                      go_simp
                      with_reducible rfl
                    rotate_left
                    · simp only [Act.put, List.setIfInBounds_toArray, List.set_cons_zero, List.set_cons_succ, i64_w, i32_w]
                      rfl
                    refine take_ (i := 6) (N := some 50) (v := ?_) (a' := ?_) #[true, true, true, true, true, true, true, true, false, false, false] rfl rfl (take_ofW HT_.out HW_.out (by kernel_rfl)) (fun _ _ _ h => h) (Or.inl ⟨by rfl, ?_⟩) hHeld ?_ ?_
                    rotate_left
                    · rintro w' ⟨s0, s1, s2, s3, s4, s5, s6, s7, s8, s9⟩
                      go_simp
                      with_reducible rfl
                    rotate_left
                    · simp only [Act.put, List.setIfInBounds_toArray, List.set_cons_zero, List.set_cons_succ, i64_w, i32_w]
                      rfl
                    refine pure_ (i := 8) (N := some 52) (v := ?_) (a' := ?_) #[true, true, true, true, true, true, true, true, true, false, false] rfl rfl (any_of HT_.out (by kernel_rfl)) (fun _ _ _ h => h) (Or.inl ⟨by rfl, ?_⟩) ?_ ?_
                    rotate_left
                    · intro w'
                      go_simp
                      with_reducible rfl
                    rotate_left
                    · simp only [Act.put, List.setIfInBounds_toArray, List.set_cons_zero, List.set_cons_succ, i64_w, i32_w]
                      rfl
                    refine take_ (i := 9) (N := some 53) (v := ?_) (a' := ?_) #[true, true, true, true, true, true, true, true, true, true, false] rfl rfl (take_ofW HT_.out HW_.out (by kernel_rfl)) (fun _ _ _ h => h) (Or.inl ⟨by rfl, ?_⟩) hHeld ?_ ?_
                    rotate_left
                    · rintro w' ⟨s0, s1, s2, s3, s4, s5, s6, s7, s8, s9⟩
                      go_simp
                      with_reducible rfl
                    rotate_left
                    · simp only [Act.put, List.setIfInBounds_toArray, List.set_cons_zero, List.set_cons_succ, i64_w, i32_w]
                      rfl
                    refine pure_ (i := 10) (N := some 54) (v := ?_) (a' := ?_) #[true, true, true, true, true, true, true, true, true, true, true] rfl rfl (any_of HT_.out (by kernel_rfl)) (fun _ _ _ h => h) (Or.inl ⟨by rfl, ?_⟩) ?_ ?_
                    rotate_left
                    · intro w'
                      go_simp
                      with_reducible rfl
                    rotate_left
                    · simp only [Act.put, List.setIfInBounds_toArray, List.set_cons_zero, List.set_cons_succ, i64_w, i32_w]
                      rfl
                    refine done_ (done_of HT_.out (by kernel_rfl)) ?_
                    try go_wp2
                    go_roundg k2
                    case measure => have := HJ2.out; have := HK2.out; omega
                    case rel => exact ⟨(wrap64 (x5_2 + 1)), (by first | rfl | (simp; done) | (simp [*]; done)), H', ⟨by have := HJ2.out; have := HK2.out; omega⟩, ⟨by (with_reducible repeat (first | refine blk_drewN ?_ _ | refine blk_drew ?_ | refine blk_alloc ?_ _)); exact BK101.out⟩, ⟨by (with_reducible repeat (first | refine blk_drewN ?_ _ | refine blk_drew ?_ | refine blk_alloc ?_ _)); exact BK102.out⟩, ⟨by repeat (first | (with_reducible first | exact HB.out | apply below_alloc | apply pw_below_drewN | apply below_drew1 | refine below_set ?_ GE101.out | refine below_set ?_ GE102.out) | exact HB.out)⟩⟩
                  · rw [if_neg c25] at H
                    have c25b0 : ((rdOf ByteArray.empty l0_2 x5_2).toList == (rdOf ByteArray.empty l1_2 x5_2).toList) = false := beq_eq_false_iff_ne.mpr c25
                    have c25b1 : ((rdOf ByteArray.empty l0_2 x5_2).toList != (rdOf ByteArray.empty l1_2 x5_2).toList) = true := bne_iff_ne.mpr c25
                    obtain rfl := Option.some.inj H
                    have hnb29 := NB101_102.out
                    have hnc29 := NB102_101.out
                    have hcz30_0 : wr.cell? ⟨gb101, 0, none⟩ = some (.int .i64 a0_0) := (blk_cell BK101.out 0).trans rfl
                    have hcz30_1 : wr.cell? ⟨gb101, 1, none⟩ = some (.string a0_1) := (blk_cell BK101.out 1).trans rfl
                    have hcz30_2 : wr.cell? ⟨gb101, 2, none⟩ = some (.slice A0_2 l0_2.length c0_2) := (blk_cell BK101.out 2).trans rfl
                    have hcz30_3 : wr.cell? ⟨gb101, 3, none⟩ = some (.slice A0_3 l0_3.length c0_3) := (blk_cell BK101.out 3).trans rfl
                    have hfz30_0 := blk_frozen BK101.out 0
                    have hfz30_1 := blk_frozen BK101.out 1
                    have hfz30_2 := blk_frozen BK101.out 2
                    have hfz30_3 := blk_frozen BK101.out 3
                    try go_wp2
                    have n0_ := Aside0.mk (blk_drew BK101.out)
                    have n1_ := Aside0.mk (blk_drew BK102.out)
                    have n2_ := Aside0.mk (below_drew1 HB.out)
                    clear BK101
                    clear BK102
                    clear HB
                    have BK101 := n0_
                    have BK102 := n1_
                    have HB := n2_
                    clear n0_ n1_ n2_
                    have p103 : 0 ≤ (x5_2 : Int) := of_decide_eq_true (by first | (with_reducible assumption) | assumption)
                    have q103 : x5_2 < (l0_2.length : Int) := of_decide_eq_true (by first | (with_reducible assumption) | assumption)
                    obtain ⟨ad103, e103, hx103_0⟩ := Kd.at_string HR0_2.out x5_2 p103 q103
                    have hw103_0 := hx103_0
                    cases e103
                    replace hx103_0 := (HB.out.cell (World.block_lt_of_cell? w _ hx103_0)).trans hx103_0
                    replace p103 := eq_true p103
                    replace q103 := eq_true q103
                    have p104 : 0 ≤ (x5_2 : Int) := of_decide_eq_true (by first | (with_reducible assumption) | assumption)
                    have q104 : x5_2 < (l1_2.length : Int) := of_decide_eq_true (by first | (with_reducible assumption) | assumption)
                    obtain ⟨ad104, e104, hx104_0⟩ := Kd.at_string HR1_2.out x5_2 p104 q104
                    have hw104_0 := hx104_0
                    cases e104
                    replace hx104_0 := (HB.out.cell (World.block_lt_of_cell? w _ hx104_0)).trans hx104_0
                    replace p104 := eq_true p104
                    replace q104 := eq_true q104
                    refine start_ (n := 11) (S := fun w' => w'.cell? ⟨gb101, 0, none⟩ = some (.int .i64 a0_0) ∧ w'.cell? ⟨gb101, 1, none⟩ = some (.string a0_1) ∧ w'.cell? ⟨gb101, 2, none⟩ = some (.slice (some ad103) l0_2.length c0_2) ∧ w'.cell? ⟨gb101, 3, none⟩ = some (.slice A0_3 l0_3.length c0_3) ∧ w'.cell? ⟨gb102, 0, none⟩ = some (.int .i64 a1_0) ∧ w'.cell? ⟨gb102, 1, none⟩ = some (.string a1_1) ∧ w'.cell? ⟨gb102, 2, none⟩ = some (.slice (some ad104) l1_2.length c1_2) ∧ w'.cell? ⟨gb102, 3, none⟩ = some (.slice A1_3 l1_3.length c1_3) ∧ w'.cell? (ad103.add (x5_2).toNat) = some (.string (rdOf ByteArray.empty l0_2 x5_2)) ∧ w'.cell? (ad104.add (x5_2).toNat) = some (.string (rdOf ByteArray.empty l1_2 x5_2))) (ds := []) #[false, false, false, false, false, false, false, false, false, false, false] (by kernel_rfl) rfl rfl ⟨(blk_cell BK101.out 0).trans rfl, (blk_cell BK101.out 1).trans rfl, (blk_cell BK101.out 2).trans rfl, (blk_cell BK101.out 3).trans rfl, (blk_cell BK102.out 0).trans rfl, (blk_cell BK102.out 1).trans rfl, (blk_cell BK102.out 2).trans rfl, (blk_cell BK102.out 3).trans rfl, ((HB.out.cell (World.block_lt_of_cell? w _ hw103_0)).trans hw103_0), ((HB.out.cell (World.block_lt_of_cell? w _ hw104_0)).trans hw104_0)⟩ (fun hHeld => ?_); refine with_tabW spec_Same.tab6 spec_Same.bits6 (fun HT_ HW_ => ?_)
                    generalize wr.drew = w31 at BK101 BK102 HB hx103_0 hx104_0 hHeld ⊢
                    refine pure_ (i := 0) (N := some 44) (v := ?_) (a' := ?_) #[true, false, false, false, false, false, false, false, false, false, false] rfl rfl (any_of HT_.out (by kernel_rfl)) (fun _ _ _ h => h) (Or.inl ⟨by rfl, ?_⟩) ?_ ?_
                    rotate_left
                    · intro w'
                      go_simp
                      with_reducible rfl
                    rotate_left
                    · simp only [Act.put, List.setIfInBounds_toArray, List.set_cons_zero, List.set_cons_succ, i64_w, i32_w]
                      rfl
                    refine pure_ (i := 2) (N := some 46) (v := ?_) (a' := ?_) #[true, false, true, false, false, false, false, false, false, false, false] rfl rfl (any_of HT_.out (by kernel_rfl)) (fun _ _ _ h => h) (Or.inl ⟨by rfl, ?_⟩) ?_ ?_
                    rotate_left
                    · intro w'
                      go_simp
                      with_reducible rfl
                    rotate_left
                    · simp only [Act.put, List.setIfInBounds_toArray, List.set_cons_zero, List.set_cons_succ, i64_w, i32_w]
                      rfl
                    refine pure_ (i := 5) (N := some 49) (v := ?_) (a' := ?_) #[true, false, true, false, false, true, false, false, false, false, false] rfl rfl (any_of HT_.out (by kernel_rfl)) (fun _ _ _ h => h) (Or.inl ⟨by rfl, ?_⟩) ?_ ?_
                    rotate_left
                    · intro w'
                      go_simp
                      with_reducible rfl
                    rotate_left
                    · simp only [Act.put, List.setIfInBounds_toArray, List.set_cons_zero, List.set_cons_succ, i64_w, i32_w]
                      rfl
                    refine pure_ (i := 7) (N := some 51) (v := ?_) (a' := ?_) #[true, false, true, false, false, true, false, true, false, false, false] rfl rfl (any_of HT_.out (by kernel_rfl)) (fun _ _ _ h => h) (Or.inl ⟨by rfl, ?_⟩) ?_ ?_
                    rotate_left
                    · intro w'
                      go_simp
                      with_reducible rfl
                    rotate_left
                    · simp only [Act.put, List.setIfInBounds_toArray, List.set_cons_zero, List.set_cons_succ, i64_w, i32_w]
                      rfl
                    refine take_ (i := 1) (N := some 45) (v := ?_) (a' := ?_) #[true, true, true, false, false, true, false, true, false, false, false] rfl rfl (take_ofW HT_.out HW_.out (by kernel_rfl)) (fun _ _ _ h => h) (Or.inl ⟨by rfl, ?_⟩) hHeld ?_ ?_
                    rotate_left
                    · rintro w' ⟨s0, s1, s2, s3, s4, s5, s6, s7, s8, s9⟩
                      go_simp
                      with_reducible rfl
                    rotate_left
                    · simp only [Act.put, List.setIfInBounds_toArray, List.set_cons_zero, List.set_cons_succ, i64_w, i32_w]
                      rfl
                    refine pure_ (i := 3) (N := some 47) (v := ?_) (a' := ?_) #[true, true, true, true, false, true, false, true, false, false, false] rfl rfl (any_of HT_.out (by kernel_rfl)) (fun _ _ _ h => h) (Or.inl ⟨by rfl, ?_⟩) ?_ ?_
                    rotate_left
                    · intro w'
                      go_simp
                      with_reducible rfl
                    rotate_left
                    · simp only [Act.put, List.setIfInBounds_toArray, List.set_cons_zero, List.set_cons_succ, i64_w, i32_w]
                      rfl
                    refine take_ (i := 4) (N := some 48) (v := ?_) (a' := ?_) #[true, true, true, true, true, true, false, true, false, false, false] rfl rfl (take_ofW HT_.out HW_.out (by kernel_rfl)) (fun _ _ _ h => h) (Or.inl ⟨by rfl, ?_⟩) hHeld ?_ ?_
                    rotate_left
                    · rintro w' ⟨s0, s1, s2, s3, s4, s5, s6, s7, s8, s9⟩
                      go_simp
                      with_reducible rfl
                    rotate_left
                    · simp only [Act.put, List.setIfInBounds_toArray, List.set_cons_zero, List.set_cons_succ, i64_w, i32_w]
                      rfl
                    refine take_ (i := 6) (N := some 50) (v := ?_) (a' := ?_) #[true, true, true, true, true, true, true, true, false, false, false] rfl rfl (take_ofW HT_.out HW_.out (by kernel_rfl)) (fun _ _ _ h => h) (Or.inl ⟨by rfl, ?_⟩) hHeld ?_ ?_
                    rotate_left
                    · rintro w' ⟨s0, s1, s2, s3, s4, s5, s6, s7, s8, s9⟩
                      go_simp
                      with_reducible rfl
                    rotate_left
                    · simp only [Act.put, List.setIfInBounds_toArray, List.set_cons_zero, List.set_cons_succ, i64_w, i32_w]
                      rfl
                    refine pure_ (i := 8) (N := some 52) (v := ?_) (a' := ?_) #[true, true, true, true, true, true, true, true, true, false, false] rfl rfl (any_of HT_.out (by kernel_rfl)) (fun _ _ _ h => h) (Or.inl ⟨by rfl, ?_⟩) ?_ ?_
                    rotate_left
                    · intro w'
                      go_simp
                      with_reducible rfl
                    rotate_left
                    · simp only [Act.put, List.setIfInBounds_toArray, List.set_cons_zero, List.set_cons_succ, i64_w, i32_w]
                      rfl
                    refine take_ (i := 9) (N := some 53) (v := ?_) (a' := ?_) #[true, true, true, true, true, true, true, true, true, true, false] rfl rfl (take_ofW HT_.out HW_.out (by kernel_rfl)) (fun _ _ _ h => h) (Or.inl ⟨by rfl, ?_⟩) hHeld ?_ ?_
                    rotate_left
                    · rintro w' ⟨s0, s1, s2, s3, s4, s5, s6, s7, s8, s9⟩
                      go_simp
                      with_reducible rfl
                    rotate_left
                    · simp only [Act.put, List.setIfInBounds_toArray, List.set_cons_zero, List.set_cons_succ, i64_w, i32_w]
                      rfl
                    refine pure_ (i := 10) (N := some 54) (v := ?_) (a' := ?_) #[true, true, true, true, true, true, true, true, true, true, true] rfl rfl (any_of HT_.out (by kernel_rfl)) (fun _ _ _ h => h) (Or.inl ⟨by rfl, ?_⟩) ?_ ?_
                    rotate_left
                    · intro w'
                      go_simp
                      with_reducible rfl
                    rotate_left
                    · simp only [Act.put, List.setIfInBounds_toArray, List.set_cons_zero, List.set_cons_succ, i64_w, i32_w]
                      rfl
                    refine done_ (done_of HT_.out (by kernel_rfl)) ?_
                    try go_wp2
                    go_ret
                    exact ⟨by first | rfl | (simp [errW_none, errW_some] <;> rfl) | (simp [*, errW_none, errW_some] <;> rfl), by repeat (first | (with_reducible first | exact HB.out | apply below_alloc | apply pw_below_drewN | apply below_drew1 | refine below_set ?_ GE101.out | refine below_set ?_ GE102.out) | exact HB.out)⟩
                · rw [if_neg c24] at H
                  exact absurd H (by simp)
              · rw [if_neg c23] at H
                exact absurd H (by simp)
            · rw [if_neg c22] at H
              have c22b0 : decide (x5_2 < (l0_2.length : Int)) = false := decide_eq_false c22
              clear c22
              have H' := Aside0.mk H
              clear H
              have hnb32 := NB101_102.out
              have hnc32 := NB102_101.out
              have hcz33_0 : wr.cell? ⟨gb101, 0, none⟩ = some (.int .i64 a0_0) := (blk_cell BK101.out 0).trans rfl
              have hcz33_1 : wr.cell? ⟨gb101, 1, none⟩ = some (.string a0_1) := (blk_cell BK101.out 1).trans rfl
              have hcz33_2 : wr.cell? ⟨gb101, 2, none⟩ = some (.slice A0_2 l0_2.length c0_2) := (blk_cell BK101.out 2).trans rfl
              have hcz33_3 : wr.cell? ⟨gb101, 3, none⟩ = some (.slice A0_3 l0_3.length c0_3) := (blk_cell BK101.out 3).trans rfl
              have hfz33_0 := blk_frozen BK101.out 0
              have hfz33_1 := blk_frozen BK101.out 1
              have hfz33_2 := blk_frozen BK101.out 2
              have hfz33_3 := blk_frozen BK101.out 3
              go_wp2
              go_loopg [6] k2 (fun kq v6 w' => ∃ (x6_3 : Int), v6 = .int .i64 x6_3 ∧ Aside0 (spec_Same.l1 kq x6_3 a0_0 a0_1 l0_2 l0_3 a1_0 a1_1 l1_2 l1_3 = some r) ∧ Aside0 (kq ≤ k2) ∧ Aside0 (w'.heap[gb101]? = some (.cells #[.int .i64 a0_0, .string a0_1, (.slice A0_2 l0_2.length c0_2), (.slice A0_3 l0_3.length c0_3)] 25 (0, 0))) ∧ Aside0 (w'.heap[gb102]? = some (.cells #[.int .i64 a1_0, .string a1_1, (.slice A1_2 l1_2.length c1_2), (.slice A1_3 l1_3.length c1_3)] 25 (0, 0))) ∧ Aside0 (Below w.heap.size w w'))
              case atStart => exact ⟨(0), (by first | rfl | (simp; done) | (simp [*]; done)), H', ⟨Nat.le_refl _⟩, ⟨by (with_reducible repeat (first | refine blk_drewN ?_ _ | refine blk_drew ?_ | refine blk_alloc ?_ _)); exact BK101.out⟩, ⟨by (with_reducible repeat (first | refine blk_drewN ?_ _ | refine blk_drew ?_ | refine blk_alloc ?_ _)); exact BK102.out⟩, ⟨by repeat (first | (with_reducible first | exact HB.out | apply below_alloc | apply pw_below_drewN | apply below_drew1 | refine below_set ?_ GE101.out | refine below_set ?_ GE102.out) | exact HB.out)⟩⟩
              case round =>
                clear H'
                try clear c1
                try clear p1
                try clear q1
                try clear hx1
                try clear c2
                try clear p2
                try clear c3
                try clear c6
                try clear c6b0
                try clear c6b1
                try clear p6
                try clear c7
                try clear c7b0
                try clear c7b1
                try clear c8
                try clear c8b0
                try clear c8b1
                try clear c8b2
                try clear c9
                try clear p10
                try clear q10
                try clear hx10
                try clear c12
                try clear c15
                try clear c17
                try clear c18
                try clear c21
                try clear c22
                try clear c22b0
                try clear c23
                try clear c23b0
                try clear c24
                try clear c24b0
                try clear c25
                try clear c25b0
                try clear c25b1
                try clear c26
                try clear c29
                try clear c32
                try clear hcz10_0
                try clear hcz10_1
                try clear hcz10_2
                try clear hcz10_3
                try clear hcz11_0
                try clear hcz11_1
                try clear hcz11_2
                try clear hcz11_3
                try clear hcz13_0
                try clear hcz13_1
                try clear hcz13_2
                try clear hcz13_3
                try clear hcz14_0
                try clear hcz14_1
                try clear hcz14_2
                try clear hcz14_3
                try clear hcz16_0
                try clear hcz16_1
                try clear hcz16_2
                try clear hcz16_3
                try clear hcz17_0
                try clear hcz17_1
                try clear hcz17_2
                try clear hcz17_3
                try clear hcz19_0
                try clear hcz19_1
                try clear hcz19_2
                try clear hcz19_3
                try clear hcz20_0
                try clear hcz20_1
                try clear hcz20_2
                try clear hcz20_3
                try clear hcz27_0
                try clear hcz27_1
                try clear hcz27_2
                try clear hcz27_3
                try clear hcz30_0
                try clear hcz30_1
                try clear hcz30_2
                try clear hcz30_3
                try clear hcz33_0
                try clear hcz33_1
                try clear hcz33_2
                try clear hcz33_3
                try clear hfz10_0
                try clear hfz10_1
                try clear hfz10_2
                try clear hfz10_3
                try clear hfz11_0
                try clear hfz11_1
                try clear hfz11_2
                try clear hfz11_3
                try clear hfz13_0
                try clear hfz13_1
                try clear hfz13_2
                try clear hfz13_3
                try clear hfz14_0
                try clear hfz14_1
                try clear hfz14_2
                try clear hfz14_3
                try clear hfz16_0
                try clear hfz16_1
                try clear hfz16_2
                try clear hfz16_3
                try clear hfz17_0
                try clear hfz17_1
                try clear hfz17_2
                try clear hfz17_3
                try clear hfz19_0
                try clear hfz19_1
                try clear hfz19_2
                try clear hfz19_3
                try clear hfz20_0
                try clear hfz20_1
                try clear hfz20_2
                try clear hfz20_3
                try clear hfz27_0
                try clear hfz27_1
                try clear hfz27_2
                try clear hfz27_3
                try clear hfz30_0
                try clear hfz30_1
                try clear hfz30_2
                try clear hfz30_3
                try clear hfz33_0
                try clear hfz33_1
                try clear hfz33_2
                try clear hfz33_3
                try clear hx103_0
                try clear hx104_0
                try clear p103
                try clear p104
                try clear p2
                try clear q103
                try clear q104
                obtain ⟨x6_3, rfl, HA, HK3, BK101, BK102, HB⟩ := hrel
                cases gk with
                | zero => exact absurd HA.out (by simp [spec_Same.l1])
                | succ k3 =>
                  have H := HA.out
                  clear HA
                  simp only [spec_Same.l1] at H
                  by_cases c34 : x6_3 < (l0_3.length : Int)
                  · rw [if_pos c34] at H
                    have c34b0 : decide (x6_3 < (l0_3.length : Int)) = true := decide_eq_true c34
                    clear c34
                    by_cases c35 : 0 ≤ x6_3
                    · rw [if_pos c35] at H
                      have c35b0 : decide (0 ≤ x6_3) = true := decide_eq_true c35
                      clear c35
                      by_cases c36 : x6_3 < (l1_3.length : Int)
                      · rw [if_pos c36] at H
                        have c36b0 : decide (x6_3 < (l1_3.length : Int)) = true := decide_eq_true c36
                        clear c36
                        replace H := Option.bind_eq_some_iff.mp H
                        obtain ⟨t107, A370, H⟩ := H
                        replace H : (if t107 = true then (spec_Same.l1 k3 (wrap64 (x6_3 + 1)) a0_0 a0_1 l0_2 l0_3 a1_0 a1_1 l1_2 l1_3) else (some false)) = some r := H
                        have A37 := Aside0.mk A370
                        clear A370
                        by_cases c38 : t107 = true
                        · subst c38
                          have H1 : (spec_Same.l1 k3 (wrap64 (x6_3 + 1)) a0_0 a0_1 l0_2 l0_3 a1_0 a1_1 l1_2 l1_3) = some r := by rw [if_pos rfl] at H; exact H
                          clear H
                          have H := H1
                          clear H1
                          have H' := Aside0.mk H
                          clear H
                          have hnb39 := NB101_102.out
                          have hnc39 := NB102_101.out
                          have hcz40_0 : wr.cell? ⟨gb101, 0, none⟩ = some (.int .i64 a0_0) := (blk_cell BK101.out 0).trans rfl
                          have hcz40_1 : wr.cell? ⟨gb101, 1, none⟩ = some (.string a0_1) := (blk_cell BK101.out 1).trans rfl
                          have hcz40_2 : wr.cell? ⟨gb101, 2, none⟩ = some (.slice A0_2 l0_2.length c0_2) := (blk_cell BK101.out 2).trans rfl
                          have hcz40_3 : wr.cell? ⟨gb101, 3, none⟩ = some (.slice A0_3 l0_3.length c0_3) := (blk_cell BK101.out 3).trans rfl
                          have hfz40_0 := blk_frozen BK101.out 0
                          have hfz40_1 := blk_frozen BK101.out 1
                          have hfz40_2 := blk_frozen BK101.out 2
                          have hfz40_3 := blk_frozen BK101.out 3
                          try go_wp2
                          have n0_ := Aside0.mk (blk_drew BK101.out)
                          have n1_ := Aside0.mk (blk_drew BK102.out)
                          have n2_ := Aside0.mk (below_drew1 HB.out)
                          clear BK101
                          clear BK102
                          clear HB
                          have BK101 := n0_
                          have BK102 := n1_
                          have HB := n2_
                          clear n0_ n1_ n2_
                          have p105 : 0 ≤ (x6_3 : Int) := of_decide_eq_true (by first | (with_reducible assumption) | assumption)
                          have q105 : x6_3 < (l0_3.length : Int) := of_decide_eq_true (by first | (with_reducible assumption) | assumption)
                          obtain ⟨ad105, A105_2, c105_2, A105_3, c105_3, e105, hx105_0, hx105_1, hx105_2, hx105_3, hl105_2, hi105_2, hl105_3, hi105_3⟩ := at_T25 HR0_3.out x6_3 p105 q105
                          have hw105_3 := hx105_3
                          have hw105_2 := hx105_2
                          have hw105_1 := hx105_1
                          have hw105_0 := hx105_0
                          cases e105
                          replace hx105_0 := (HB.out.cell (World.block_lt_of_cell? w _ hx105_0)).trans hx105_0
                          replace hx105_1 := (HB.out.cell (World.block_lt_of_cell? w _ hx105_1)).trans hx105_1
                          replace hx105_2 := (HB.out.cell (World.block_lt_of_cell? w _ hx105_2)).trans hx105_2
                          replace hx105_3 := (HB.out.cell (World.block_lt_of_cell? w _ hx105_3)).trans hx105_3
                          have HR105_2 := Aside0.mk hi105_2
                          have HC105_2 := Aside0.mk hl105_2
                          clear hi105_2 hl105_2
                          have HR105_3 := Aside0.mk hi105_3
                          have HC105_3 := Aside0.mk hl105_3
                          clear hi105_3 hl105_3
                          replace p105 := eq_true p105
                          replace q105 := eq_true q105
                          have p106 : 0 ≤ (x6_3 : Int) := of_decide_eq_true (by first | (with_reducible assumption) | assumption)
                          have q106 : x6_3 < (l1_3.length : Int) := of_decide_eq_true (by first | (with_reducible assumption) | assumption)
                          obtain ⟨ad106, A106_2, c106_2, A106_3, c106_3, e106, hx106_0, hx106_1, hx106_2, hx106_3, hl106_2, hi106_2, hl106_3, hi106_3⟩ := at_T25 HR1_3.out x6_3 p106 q106
                          have hw106_3 := hx106_3
                          have hw106_2 := hx106_2
                          have hw106_1 := hx106_1
                          have hw106_0 := hx106_0
                          cases e106
                          replace hx106_0 := (HB.out.cell (World.block_lt_of_cell? w _ hx106_0)).trans hx106_0
                          replace hx106_1 := (HB.out.cell (World.block_lt_of_cell? w _ hx106_1)).trans hx106_1
                          replace hx106_2 := (HB.out.cell (World.block_lt_of_cell? w _ hx106_2)).trans hx106_2
                          replace hx106_3 := (HB.out.cell (World.block_lt_of_cell? w _ hx106_3)).trans hx106_3
                          have HR106_2 := Aside0.mk hi106_2
                          have HC106_2 := Aside0.mk hl106_2
                          clear hi106_2 hl106_2
                          have HR106_3 := Aside0.mk hi106_3
                          have HC106_3 := Aside0.mk hl106_3
                          clear hi106_3 hl106_3
                          replace p106 := eq_true p106
                          replace q106 := eq_true q106
                          refine start_ (n := 12) (S := fun w' => w'.cell? ⟨gb101, 0, none⟩ = some (.int .i64 a0_0) ∧ w'.cell? ⟨gb101, 1, none⟩ = some (.string a0_1) ∧ w'.cell? ⟨gb101, 2, none⟩ = some (.slice A0_2 l0_2.length c0_2) ∧ w'.cell? ⟨gb101, 3, none⟩ = some (.slice (some ad105) l0_3.length c0_3) ∧ w'.cell? ⟨gb102, 0, none⟩ = some (.int .i64 a1_0) ∧ w'.cell? ⟨gb102, 1, none⟩ = some (.string a1_1) ∧ w'.cell? ⟨gb102, 2, none⟩ = some (.slice A1_2 l1_2.length c1_2) ∧ w'.cell? ⟨gb102, 3, none⟩ = some (.slice (some ad106) l1_3.length c1_3) ∧ w'.cell? (ad105.add ((x6_3).toNat * 4)) = some (.int .i64 ((rd_T25 l0_3 x6_3).f0)) ∧ w'.cell? ⟨(ad105.add ((x6_3).toNat * 4)).block, (ad105.add ((x6_3).toNat * 4)).off + 1, none⟩ = some (.string ((rd_T25 l0_3 x6_3).f1)) ∧ w'.cell? ⟨(ad105.add ((x6_3).toNat * 4)).block, (ad105.add ((x6_3).toNat * 4)).off + 2, none⟩ = some (.slice A105_2 ((rd_T25 l0_3 x6_3).f2).length c105_2) ∧ w'.cell? ⟨(ad105.add ((x6_3).toNat * 4)).block, (ad105.add ((x6_3).toNat * 4)).off + 3, none⟩ = some (.slice A105_3 ((rd_T25 l0_3 x6_3).f3).length c105_3) ∧ w'.cell? (ad106.add ((x6_3).toNat * 4)) = some (.int .i64 ((rd_T25 l1_3 x6_3).f0)) ∧ w'.cell? ⟨(ad106.add ((x6_3).toNat * 4)).block, (ad106.add ((x6_3).toNat * 4)).off + 1, none⟩ = some (.string ((rd_T25 l1_3 x6_3).f1)) ∧ w'.cell? ⟨(ad106.add ((x6_3).toNat * 4)).block, (ad106.add ((x6_3).toNat * 4)).off + 2, none⟩ = some (.slice A106_2 ((rd_T25 l1_3 x6_3).f2).length c106_2) ∧ w'.cell? ⟨(ad106.add ((x6_3).toNat * 4)).block, (ad106.add ((x6_3).toNat * 4)).off + 3, none⟩ = some (.slice A106_3 ((rd_T25 l1_3 x6_3).f3).length c106_3)) (ds := []) #[false, false, false, false, false, false, false, false, false, false, false, false] (by kernel_rfl) rfl rfl ⟨(blk_cell BK101.out 0).trans rfl, (blk_cell BK101.out 1).trans rfl, (blk_cell BK101.out 2).trans rfl, (blk_cell BK101.out 3).trans rfl, (blk_cell BK102.out 0).trans rfl, (blk_cell BK102.out 1).trans rfl, (blk_cell BK102.out 2).trans rfl, (blk_cell BK102.out 3).trans rfl, ((HB.out.cell (World.block_lt_of_cell? w _ hw105_0)).trans hw105_0), ((HB.out.cell (World.block_lt_of_cell? w _ hw105_1)).trans hw105_1), ((HB.out.cell (World.block_lt_of_cell? w _ hw105_2)).trans hw105_2), ((HB.out.cell (World.block_lt_of_cell? w _ hw105_3)).trans hw105_3), ((HB.out.cell (World.block_lt_of_cell? w _ hw106_0)).trans hw106_0), ((HB.out.cell (World.block_lt_of_cell? w _ hw106_1)).trans hw106_1), ((HB.out.cell (World.block_lt_of_cell? w _ hw106_2)).trans hw106_2), ((HB.out.cell (World.block_lt_of_cell? w _ hw106_3)).trans hw106_3)⟩ (fun hHeld => ?_); refine with_tabW spec_Same.tab11 spec_Same.bits11 (fun HT_ HW_ => ?_)
                          generalize wr.drew = w41 at BK101 BK102 HB HR105_2 HR105_3 HR106_2 HR106_3 hx105_0 hx105_1 hx105_2 hx105_3 hx106_0 hx106_1 hx106_2 hx106_3 hHeld ⊢
                          refine pure_ (i := 0) (N := some 62) (v := ?_) (a' := ?_) #[true, false, false, false, false, false, false, false, false, false, false, false] rfl rfl (any_of HT_.out (by kernel_rfl)) (fun _ _ _ h => h) (Or.inl ⟨by rfl, ?_⟩) ?_ ?_
                          rotate_left
                          · intro w'
                            go_simp
                            with_reducible rfl
                          rotate_left
                          · simp only [Act.put, List.setIfInBounds_toArray, List.set_cons_zero, List.set_cons_succ, i64_w, i32_w]
                            rfl
                          refine pure_ (i := 2) (N := some 64) (v := ?_) (a' := ?_) #[true, false, true, false, false, false, false, false, false, false, false, false] rfl rfl (any_of HT_.out (by kernel_rfl)) (fun _ _ _ h => h) (Or.inl ⟨by rfl, ?_⟩) ?_ ?_
                          rotate_left
                          · intro w'
                            go_simp
                            with_reducible rfl
                          rotate_left
                          · simp only [Act.put, List.setIfInBounds_toArray, List.set_cons_zero, List.set_cons_succ, i64_w, i32_w]
                            rfl
                          refine pure_ (i := 5) (N := some 67) (v := ?_) (a' := ?_) #[true, false, true, false, false, true, false, false, false, false, false, false] rfl rfl (any_of HT_.out (by kernel_rfl)) (fun _ _ _ h => h) (Or.inl ⟨by rfl, ?_⟩) ?_ ?_
                          rotate_left
                          · intro w'
                            go_simp
                            with_reducible rfl
                          rotate_left
                          · simp only [Act.put, List.setIfInBounds_toArray, List.set_cons_zero, List.set_cons_succ, i64_w, i32_w]
                            rfl
                          refine pure_ (i := 7) (N := some 69) (v := ?_) (a' := ?_) #[true, false, true, false, false, true, false, true, false, false, false, false] rfl rfl (any_of HT_.out (by kernel_rfl)) (fun _ _ _ h => h) (Or.inl ⟨by rfl, ?_⟩) ?_ ?_
                          rotate_left
                          · intro w'
                            go_simp
                            with_reducible rfl
                          rotate_left
                          · simp only [Act.put, List.setIfInBounds_toArray, List.set_cons_zero, List.set_cons_succ, i64_w, i32_w]
                            rfl
                          refine take_ (i := 1) (N := some 63) (v := ?_) (a' := ?_) #[true, true, true, false, false, true, false, true, false, false, false, false] rfl rfl (take_ofW HT_.out HW_.out (by kernel_rfl)) (fun _ _ _ h => h) (Or.inl ⟨by rfl, ?_⟩) hHeld ?_ ?_
                          rotate_left
                          · rintro w' ⟨s0, s1, s2, s3, s4, s5, s6, s7, s8, s9, s10, s11, s12, s13, s14, s15⟩
                            go_simp
                            with_reducible rfl
                          rotate_left
                          · simp only [Act.put, List.setIfInBounds_toArray, List.set_cons_zero, List.set_cons_succ, i64_w, i32_w]
                            rfl
                          refine pure_ (i := 3) (N := some 65) (v := ?_) (a' := ?_) #[true, true, true, true, false, true, false, true, false, false, false, false] rfl rfl (any_of HT_.out (by kernel_rfl)) (fun _ _ _ h => h) (Or.inl ⟨by rfl, ?_⟩) ?_ ?_
                          rotate_left
                          · intro w'
                            go_simp
                            with_reducible rfl
                          rotate_left
                          · simp only [Act.put, List.setIfInBounds_toArray, List.set_cons_zero, List.set_cons_succ, i64_w, i32_w]
                            rfl
                          refine take_ (i := 4) (N := some 66) (v := ?_) (a' := ?_) #[true, true, true, true, true, true, false, true, false, false, false, false] rfl rfl (take_ofW HT_.out HW_.out (by kernel_rfl)) (fun _ _ _ h => h) (Or.inl ⟨by rfl, ?_⟩) hHeld ?_ ?_
                          rotate_left
                          · rintro w' ⟨s0, s1, s2, s3, s4, s5, s6, s7, s8, s9, s10, s11, s12, s13, s14, s15⟩
                            go_simp
                            with_reducible rfl
                          rotate_left
                          · simp only [Act.put, List.setIfInBounds_toArray, List.set_cons_zero, List.set_cons_succ, i64_w, i32_w]
                            rfl
                          refine take_ (i := 6) (N := some 68) (v := ?_) (a' := ?_) #[true, true, true, true, true, true, true, true, false, false, false, false] rfl rfl (take_ofW HT_.out HW_.out (by kernel_rfl)) (fun _ _ _ h => h) (Or.inl ⟨by rfl, ?_⟩) hHeld ?_ ?_
                          rotate_left
                          · rintro w' ⟨s0, s1, s2, s3, s4, s5, s6, s7, s8, s9, s10, s11, s12, s13, s14, s15⟩
                            go_simp
                            with_reducible rfl
                          rotate_left
                          · simp only [Act.put, List.setIfInBounds_toArray, List.set_cons_zero, List.set_cons_succ, i64_w, i32_w]
                            rfl
                          refine pure_ (i := 8) (N := some 70) (v := ?_) (a' := ?_) #[true, true, true, true, true, true, true, true, true, false, false, false] rfl rfl (any_of HT_.out (by kernel_rfl)) (fun _ _ _ h => h) (Or.inl ⟨by rfl, ?_⟩) ?_ ?_
                          rotate_left
                          · intro w'
                            go_simp
                            with_reducible rfl
                          rotate_left
                          · simp only [Act.put, List.setIfInBounds_toArray, List.set_cons_zero, List.set_cons_succ, i64_w, i32_w]
                            rfl
                          refine take_ (i := 9) (N := some 71) (v := ?_) (a' := ?_) #[true, true, true, true, true, true, true, true, true, true, false, false] rfl rfl (take_ofW HT_.out HW_.out (by kernel_rfl)) (fun _ _ _ h => h) (Or.inl ⟨by rfl, ?_⟩) hHeld ?_ ?_
                          rotate_left
                          · rintro w' ⟨s0, s1, s2, s3, s4, s5, s6, s7, s8, s9, s10, s11, s12, s13, s14, s15⟩
                            go_simp
                            with_reducible rfl
                          rotate_left
                          · simp only [Act.put, List.setIfInBounds_toArray, List.set_cons_zero, List.set_cons_succ, i64_w, i32_w]
                            rfl
                          refine one_ (i := 10) (N := some 72) #[true, true, true, true, true, true, true, true, true, true, true, false] rfl rfl (one_of HT_.out (by kernel_rfl)) (by decide) (fun K hK => ?_)
                          refine goes_ Tryz.func17 (by kernel_rfl) rfl #[.agg #[.int .i64 ((rd_T25 l0_3 x6_3).f0), .string ((rd_T25 l0_3 x6_3).f1), .slice A105_2 ((rd_T25 l0_3 x6_3).f2).length c105_2, .slice A105_3 ((rd_T25 l0_3 x6_3).f3).length c105_3], .agg #[.int .i64 ((rd_T25 l1_3 x6_3).f0), .string ((rd_T25 l1_3 x6_3).f1), .slice A106_2 ((rd_T25 l1_3 x6_3).f2).length c106_2, .slice A106_3 ((rd_T25 l1_3 x6_3).f3).length c106_3]] (by rfl) rfl rfl (by (try simp only [List.map_toArray, List.map_cons, List.map_nil]); first | done | rfl | (simp only [List.length_drop, List.length_take]; rfl)) ?_
                          with_reducible refine (ih k3 (by have := HJ2.out; have := HK2.out; have := HK3.out; omega) ((rd_T25 l0_3 x6_3).f0) ((rd_T25 l0_3 x6_3).f1) _ _ ((rd_T25 l0_3 x6_3).f2) _ _ ((rd_T25 l0_3 x6_3).f3) ((rd_T25 l1_3 x6_3).f0) ((rd_T25 l1_3 x6_3).f1) _ _ ((rd_T25 l1_3 x6_3).f2) _ _ ((rd_T25 l1_3 x6_3).f3) true _ ?side1 ?side2 ?side3 ?side4 ?side5 ?side6 ?side7 ?side8 A37.out).mono ?_
                          (case side1 => repeat (first | exact (Kd.C_below HR105_2.out HB.out) | (with_reducible refine Kd.C_alloc ?_ _) | (with_reducible refine Kd.C_drewN ?_ _) | (with_reducible refine Kd.C_drew ?_)))
                          (case side2 => exact HC105_2.out)
                          (case side3 => repeat (first | exact (Kd.C_below HR105_3.out HB.out) | (with_reducible refine Kd.C_alloc ?_ _) | (with_reducible refine Kd.C_drewN ?_ _) | (with_reducible refine Kd.C_drew ?_)))
                          (case side4 => exact HC105_3.out)
                          (case side5 => repeat (first | exact (Kd.C_below HR106_2.out HB.out) | (with_reducible refine Kd.C_alloc ?_ _) | (with_reducible refine Kd.C_drewN ?_ _) | (with_reducible refine Kd.C_drew ?_)))
                          (case side6 => exact HC106_2.out)
                          (case side7 => repeat (first | exact (Kd.C_below HR106_3.out HB.out) | (with_reducible refine Kd.C_alloc ?_ _) | (with_reducible refine Kd.C_drewN ?_ _) | (with_reducible refine Kd.C_drew ?_)))
                          (case side8 => exact HC106_3.out)
                          rintro e w42 ⟨rfl, hb⟩
                          refine ⟨_, rfl, ?_⟩
                          have n0_ := Aside0.mk (blk_below (g := gb101) (o := .cells #[.int .i64 a0_0, .string a0_1, .slice A0_2 l0_2.length c0_2, .slice (some ad105) l0_3.length c0_3] 25 (0, 0)) (by (with_reducible repeat (first | refine blk_drewN ?_ _ | refine blk_drew ?_ | refine blk_alloc ?_ _)); exact BK101.out) hb)
                          have n1_ := Aside0.mk (blk_below (g := gb102) (o := .cells #[.int .i64 a1_0, .string a1_1, .slice A1_2 l1_2.length c1_2, .slice (some ad106) l1_3.length c1_3] 25 (0, 0)) (by (with_reducible repeat (first | refine blk_drewN ?_ _ | refine blk_drew ?_ | refine blk_alloc ?_ _)); exact BK102.out) hb)
                          have n2_ := Aside0.mk (below_step (by repeat (first | (with_reducible first | exact HB.out | apply below_alloc | apply pw_below_drewN | apply below_drew1 | refine below_set ?_ GE101.out | refine below_set ?_ GE102.out) | exact HB.out)) hb)
                          clear BK101
                          clear BK102
                          clear HB
                          have BK101 := n0_
                          have BK102 := n1_
                          have HB := n2_
                          clear n0_ n1_ n2_
                          (try clear hb)
                          (try clear hb2)
                          (try clear hk)
                          (try clear hi)
                          refine hK.out _ _ ⟨(blk_cell BK101.out 0).trans rfl, (blk_cell BK101.out 1).trans rfl, (blk_cell BK101.out 2).trans rfl, (blk_cell BK101.out 3).trans rfl, (blk_cell BK102.out 0).trans rfl, (blk_cell BK102.out 1).trans rfl, (blk_cell BK102.out 2).trans rfl, (blk_cell BK102.out 3).trans rfl, ((HB.out.cell (World.block_lt_of_cell? w _ hw105_0)).trans hw105_0), ((HB.out.cell (World.block_lt_of_cell? w _ hw105_1)).trans hw105_1), ((HB.out.cell (World.block_lt_of_cell? w _ hw105_2)).trans hw105_2), ((HB.out.cell (World.block_lt_of_cell? w _ hw105_3)).trans hw105_3), ((HB.out.cell (World.block_lt_of_cell? w _ hw106_0)).trans hw106_0), ((HB.out.cell (World.block_lt_of_cell? w _ hw106_1)).trans hw106_1), ((HB.out.cell (World.block_lt_of_cell? w _ hw106_2)).trans hw106_2), ((HB.out.cell (World.block_lt_of_cell? w _ hw106_3)).trans hw106_3)⟩ (fun hHeld => ?_)
                          clear hK K
                          refine norm_ (a' := ?_) ?_ ?_
                          rotate_left
                          · show Act.put _ (some 72) _ = _
                            simp only [Act.put, List.setIfInBounds_toArray, List.set_cons_zero, List.set_cons_succ, i64_w, i32_w]
                            rfl
                          refine pure_ (i := 11) (N := some 73) (v := ?_) (a' := ?_) #[true, true, true, true, true, true, true, true, true, true, true, true] rfl rfl (any_of HT_.out (by kernel_rfl)) (fun _ _ _ h => h) (Or.inl ⟨by rfl, ?_⟩) ?_ ?_
                          rotate_left
                          · intro w'
                            go_simp
                            with_reducible rfl
                          rotate_left
                          · simp only [Act.put, List.setIfInBounds_toArray, List.set_cons_zero, List.set_cons_succ, i64_w, i32_w]
                            rfl
                          refine done_ (done_of HT_.out (by kernel_rfl)) ?_
                          try go_wp2
                          go_roundg k3
                          case measure => have := HJ2.out; have := HK2.out; have := HK3.out; omega
                          case rel => exact ⟨(wrap64 (x6_3 + 1)), (by first | rfl | (simp; done) | (simp [*]; done)), H', ⟨by have := HJ2.out; have := HK2.out; have := HK3.out; omega⟩, ⟨by (with_reducible repeat (first | refine blk_drewN ?_ _ | refine blk_drew ?_ | refine blk_alloc ?_ _)); exact BK101.out⟩, ⟨by (with_reducible repeat (first | refine blk_drewN ?_ _ | refine blk_drew ?_ | refine blk_alloc ?_ _)); exact BK102.out⟩, ⟨by repeat (first | (with_reducible first | exact HB.out | apply below_alloc | apply pw_below_drewN | apply below_drew1 | refine below_set ?_ GE101.out | refine below_set ?_ GE102.out) | exact HB.out)⟩⟩
                        · replace c38 := Bool.eq_false_iff.mpr c38
                          subst c38
                          have H1 : (some false) = some r := by rw [if_neg (show ¬ (false = true) by decide)] at H; exact H
                          clear H
                          have H := H1
                          clear H1
                          obtain rfl := Option.some.inj H
                          have hnb43 := NB101_102.out
                          have hnc43 := NB102_101.out
                          have hcz44_0 : wr.cell? ⟨gb101, 0, none⟩ = some (.int .i64 a0_0) := (blk_cell BK101.out 0).trans rfl
                          have hcz44_1 : wr.cell? ⟨gb101, 1, none⟩ = some (.string a0_1) := (blk_cell BK101.out 1).trans rfl
                          have hcz44_2 : wr.cell? ⟨gb101, 2, none⟩ = some (.slice A0_2 l0_2.length c0_2) := (blk_cell BK101.out 2).trans rfl
                          have hcz44_3 : wr.cell? ⟨gb101, 3, none⟩ = some (.slice A0_3 l0_3.length c0_3) := (blk_cell BK101.out 3).trans rfl
                          have hfz44_0 := blk_frozen BK101.out 0
                          have hfz44_1 := blk_frozen BK101.out 1
                          have hfz44_2 := blk_frozen BK101.out 2
                          have hfz44_3 := blk_frozen BK101.out 3
                          try go_wp2
                          have n0_ := Aside0.mk (blk_drew BK101.out)
                          have n1_ := Aside0.mk (blk_drew BK102.out)
                          have n2_ := Aside0.mk (below_drew1 HB.out)
                          clear BK101
                          clear BK102
                          clear HB
                          have BK101 := n0_
                          have BK102 := n1_
                          have HB := n2_
                          clear n0_ n1_ n2_
                          have p105 : 0 ≤ (x6_3 : Int) := of_decide_eq_true (by first | (with_reducible assumption) | assumption)
                          have q105 : x6_3 < (l0_3.length : Int) := of_decide_eq_true (by first | (with_reducible assumption) | assumption)
                          obtain ⟨ad105, A105_2, c105_2, A105_3, c105_3, e105, hx105_0, hx105_1, hx105_2, hx105_3, hl105_2, hi105_2, hl105_3, hi105_3⟩ := at_T25 HR0_3.out x6_3 p105 q105
                          have hw105_3 := hx105_3
                          have hw105_2 := hx105_2
                          have hw105_1 := hx105_1
                          have hw105_0 := hx105_0
                          cases e105
                          replace hx105_0 := (HB.out.cell (World.block_lt_of_cell? w _ hx105_0)).trans hx105_0
                          replace hx105_1 := (HB.out.cell (World.block_lt_of_cell? w _ hx105_1)).trans hx105_1
                          replace hx105_2 := (HB.out.cell (World.block_lt_of_cell? w _ hx105_2)).trans hx105_2
                          replace hx105_3 := (HB.out.cell (World.block_lt_of_cell? w _ hx105_3)).trans hx105_3
                          have HR105_2 := Aside0.mk hi105_2
                          have HC105_2 := Aside0.mk hl105_2
                          clear hi105_2 hl105_2
                          have HR105_3 := Aside0.mk hi105_3
                          have HC105_3 := Aside0.mk hl105_3
                          clear hi105_3 hl105_3
                          replace p105 := eq_true p105
                          replace q105 := eq_true q105
                          have p106 : 0 ≤ (x6_3 : Int) := of_decide_eq_true (by first | (with_reducible assumption) | assumption)
                          have q106 : x6_3 < (l1_3.length : Int) := of_decide_eq_true (by first | (with_reducible assumption) | assumption)
                          obtain ⟨ad106, A106_2, c106_2, A106_3, c106_3, e106, hx106_0, hx106_1, hx106_2, hx106_3, hl106_2, hi106_2, hl106_3, hi106_3⟩ := at_T25 HR1_3.out x6_3 p106 q106
                          have hw106_3 := hx106_3
                          have hw106_2 := hx106_2
                          have hw106_1 := hx106_1
                          have hw106_0 := hx106_0
                          cases e106
                          replace hx106_0 := (HB.out.cell (World.block_lt_of_cell? w _ hx106_0)).trans hx106_0
                          replace hx106_1 := (HB.out.cell (World.block_lt_of_cell? w _ hx106_1)).trans hx106_1
                          replace hx106_2 := (HB.out.cell (World.block_lt_of_cell? w _ hx106_2)).trans hx106_2
                          replace hx106_3 := (HB.out.cell (World.block_lt_of_cell? w _ hx106_3)).trans hx106_3
                          have HR106_2 := Aside0.mk hi106_2
                          have HC106_2 := Aside0.mk hl106_2
                          clear hi106_2 hl106_2
                          have HR106_3 := Aside0.mk hi106_3
                          have HC106_3 := Aside0.mk hl106_3
                          clear hi106_3 hl106_3
                          replace p106 := eq_true p106
                          replace q106 := eq_true q106
                          refine start_ (n := 12) (S := fun w' => w'.cell? ⟨gb101, 0, none⟩ = some (.int .i64 a0_0) ∧ w'.cell? ⟨gb101, 1, none⟩ = some (.string a0_1) ∧ w'.cell? ⟨gb101, 2, none⟩ = some (.slice A0_2 l0_2.length c0_2) ∧ w'.cell? ⟨gb101, 3, none⟩ = some (.slice (some ad105) l0_3.length c0_3) ∧ w'.cell? ⟨gb102, 0, none⟩ = some (.int .i64 a1_0) ∧ w'.cell? ⟨gb102, 1, none⟩ = some (.string a1_1) ∧ w'.cell? ⟨gb102, 2, none⟩ = some (.slice A1_2 l1_2.length c1_2) ∧ w'.cell? ⟨gb102, 3, none⟩ = some (.slice (some ad106) l1_3.length c1_3) ∧ w'.cell? (ad105.add ((x6_3).toNat * 4)) = some (.int .i64 ((rd_T25 l0_3 x6_3).f0)) ∧ w'.cell? ⟨(ad105.add ((x6_3).toNat * 4)).block, (ad105.add ((x6_3).toNat * 4)).off + 1, none⟩ = some (.string ((rd_T25 l0_3 x6_3).f1)) ∧ w'.cell? ⟨(ad105.add ((x6_3).toNat * 4)).block, (ad105.add ((x6_3).toNat * 4)).off + 2, none⟩ = some (.slice A105_2 ((rd_T25 l0_3 x6_3).f2).length c105_2) ∧ w'.cell? ⟨(ad105.add ((x6_3).toNat * 4)).block, (ad105.add ((x6_3).toNat * 4)).off + 3, none⟩ = some (.slice A105_3 ((rd_T25 l0_3 x6_3).f3).length c105_3) ∧ w'.cell? (ad106.add ((x6_3).toNat * 4)) = some (.int .i64 ((rd_T25 l1_3 x6_3).f0)) ∧ w'.cell? ⟨(ad106.add ((x6_3).toNat * 4)).block, (ad106.add ((x6_3).toNat * 4)).off + 1, none⟩ = some (.string ((rd_T25 l1_3 x6_3).f1)) ∧ w'.cell? ⟨(ad106.add ((x6_3).toNat * 4)).block, (ad106.add ((x6_3).toNat * 4)).off + 2, none⟩ = some (.slice A106_2 ((rd_T25 l1_3 x6_3).f2).length c106_2) ∧ w'.cell? ⟨(ad106.add ((x6_3).toNat * 4)).block, (ad106.add ((x6_3).toNat * 4)).off + 3, none⟩ = some (.slice A106_3 ((rd_T25 l1_3 x6_3).f3).length c106_3)) (ds := []) #[false, false, false, false, false, false, false, false, false, false, false, false] (by kernel_rfl) rfl rfl ⟨(blk_cell BK101.out 0).trans rfl, (blk_cell BK101.out 1).trans rfl, (blk_cell BK101.out 2).trans rfl, (blk_cell BK101.out 3).trans rfl, (blk_cell BK102.out 0).trans rfl, (blk_cell BK102.out 1).trans rfl, (blk_cell BK102.out 2).trans rfl, (blk_cell BK102.out 3).trans rfl, ((HB.out.cell (World.block_lt_of_cell? w _ hw105_0)).trans hw105_0), ((HB.out.cell (World.block_lt_of_cell? w _ hw105_1)).trans hw105_1), ((HB.out.cell (World.block_lt_of_cell? w _ hw105_2)).trans hw105_2), ((HB.out.cell (World.block_lt_of_cell? w _ hw105_3)).trans hw105_3), ((HB.out.cell (World.block_lt_of_cell? w _ hw106_0)).trans hw106_0), ((HB.out.cell (World.block_lt_of_cell? w _ hw106_1)).trans hw106_1), ((HB.out.cell (World.block_lt_of_cell? w _ hw106_2)).trans hw106_2), ((HB.out.cell (World.block_lt_of_cell? w _ hw106_3)).trans hw106_3)⟩ (fun hHeld => ?_); refine with_tabW spec_Same.tab11 spec_Same.bits11 (fun HT_ HW_ => ?_)
                          generalize wr.drew = w45 at BK101 BK102 HB HR105_2 HR105_3 HR106_2 HR106_3 hx105_0 hx105_1 hx105_2 hx105_3 hx106_0 hx106_1 hx106_2 hx106_3 hHeld ⊢
                          refine pure_ (i := 0) (N := some 62) (v := ?_) (a' := ?_) #[true, false, false, false, false, false, false, false, false, false, false, false] rfl rfl (any_of HT_.out (by kernel_rfl)) (fun _ _ _ h => h) (Or.inl ⟨by rfl, ?_⟩) ?_ ?_
                          rotate_left
                          · intro w'
                            go_simp
                            with_reducible rfl
                          rotate_left
                          · simp only [Act.put, List.setIfInBounds_toArray, List.set_cons_zero, List.set_cons_succ, i64_w, i32_w]
                            rfl
                          refine pure_ (i := 2) (N := some 64) (v := ?_) (a' := ?_) #[true, false, true, false, false, false, false, false, false, false, false, false] rfl rfl (any_of HT_.out (by kernel_rfl)) (fun _ _ _ h => h) (Or.inl ⟨by rfl, ?_⟩) ?_ ?_
                          rotate_left
                          · intro w'
                            go_simp
                            with_reducible rfl
                          rotate_left
                          · simp only [Act.put, List.setIfInBounds_toArray, List.set_cons_zero, List.set_cons_succ, i64_w, i32_w]
                            rfl
                          refine pure_ (i := 5) (N := some 67) (v := ?_) (a' := ?_) #[true, false, true, false, false, true, false, false, false, false, false, false] rfl rfl (any_of HT_.out (by kernel_rfl)) (fun _ _ _ h => h) (Or.inl ⟨by rfl, ?_⟩) ?_ ?_
                          rotate_left
                          · intro w'
                            go_simp
                            with_reducible rfl
                          rotate_left
                          · simp only [Act.put, List.setIfInBounds_toArray, List.set_cons_zero, List.set_cons_succ, i64_w, i32_w]
                            rfl
                          refine pure_ (i := 7) (N := some 69) (v := ?_) (a' := ?_) #[true, false, true, false, false, true, false, true, false, false, false, false] rfl rfl (any_of HT_.out (by kernel_rfl)) (fun _ _ _ h => h) (Or.inl ⟨by rfl, ?_⟩) ?_ ?_
                          rotate_left
                          · intro w'
                            go_simp
                            with_reducible rfl
                          rotate_left
                          · simp only [Act.put, List.setIfInBounds_toArray, List.set_cons_zero, List.set_cons_succ, i64_w, i32_w]
                            rfl
                          refine take_ (i := 1) (N := some 63) (v := ?_) (a' := ?_) #[true, true, true, false, false, true, false, true, false, false, false, false] rfl rfl (take_ofW HT_.out HW_.out (by kernel_rfl)) (fun _ _ _ h => h) (Or.inl ⟨by rfl, ?_⟩) hHeld ?_ ?_
                          rotate_left
                          · rintro w' ⟨s0, s1, s2, s3, s4, s5, s6, s7, s8, s9, s10, s11, s12, s13, s14, s15⟩
                            go_simp
                            with_reducible rfl
                          rotate_left
                          · simp only [Act.put, List.setIfInBounds_toArray, List.set_cons_zero, List.set_cons_succ, i64_w, i32_w]
                            rfl
                          refine pure_ (i := 3) (N := some 65) (v := ?_) (a' := ?_) #[true, true, true, true, false, true, false, true, false, false, false, false] rfl rfl (any_of HT_.out (by kernel_rfl)) (fun _ _ _ h => h) (Or.inl ⟨by rfl, ?_⟩) ?_ ?_
                          rotate_left
                          · intro w'
                            go_simp
                            with_reducible rfl
                          rotate_left
                          · simp only [Act.put, List.setIfInBounds_toArray, List.set_cons_zero, List.set_cons_succ, i64_w, i32_w]
                            rfl
                          refine take_ (i := 4) (N := some 66) (v := ?_) (a' := ?_) #[true, true, true, true, true, true, false, true, false, false, false, false] rfl rfl (take_ofW HT_.out HW_.out (by kernel_rfl)) (fun _ _ _ h => h) (Or.inl ⟨by rfl, ?_⟩) hHeld ?_ ?_
                          rotate_left
                          · rintro w' ⟨s0, s1, s2, s3, s4, s5, s6, s7, s8, s9, s10, s11, s12, s13, s14, s15⟩
                            go_simp
                            with_reducible rfl
                          rotate_left
                          · simp only [Act.put, List.setIfInBounds_toArray, List.set_cons_zero, List.set_cons_succ, i64_w, i32_w]
                            rfl
                          refine take_ (i := 6) (N := some 68) (v := ?_) (a' := ?_) #[true, true, true, true, true, true, true, true, false, false, false, false] rfl rfl (take_ofW HT_.out HW_.out (by kernel_rfl)) (fun _ _ _ h => h) (Or.inl ⟨by rfl, ?_⟩) hHeld ?_ ?_
                          rotate_left
                          · rintro w' ⟨s0, s1, s2, s3, s4, s5, s6, s7, s8, s9, s10, s11, s12, s13, s14, s15⟩
                            go_simp
                            with_reducible rfl
                          rotate_left
                          · simp only [Act.put, List.setIfInBounds_toArray, List.set_cons_zero, List.set_cons_succ, i64_w, i32_w]
                            rfl
                          refine pure_ (i := 8) (N := some 70) (v := ?_) (a' := ?_) #[true, true, true, true, true, true, true, true, true, false, false, false] rfl rfl (any_of HT_.out (by kernel_rfl)) (fun _ _ _ h => h) (Or.inl ⟨by rfl, ?_⟩) ?_ ?_
                          rotate_left
                          · intro w'
                            go_simp
                            with_reducible rfl
                          rotate_left
                          · simp only [Act.put, List.setIfInBounds_toArray, List.set_cons_zero, List.set_cons_succ, i64_w, i32_w]
                            rfl
                          refine take_ (i := 9) (N := some 71) (v := ?_) (a' := ?_) #[true, true, true, true, true, true, true, true, true, true, false, false] rfl rfl (take_ofW HT_.out HW_.out (by kernel_rfl)) (fun _ _ _ h => h) (Or.inl ⟨by rfl, ?_⟩) hHeld ?_ ?_
                          rotate_left
                          · rintro w' ⟨s0, s1, s2, s3, s4, s5, s6, s7, s8, s9, s10, s11, s12, s13, s14, s15⟩
                            go_simp
                            with_reducible rfl
                          rotate_left
                          · simp only [Act.put, List.setIfInBounds_toArray, List.set_cons_zero, List.set_cons_succ, i64_w, i32_w]
                            rfl
                          refine one_ (i := 10) (N := some 72) #[true, true, true, true, true, true, true, true, true, true, true, false] rfl rfl (one_of HT_.out (by kernel_rfl)) (by decide) (fun K hK => ?_)
                          refine goes_ Tryz.func17 (by kernel_rfl) rfl #[.agg #[.int .i64 ((rd_T25 l0_3 x6_3).f0), .string ((rd_T25 l0_3 x6_3).f1), .slice A105_2 ((rd_T25 l0_3 x6_3).f2).length c105_2, .slice A105_3 ((rd_T25 l0_3 x6_3).f3).length c105_3], .agg #[.int .i64 ((rd_T25 l1_3 x6_3).f0), .string ((rd_T25 l1_3 x6_3).f1), .slice A106_2 ((rd_T25 l1_3 x6_3).f2).length c106_2, .slice A106_3 ((rd_T25 l1_3 x6_3).f3).length c106_3]] (by rfl) rfl rfl (by (try simp only [List.map_toArray, List.map_cons, List.map_nil]); first | done | rfl | (simp only [List.length_drop, List.length_take]; rfl)) ?_
                          with_reducible refine (ih k3 (by have := HJ2.out; have := HK2.out; have := HK3.out; omega) ((rd_T25 l0_3 x6_3).f0) ((rd_T25 l0_3 x6_3).f1) _ _ ((rd_T25 l0_3 x6_3).f2) _ _ ((rd_T25 l0_3 x6_3).f3) ((rd_T25 l1_3 x6_3).f0) ((rd_T25 l1_3 x6_3).f1) _ _ ((rd_T25 l1_3 x6_3).f2) _ _ ((rd_T25 l1_3 x6_3).f3) false _ ?side1 ?side2 ?side3 ?side4 ?side5 ?side6 ?side7 ?side8 A37.out).mono ?_
                          (case side1 => repeat (first | exact (Kd.C_below HR105_2.out HB.out) | (with_reducible refine Kd.C_alloc ?_ _) | (with_reducible refine Kd.C_drewN ?_ _) | (with_reducible refine Kd.C_drew ?_)))
                          (case side2 => exact HC105_2.out)
                          (case side3 => repeat (first | exact (Kd.C_below HR105_3.out HB.out) | (with_reducible refine Kd.C_alloc ?_ _) | (with_reducible refine Kd.C_drewN ?_ _) | (with_reducible refine Kd.C_drew ?_)))
                          (case side4 => exact HC105_3.out)
                          (case side5 => repeat (first | exact (Kd.C_below HR106_2.out HB.out) | (with_reducible refine Kd.C_alloc ?_ _) | (with_reducible refine Kd.C_drewN ?_ _) | (with_reducible refine Kd.C_drew ?_)))
                          (case side6 => exact HC106_2.out)
                          (case side7 => repeat (first | exact (Kd.C_below HR106_3.out HB.out) | (with_reducible refine Kd.C_alloc ?_ _) | (with_reducible refine Kd.C_drewN ?_ _) | (with_reducible refine Kd.C_drew ?_)))
                          (case side8 => exact HC106_3.out)
                          rintro e w46 ⟨rfl, hb⟩
                          refine ⟨_, rfl, ?_⟩
                          have n0_ := Aside0.mk (blk_below (g := gb101) (o := .cells #[.int .i64 a0_0, .string a0_1, .slice A0_2 l0_2.length c0_2, .slice (some ad105) l0_3.length c0_3] 25 (0, 0)) (by (with_reducible repeat (first | refine blk_drewN ?_ _ | refine blk_drew ?_ | refine blk_alloc ?_ _)); exact BK101.out) hb)
                          have n1_ := Aside0.mk (blk_below (g := gb102) (o := .cells #[.int .i64 a1_0, .string a1_1, .slice A1_2 l1_2.length c1_2, .slice (some ad106) l1_3.length c1_3] 25 (0, 0)) (by (with_reducible repeat (first | refine blk_drewN ?_ _ | refine blk_drew ?_ | refine blk_alloc ?_ _)); exact BK102.out) hb)
                          have n2_ := Aside0.mk (below_step (by repeat (first | (with_reducible first | exact HB.out | apply below_alloc | apply pw_below_drewN | apply below_drew1 | refine below_set ?_ GE101.out | refine below_set ?_ GE102.out) | exact HB.out)) hb)
                          clear BK101
                          clear BK102
                          clear HB
                          have BK101 := n0_
                          have BK102 := n1_
                          have HB := n2_
                          clear n0_ n1_ n2_
                          (try clear hb)
                          (try clear hb2)
                          (try clear hk)
                          (try clear hi)
                          refine hK.out _ _ ⟨(blk_cell BK101.out 0).trans rfl, (blk_cell BK101.out 1).trans rfl, (blk_cell BK101.out 2).trans rfl, (blk_cell BK101.out 3).trans rfl, (blk_cell BK102.out 0).trans rfl, (blk_cell BK102.out 1).trans rfl, (blk_cell BK102.out 2).trans rfl, (blk_cell BK102.out 3).trans rfl, ((HB.out.cell (World.block_lt_of_cell? w _ hw105_0)).trans hw105_0), ((HB.out.cell (World.block_lt_of_cell? w _ hw105_1)).trans hw105_1), ((HB.out.cell (World.block_lt_of_cell? w _ hw105_2)).trans hw105_2), ((HB.out.cell (World.block_lt_of_cell? w _ hw105_3)).trans hw105_3), ((HB.out.cell (World.block_lt_of_cell? w _ hw106_0)).trans hw106_0), ((HB.out.cell (World.block_lt_of_cell? w _ hw106_1)).trans hw106_1), ((HB.out.cell (World.block_lt_of_cell? w _ hw106_2)).trans hw106_2), ((HB.out.cell (World.block_lt_of_cell? w _ hw106_3)).trans hw106_3)⟩ (fun hHeld => ?_)
                          clear hK K
                          refine norm_ (a' := ?_) ?_ ?_
                          rotate_left
                          · show Act.put _ (some 72) _ = _
                            simp only [Act.put, List.setIfInBounds_toArray, List.set_cons_zero, List.set_cons_succ, i64_w, i32_w]
                            rfl
                          refine pure_ (i := 11) (N := some 73) (v := ?_) (a' := ?_) #[true, true, true, true, true, true, true, true, true, true, true, true] rfl rfl (any_of HT_.out (by kernel_rfl)) (fun _ _ _ h => h) (Or.inl ⟨by rfl, ?_⟩) ?_ ?_
                          rotate_left
                          · intro w'
                            go_simp
                            with_reducible rfl
                          rotate_left
                          · simp only [Act.put, List.setIfInBounds_toArray, List.set_cons_zero, List.set_cons_succ, i64_w, i32_w]
                            rfl
                          refine done_ (done_of HT_.out (by kernel_rfl)) ?_
                          try go_wp2
                          go_ret
                          exact ⟨by first | rfl | (simp [errW_none, errW_some] <;> rfl) | (simp [*, errW_none, errW_some] <;> rfl), by repeat (first | (with_reducible first | exact HB.out | apply below_alloc | apply pw_below_drewN | apply below_drew1 | refine below_set ?_ GE101.out | refine below_set ?_ GE102.out) | exact HB.out)⟩
                      · rw [if_neg c36] at H
                        exact absurd H (by simp)
                    · rw [if_neg c35] at H
                      exact absurd H (by simp)
                  · rw [if_neg c34] at H
                    have c34b0 : decide (x6_3 < (l0_3.length : Int)) = false := decide_eq_false c34
                    clear c34
                    obtain rfl := Option.some.inj H
                    have hnb47 := NB101_102.out
                    have hnc47 := NB102_101.out
                    have hcz48_0 : wr.cell? ⟨gb101, 0, none⟩ = some (.int .i64 a0_0) := (blk_cell BK101.out 0).trans rfl
                    have hcz48_1 : wr.cell? ⟨gb101, 1, none⟩ = some (.string a0_1) := (blk_cell BK101.out 1).trans rfl
                    have hcz48_2 : wr.cell? ⟨gb101, 2, none⟩ = some (.slice A0_2 l0_2.length c0_2) := (blk_cell BK101.out 2).trans rfl
                    have hcz48_3 : wr.cell? ⟨gb101, 3, none⟩ = some (.slice A0_3 l0_3.length c0_3) := (blk_cell BK101.out 3).trans rfl
                    have hfz48_0 := blk_frozen BK101.out 0
                    have hfz48_1 := blk_frozen BK101.out 1
                    have hfz48_2 := blk_frozen BK101.out 2
                    have hfz48_3 := blk_frozen BK101.out 3
                    go_wp2
                    go_ret
                    exact ⟨by first | rfl | (simp [errW_none, errW_some] <;> rfl) | (simp [*, errW_none, errW_some] <;> rfl), by repeat (first | (with_reducible first | exact HB.out | apply below_alloc | apply pw_below_drewN | apply below_drew1 | refine below_set ?_ GE101.out | refine below_set ?_ GE102.out) | exact HB.out)⟩

end Go.Proofs.YtcaigeikdnoheaaGreatDoor.PFnFjStructure
