-- PRINTED BY print.sh 35421559b90ae4d0a3588c463048766b98c2df88dd9212a6774a882060cdf62d: not written by this session
import Derived.Test.YtbnogfljakmfgaaPFnPrUglyx0
import Derived.Test.YtbnogfljakmfgaaPFnPrUglyx1
namespace Go.Proofs.Ytbnogfljakmfgaa.PFnPrUgly
open Go.RowKit Go.Proofs.YtbnogfljakmfgaaW.PrintWords Go.Proofs.YtbnogfljakmfgaaW.PrintLast Go.Proofs.YtbnogfljakmfgaaW.PrintMore
attribute [local go_sem] max2_int min2_int max_two min_two max_three min_three max_four min_four   -- for this text's walks alone
set_option linter.unusedVariables false
set_option linter.unusedSimpArgs false

/-! ### spec_reader_word: function 38 -/
def spec_reader_word.f (s0_0 : ByteArray) (s0_1 : Int) (a1 : ByteArray) : Option (Bool × ByteArray × Int) := if (wrap64 ((s0_0.size : Int) - s0_1)) < (a1.size : Int) then (some (false, s0_0, s0_1)) else (if 0 ≤ s0_1 then (if s0_1 ≤ (wrap64 (s0_1 + (a1.size : Int))) then (if (wrap64 (s0_1 + (a1.size : Int))) ≤ (s0_0.size : Int) then (if (s0_0.extract (s0_1 : Int).toNat ((wrap64 (s0_1 + (a1.size : Int))) : Int).toNat).toList = a1.toList then (some (true, s0_0, wrap64 (s0_1 + (a1.size : Int)))) else (some (false, s0_0, s0_1))) else (none)) else (none)) else (none))
set_option maxHeartbeats 8000000 in
set_option maxRecDepth 100000 in
theorem spec_reader_word.calls (g : Nat) (s0_0 : ByteArray) (s0_1 : Int) (a1 : ByteArray) (r1 : Bool) (r2 : ByteArray) (r3 : Int) (w0 w : World) (hI : IsS51 w0 w g s0_0 s0_1) (hB : Below w0.heap.size w0 w) (h : spec_reader_word.f s0_0 s0_1 a1 = some (r1, r2, r3)) :
    Calls Try.prog 38 #[.pointer (some ⟨g, 0, none⟩), .string a1] w fun e w' => e = .returned (.bool r1) ∧ IsS51 w0 w' g r2 r3 ∧ Below w0.heap.size w0 w' ∧ KeepBut w w' g none := by
  have HI0 := Aside0.mk hI
  have HK := Aside0.mk (KeepBut.refl w g none)
  have HL := Aside0.mk hB.size
  clear hI
  have HW0 := Aside0.mk hB.size
  have HB := Aside0.mk hB
  clear hB
  have H : (if (wrap64 ((s0_0.size : Int) - s0_1)) < (a1.size : Int) then (some (false, s0_0, s0_1)) else (if 0 ≤ s0_1 then (if s0_1 ≤ (wrap64 (s0_1 + (a1.size : Int))) then (if (wrap64 (s0_1 + (a1.size : Int))) ≤ (s0_0.size : Int) then (if (s0_0.extract (s0_1 : Int).toNat ((wrap64 (s0_1 + (a1.size : Int))) : Int).toNat).toList = a1.toList then (some (true, s0_0, wrap64 (s0_1 + (a1.size : Int)))) else (some (false, s0_0, s0_1))) else (none)) else (none)) else (none))) = some (r1, r2, r3) := h
  clear h
  by_cases c3 : (wrap64 ((s0_0.size : Int) - s0_1)) < (a1.size : Int)
  · rw [if_pos c3] at H
    have c3b0 : decide ((wrap64 ((s0_0.size : Int) - s0_1)) < (a1.size : Int)) = true := decide_eq_true c3
    clear c3
    simp only [Option.some.injEq, Prod.mk.injEq] at H
    obtain ⟨rfl, rfl, rfl⟩ := H
    obtain ⟨HGz4, hgz4⟩ := HI0.out
    have hcz4_0 := cellS51_0 HGz4
    have hcz4_1 := cellS51_1 HGz4
    have hfz4_0 := blk_frozen HGz4 0
    have hfz4_1 := blk_frozen HGz4 1
    clear HGz4 hgz4
    go_enter Try.func38, Try.ntmps38
    go_wp2
    repeat (go_quiet (fail); try go_wp2)
    go_ret
    exact ⟨by first | rfl | (simp [errW_none, errW_some] <;> rfl) | (simp [*, errW_none, errW_some] <;> rfl), by repeat (first | (with_reducible first | exact HI0.out | apply IsS51.alloc | apply IsS51.drewN | apply IsS51.drew | apply IsS51.set_0 | apply IsS51.set_1) | exact HI0.out), by repeat (first | (with_reducible first | exact HB.out | apply below_alloc | apply pw_below_drewN | apply below_drew1 | refine below_set ?_ (IsS51.ge HI0.out)) | exact HB.out), by repeat (first | (with_reducible first | exact HK.out | apply KeepBut.set_ | apply keep_drewN | apply keep_drew | apply keep_alloc) | exact HK.out)⟩
  · rw [if_neg c3] at H
    have c3b0 : decide ((wrap64 ((s0_0.size : Int) - s0_1)) < (a1.size : Int)) = false := decide_eq_false c3
    clear c3
    by_cases c5 : 0 ≤ s0_1
    · rw [if_pos c5] at H
      have c5b0 := eq_true c5
      have c5b1 : decide (0 ≤ s0_1) = true := decide_eq_true c5
      clear c5
      by_cases c6 : s0_1 ≤ (wrap64 (s0_1 + (a1.size : Int)))
      · rw [if_pos c6] at H
        have c6b0 := eq_true c6
        have c6b1 : decide (s0_1 ≤ (wrap64 (s0_1 + (a1.size : Int)))) = true := decide_eq_true c6
        by_cases c7 : (wrap64 (s0_1 + (a1.size : Int))) ≤ (s0_0.size : Int)
        · rw [if_pos c7] at H
          have c7b0 := eq_true c7
          have c7b1 : decide ((wrap64 (s0_1 + (a1.size : Int))) ≤ (s0_0.size : Int)) = true := decide_eq_true c7
          by_cases c8 : (s0_0.extract (s0_1 : Int).toNat ((wrap64 (s0_1 + (a1.size : Int))) : Int).toNat).toList = a1.toList
          · rw [if_pos c8] at H
            have c8b0 : ((s0_0.extract (s0_1 : Int).toNat ((wrap64 (s0_1 + (a1.size : Int))) : Int).toNat).toList == a1.toList) = true := beq_iff_eq.mpr c8
            have c8b1 : ((s0_0.extract (s0_1 : Int).toNat ((wrap64 (s0_1 + (a1.size : Int))) : Int).toNat).toList != a1.toList) = false := bne_eq_false_iff_eq.mpr c8
            clear c8
            simp only [Option.some.injEq, Prod.mk.injEq] at H
            obtain ⟨rfl, rfl, rfl⟩ := H
            obtain ⟨HGz9, hgz9⟩ := HI0.out
            have hcz9_0 := cellS51_0 HGz9
            have hcz9_1 := cellS51_1 HGz9
            have hfz9_0 := blk_frozen HGz9 0
            have hfz9_1 := blk_frozen HGz9 1
            clear HGz9 hgz9
            go_enter Try.func38, Try.ntmps38
            go_wp2
            repeat (go_quiet (fail); try go_wp2)
            go_ret
            exact ⟨by first | rfl | (simp [errW_none, errW_some] <;> rfl) | (simp [*, errW_none, errW_some] <;> rfl), by repeat (first | (with_reducible first | exact HI0.out | apply IsS51.alloc | apply IsS51.drewN | apply IsS51.drew | apply IsS51.set_0 | apply IsS51.set_1) | exact HI0.out), by repeat (first | (with_reducible first | exact HB.out | apply below_alloc | apply pw_below_drewN | apply below_drew1 | refine below_set ?_ (IsS51.ge HI0.out)) | exact HB.out), by repeat (first | (with_reducible first | exact HK.out | apply KeepBut.set_ | apply keep_drewN | apply keep_drew | apply keep_alloc) | exact HK.out)⟩
          · rw [if_neg c8] at H
            have c8b0 : ((s0_0.extract (s0_1 : Int).toNat ((wrap64 (s0_1 + (a1.size : Int))) : Int).toNat).toList == a1.toList) = false := beq_eq_false_iff_ne.mpr c8
            have c8b1 : ((s0_0.extract (s0_1 : Int).toNat ((wrap64 (s0_1 + (a1.size : Int))) : Int).toNat).toList != a1.toList) = true := bne_iff_ne.mpr c8
            simp only [Option.some.injEq, Prod.mk.injEq] at H
            obtain ⟨rfl, rfl, rfl⟩ := H
            obtain ⟨HGz10, hgz10⟩ := HI0.out
            have hcz10_0 := cellS51_0 HGz10
            have hcz10_1 := cellS51_1 HGz10
            have hfz10_0 := blk_frozen HGz10 0
            have hfz10_1 := blk_frozen HGz10 1
            clear HGz10 hgz10
            go_enter Try.func38, Try.ntmps38
            go_wp2
            repeat (go_quiet (fail); try go_wp2)
            go_ret
            exact ⟨by first | rfl | (simp [errW_none, errW_some] <;> rfl) | (simp [*, errW_none, errW_some] <;> rfl), by repeat (first | (with_reducible first | exact HI0.out | apply IsS51.alloc | apply IsS51.drewN | apply IsS51.drew | apply IsS51.set_0 | apply IsS51.set_1) | exact HI0.out), by repeat (first | (with_reducible first | exact HB.out | apply below_alloc | apply pw_below_drewN | apply below_drew1 | refine below_set ?_ (IsS51.ge HI0.out)) | exact HB.out), by repeat (first | (with_reducible first | exact HK.out | apply KeepBut.set_ | apply keep_drewN | apply keep_drew | apply keep_alloc) | exact HK.out)⟩
        · rw [if_neg c7] at H
          exact absurd H (by simp)
      · rw [if_neg c6] at H
        exact absurd H (by simp)
    · rw [if_neg c5] at H
      exact absurd H (by simp)

-- NOT PRINTED: function 28 (spec_reader_value)

-- NOT PRINTED: function 19 (spec_Places)

-- NOT PRINTED: function 11 (laws_prPlaces)

/-! ### pretty_ugly: function 29 -/
mutual
def pretty_ugly.l0 : Nat → List Int → List Int → Int → Option (List Int)
  | 0, _, _, _ => none
  | k + 1, x0, x1, x5 => if x5 < (x1.length : Int) then (if 0 ≤ x5 then (if (rd x1 x5) > 32 then (if x0.length < 140737488355328 then ((some (x0 ++ [rd x1 x5] : List Int)).bind fun y193 => (if (rd x1 x5) = 34 then (pretty_ugly.l1 k y193 x1 (wrap64 (x5 + 1))) else (pretty_ugly.l0 k y193 x1 (wrap64 (x5 + 1))))) else (none)) else (pretty_ugly.l0 k x0 x1 (wrap64 (x5 + 1)))) else (none)) else (some x0)
def pretty_ugly.l1 : Nat → List Int → List Int → Int → Option (List Int)
  | 0, _, _, _ => none
  | k + 1, x0, x1, x5 => if x5 < (x1.length : Int) then (if 0 ≤ x5 then (if x0.length < 140737488355328 then ((some (x0 ++ [rd x1 x5] : List Int)).bind fun y198 => (if (rd x1 x5) = 34 then (pretty_ugly.l2 k y198 x1 x5 (wrap64 ((y198.length : Int) - 2))) else (pretty_ugly.l1 k y198 x1 (wrap64 (x5 + 1))))) else (none)) else (none)) else (pretty_ugly.l0 k x0 x1 (wrap64 (x5 + 1)))
def pretty_ugly.l2 : Nat → List Int → List Int → Int → Int → Option (List Int)
  | 0, _, _, _, _ => none
  | k + 1, x0, x1, x5, x6 => if 0 ≤ x6 then (if x6 < (x0.length : Int) then (if (rd x0 x6) = 92 then (pretty_ugly.l2 k x0 x1 x5 (wrap64 (x6 - 1))) else (if (Int.tmod (wrap64 (x6 - (wrap64 ((x0.length : Int) - 1)))) 2) = 0 then (pretty_ugly.l1 k x0 x1 (wrap64 (x5 + 1))) else (pretty_ugly.l0 k x0 x1 (wrap64 (x5 + 1))))) else (none)) else (none)
end
def pretty_ugly.f (k : Nat) (l0 : List Int) (l1 : List Int) : Option (List Int) := if 0 ≤ (l0.length : Int) then (pretty_ugly.l0 k (l0.take (0 : Int).toNat) l1 0) else (none)
theorem pretty_ugly.mono_l : ∀ k, (∀ y0 y1 y2, LeO (pretty_ugly.l0 k y0 y1 y2) (pretty_ugly.l0 (k + 1) y0 y1 y2)) ∧ (∀ y0 y1 y2, LeO (pretty_ugly.l1 k y0 y1 y2) (pretty_ugly.l1 (k + 1) y0 y1 y2)) ∧ (∀ y0 y1 y2 y3, LeO (pretty_ugly.l2 k y0 y1 y2 y3) (pretty_ugly.l2 (k + 1) y0 y1 y2 y3))
  | 0 => ⟨fun _ _ _ r h => by simp [pretty_ugly.l0] at h, fun _ _ _ r h => by simp [pretty_ugly.l1] at h, fun _ _ _ _ r h => by simp [pretty_ugly.l2] at h⟩
  | k + 1 => by
    obtain ⟨ih0, ih1, ih2⟩ := pretty_ugly.mono_l k
    refine ⟨?_, ?_, ?_⟩
    · intro y0 y1 y2
      unfold pretty_ugly.l0
      repeat' first
      | (with_reducible exact ih0 _ _ _)
      | (with_reducible exact ih1 _ _ _)
      | (with_reducible exact ih2 _ _ _ _)
      | (with_reducible exact LeO.refl _)
      | (with_reducible exact LeO.none _)
      | (with_reducible refine LeO.ite ?_ ?_)
      | (with_reducible refine LeO.bind ?_ (fun _ => ?_))
      | exact ih0 _ _ _
      | exact ih1 _ _ _
      | exact ih2 _ _ _ _
      | exact LeO.none _
      | refine LeO.ite ?_ ?_
      | refine LeO.bind ?_ (fun _ => ?_)
    · intro y0 y1 y2
      unfold pretty_ugly.l1
      repeat' first
      | (with_reducible exact ih0 _ _ _)
      | (with_reducible exact ih1 _ _ _)
      | (with_reducible exact ih2 _ _ _ _)
      | (with_reducible exact LeO.refl _)
      | (with_reducible exact LeO.none _)
      | (with_reducible refine LeO.ite ?_ ?_)
      | (with_reducible refine LeO.bind ?_ (fun _ => ?_))
      | exact ih0 _ _ _
      | exact ih1 _ _ _
      | exact ih2 _ _ _ _
      | exact LeO.none _
      | refine LeO.ite ?_ ?_
      | refine LeO.bind ?_ (fun _ => ?_)
    · intro y0 y1 y2 y3
      unfold pretty_ugly.l2
      repeat' first
      | (with_reducible exact ih0 _ _ _)
      | (with_reducible exact ih1 _ _ _)
      | (with_reducible exact ih2 _ _ _ _)
      | (with_reducible exact LeO.refl _)
      | (with_reducible exact LeO.none _)
      | (with_reducible refine LeO.ite ?_ ?_)
      | (with_reducible refine LeO.bind ?_ (fun _ => ?_))
      | exact ih0 _ _ _
      | exact ih1 _ _ _
      | exact ih2 _ _ _ _
      | exact LeO.none _
      | refine LeO.ite ?_ ?_
      | refine LeO.bind ?_ (fun _ => ?_)
theorem pretty_ugly.mono : ∀ a0 a1 k, LeO (pretty_ugly.f k a0 a1) (pretty_ugly.f (k + 1) a0 a1) := by
  intro a0 a1 k
  obtain ⟨ih0, ih1, ih2⟩ := pretty_ugly.mono_l k
  unfold pretty_ugly.f
  repeat' first
      | (with_reducible exact ih0 _ _ _)
      | (with_reducible exact ih1 _ _ _)
      | (with_reducible exact ih2 _ _ _ _)
      | (with_reducible exact LeO.refl _)
      | (with_reducible exact LeO.none _)
      | (with_reducible refine LeO.ite ?_ ?_)
      | (with_reducible refine LeO.bind ?_ (fun _ => ?_))
      | exact ih0 _ _ _
      | exact ih1 _ _ _
      | exact ih2 _ _ _ _
      | exact LeO.none _
      | refine LeO.ite ?_ ?_
      | refine LeO.bind ?_ (fun _ => ?_)
set_option maxHeartbeats 8000000 in
set_option maxRecDepth 100000 in
theorem pretty_ugly.calls (k : Nat) (P0_ : Nat → Prop) (u9000_ : Value) (l0 : List Int) (A1 : Option Addr) (c1 : Nat) (l1 : List Int) (r : List Int) (w0 w : World) (hB : Below w0.heap.size w0 w) (ho0 : Kd.R (Kd.int .u8) 5 w w0.heap.size P0_ u9000_ l0) (hr1 : ∀ W_, Kept w W_ (fun k_ => P0_ k_) → Kd.C (Kd.int .u8) W_ A1 l1.length l1) (hc1 : l1.length ≤ c1) (h : pretty_ugly.f k l0 l1 = some r) :
    Calls Try.prog 29 #[u9000_, .slice A1 l1.length c1] w fun e w' => ∃ v0_ : Value, e = .returned (v0_) ∧ Kd.R (Kd.int .u8) 5 w' w0.heap.size (fun k_ => (P0_ k_ ∨ w.heap.size ≤ k_)) v0_ r ∧ Below w0.heap.size w0 w' ∧ Kept w w' (fun k_ => P0_ k_) := by
  have HO0 := Aside0.mk (show Kd.R (Kd.int .u8) 5 w w0.heap.size (fun k_ => (P0_ k_ ∨ w.heap.size ≤ k_)) u9000_ l0 from Kd.R_mono ho0 (fun k_ hk => (.inl hk)))
  have HR1 := Aside0.mk hr1
  have HC1 := Aside0.mk hc1
  clear hr1 hc1
  have HK := Aside0.mk (Kept.refl w (fun k_ => P0_ k_))
  have HW0 := Aside0.mk hB.size
  have HB := Aside0.mk hB
  clear hB
  have H : (if 0 ≤ (l0.length : Int) then (pretty_ugly.l0 k (l0.take (0 : Int).toNat) l1 0) else (none)) = some r := h
  clear h
  by_cases c3 : 0 ≤ (l0.length : Int)
  · rw [if_pos c3] at H
    have c3b0 := eq_true c3
    have c3b1 : decide (0 ≤ (l0.length : Int)) = true := decide_eq_true c3
    clear c3
    obtain ⟨y188, hy188⟩ : ∃ y_ : List Int, y_ = (l0.take (0 : Int).toNat) := ⟨_, rfl⟩
    replace H : (pretty_ugly.l0 k y188 l1 0) = some r := by first | (rw [hy188]; with_reducible exact H) | (have H2_ := (Option.bind_some _ _).symm.trans H; rw [hy188]; with_reducible exact H2_) | (have H2_ := (Option.bind_some _ _).symm.trans H; with_reducible exact H2_) | with_reducible exact H | (rw [hy188]; exact H) | exact H
    have Ny188 := Aside0.mk hy188
    clear hy188
    have H' := Aside0.mk H
    clear H
    obtain ⟨Ao4, co4, eo4⟩ := Kd.R_slice HO0.out
    subst eo4
    have q5 : (0 : Int) ≤ ((l0.length : Int) : Int) := of_decide_eq_true (by first | (with_reducible assumption) | assumption)
    obtain ⟨i05, hi05, _, hsz5, _⟩ := info_parts info5
    have hcut5 := cut_to (P := Try.prog) 41 5 .i64 Try.underlying41 hi05 Ao4 l0.length co4 0 (by omega) q5 (Kd.R_reads' HO0.out).2.1
    have hr5 := Kd.R_take (m := (0 : Int).toNat) HO0.out (by omega)
    have hy5 : y188.length = (0 : Int).toNat := (by rw [Ny188.out, List.length_take]; omega)
    rw [← Ny188.out] at hr5
    rw [← hy5] at hr5 hcut5
    clear hy5 hi05 hsz5 HO0
    have HO190 := Aside0.mk hr5
    clear hr5
    replace q5 := eq_true q5
    go_enter Try.func29, Try.ntmps29
    go_wp2
    go_loopg [0, 5] k (fun kq v0 v5 w' => ∃ (x0_1 : List Int) (x5_1 : Int), v5 = .int .i64 x5_1 ∧ Aside0 (pretty_ugly.l0 kq x0_1 l1 x5_1 = some r) ∧ Aside0 (kq ≤ k) ∧ Aside0 (Kd.R (Kd.int .u8) 5 w' w0.heap.size (fun k_ => (P0_ k_ ∨ w.heap.size ≤ k_)) v0 x0_1) ∧ Aside0 (Kept w w' (fun k_ => P0_ k_)) ∧ Aside0 (Below w0.heap.size w0 w'))
    case atStart => exact ⟨(y188), (0), (by first | rfl | (simp; done) | (simp [*]; done)), H', ⟨Nat.le_refl _⟩, ⟨by (with_reducible repeat (first | apply Kd.R_alloc | apply Kd.R_drewN | apply Kd.R_drew)); exact HO190.out⟩, ⟨by repeat (first | (with_reducible first | exact HK.out | apply Kept.alloc | apply Kept.drewN | apply Kept.drew) | exact HK.out)⟩, ⟨by repeat (first | (with_reducible first | exact HB.out | apply below_alloc | apply pw_below_drewN | apply below_drew1) | exact HB.out)⟩⟩
    case round =>
      clear H'
      try clear c1
      try clear c2
      try clear p2
      try clear c3
      try clear c3b0
      try clear c3b1
      try clear q5
      try clear q5
      obtain ⟨x0_1, x5_1, rfl, HA, HK1, HO_0, HK, HB⟩ := hrel
      cases gk with
      | zero => exact absurd HA.out (by simp [pretty_ugly.l0])
      | succ k1 =>
        have H := HA.out
        clear HA
        simp only [pretty_ugly.l0] at H
        by_cases c6 : x5_1 < (l1.length : Int)
        · rw [if_pos c6] at H
          have c6b0 : decide (x5_1 < (l1.length : Int)) = true := decide_eq_true c6
          clear c6
          by_cases c7 : 0 ≤ x5_1
          · rw [if_pos c7] at H
            have c7b0 : decide (0 ≤ x5_1) = true := decide_eq_true c7
            clear c7
            by_cases c8 : (rd l1 x5_1) > 32
            · rw [if_pos c8] at H
              have c8b0 : decide (32 < (rd l1 x5_1)) = true := decide_eq_true c8
              clear c8
              by_cases c9 : x0_1.length < 140737488355328
              · rw [if_pos c9] at H
                have LMc9 := Aside0.mk c9
                clear c9
                obtain ⟨y193, hy193⟩ : ∃ y_ : List Int, y_ = (x0_1 ++ [rd l1 x5_1]) := ⟨_, rfl⟩
                replace H : (if (rd l1 x5_1) = 34 then (pretty_ugly.l1 k1 y193 l1 (wrap64 (x5_1 + 1))) else (pretty_ugly.l0 k1 y193 l1 (wrap64 (x5_1 + 1)))) = some r := by first | (rw [hy193]; with_reducible exact H) | (have H2_ := (Option.bind_some _ _).symm.trans H; rw [hy193]; with_reducible exact H2_) | (have H2_ := (Option.bind_some _ _).symm.trans H; with_reducible exact H2_) | with_reducible exact H | (rw [hy193]; exact H) | exact H
                have Ny193 := Aside0.mk hy193
                clear hy193
                by_cases c10 : (rd l1 x5_1) = 34
                · rw [if_pos c10] at H
                  have c10b0 : ((rd l1 x5_1) == 34) = true := beq_iff_eq.mpr c10
                  have c10b1 : ((rd l1 x5_1) != 34) = false := bne_eq_false_iff_eq.mpr c10
                  clear c10
                  have H' := Aside0.mk H
                  clear H
                  have p191 : 0 ≤ (x5_1 : Int) := of_decide_eq_true (by first | (with_reducible assumption) | assumption)
                  have q191 : x5_1 < (l1.length : Int) := of_decide_eq_true (by first | (with_reducible assumption) | assumption)
                  obtain ⟨ad191, e191, hx191_0⟩ := Kd.at_int (Kd.C_kept_now HR1.out HK.out) x5_1 p191 q191
                  cases e191
                  replace p191 := eq_true p191
                  replace q191 := eq_true q191
                  have p192 : 0 ≤ (x5_1 : Int) := of_decide_eq_true (by first | (with_reducible assumption) | assumption)
                  have q192 : x5_1 < (l1.length : Int) := of_decide_eq_true (by first | (with_reducible assumption) | assumption)
                  obtain ⟨ad192, e192, hx192_0⟩ := Kd.at_int (Kd.C_kept_now HR1.out HK.out) x5_1 p192 q192
                  obtain rfl : ad191 = ad192 := (by injection e192)
                  replace p192 := eq_true p192
                  replace q192 := eq_true q192
                  go_wp2_with (first | ((with_reducible refine gate_builtin (b := .append) (xs := #[.tmp 20, .tmp 25]) rfl ?_); at_builtin; refine Kd.R_append (Kd.int .u8) (w0 := w0) w0.heap.size rfl (.tmp 20) (.tmp 25) 41 5 (.int .u8 0) 1 rfl Try.underlying41 info5 rfl (by decide) (by omega) u0 x0_1 (rd l1 x5_1) [.int .u8 (rd l1 x5_1)] (fun k_ => (P0_ k_ ∨ w.heap.size ≤ k_)) (fun _ => False) rfl rfl ?aP (fun _ hk => hk.elim) ?aF ?aO ?aB ?aS ?aL ?_; (case aP => exact rfl); (case aB => exact (by repeat (first | (with_reducible first | exact HB.out | apply below_alloc | apply pw_below_drewN | apply below_drew1) | exact HB.out))); (case aF => exact (fun k_ hk => (.inr (Nat.le_trans (by first | exact HK.out.1 | exact (show Kept w _ (fun k_ => P0_ k_) from by repeat (first | (with_reducible first | exact HK.out | apply Kept.alloc | apply Kept.drewN | apply Kept.drew) | exact HK.out)).1) hk)))); (case aO => exact (by (with_reducible repeat (first | apply Kd.R_alloc | apply Kd.R_drewN | apply Kd.R_drew)); exact HO_0.out)); (case aS => exact (below_size (by repeat (first | (with_reducible first | exact HB.out | apply below_alloc | apply pw_below_drewN | apply below_drew1) | exact HB.out)))); (case aL => have := LMc9.out; omega); intro v194 w11 ho hb hg hat; rw [← Ny193.out] at ho; have n0_ := Aside0.mk (hb); have n1_ := Aside0.mk (Kept.of_grown (S := (fun k_ => P0_ k_)) hg (by repeat (first | (with_reducible first | exact HK.out | apply Kept.alloc | apply Kept.drewN | apply Kept.drew) | exact HK.out)) (fun k_ e_ => (HO_0.out.1 k_ e_))); have n2_ := Aside0.mk (ho); clear HB; clear HK; clear HO_0; have HB := n0_; have HK := n1_; have HO195 := n2_; clear n0_ n1_ n2_; clear ho hb hg hat; have p196 : 0 ≤ (x5_1 : Int) := of_decide_eq_true (by first | (with_reducible assumption) | assumption); have q196 : x5_1 < (l1.length : Int) := of_decide_eq_true (by first | (with_reducible assumption) | assumption); obtain ⟨ad196, e196, hx196_0⟩ := Kd.at_int (Kd.C_kept_now HR1.out HK.out) x5_1 p196 q196; obtain rfl : ad191 = ad196 := (by injection e196); replace p196 := eq_true p196; replace q196 := eq_true q196))
                  go_loopg [0, 5] k1 (fun kq v0 v5 w' => ∃ (x0_2 : List Int) (x5_2 : Int), v5 = .int .i64 x5_2 ∧ Aside0 (pretty_ugly.l1 kq x0_2 l1 x5_2 = some r) ∧ Aside0 (kq ≤ k1) ∧ Aside0 (Kd.R (Kd.int .u8) 5 w' w0.heap.size (fun k_ => (P0_ k_ ∨ w.heap.size ≤ k_)) v0 x0_2) ∧ Aside0 (Kept w w' (fun k_ => P0_ k_)) ∧ Aside0 (Below w0.heap.size w0 w'))
                  case atStart => exact ⟨(y193), (wrap64 (x5_1 + 1)), (by first | rfl | (simp; done) | (simp [*]; done)), H', ⟨Nat.le_refl _⟩, ⟨by (with_reducible repeat (first | apply Kd.R_alloc | apply Kd.R_drewN | apply Kd.R_drew)); exact HO195.out⟩, ⟨by repeat (first | (with_reducible first | exact HK.out | apply Kept.alloc | apply Kept.drewN | apply Kept.drew) | exact HK.out)⟩, ⟨by repeat (first | (with_reducible first | exact HB.out | apply below_alloc | apply pw_below_drewN | apply below_drew1) | exact HB.out)⟩⟩
                  case round =>
                    clear H'
                    try clear c1
                    try clear p1
                    try clear q1
                    try clear hx1
                    try clear c2
                    try clear p2
                    try clear c3
                    try clear c3b0
                    try clear c3b1
                    try clear q5
                    try clear c6
                    try clear c6b0
                    try clear p6
                    try clear c7
                    try clear c7b0
                    try clear c8
                    try clear c8b0
                    try clear c9
                    try clear c10
                    try clear c10b0
                    try clear c10b1
                    try clear hx191_0
                    try clear hx192_0
                    try clear hx196_0
                    try clear p191
                    try clear p192
                    try clear p196
                    try clear p2
                    try clear q191
                    try clear q192
                    try clear q196
                    try clear q5
                    obtain ⟨x0_2, x5_2, rfl, HA, HK2, HO_0, HK, HB⟩ := hrel
                    cases gk with
                    | zero => exact absurd HA.out (by simp [pretty_ugly.l1])
                    | succ k2 =>
                      have H := HA.out
                      clear HA
                      simp only [pretty_ugly.l1] at H
                      by_cases c12 : x5_2 < (l1.length : Int)
                      · rw [if_pos c12] at H
                        have c12b0 : decide (x5_2 < (l1.length : Int)) = true := decide_eq_true c12
                        clear c12
                        by_cases c13 : 0 ≤ x5_2
                        · rw [if_pos c13] at H
                          have c13b0 : decide (0 ≤ x5_2) = true := decide_eq_true c13
                          clear c13
                          by_cases c14 : x0_2.length < 140737488355328
                          · rw [if_pos c14] at H
                            have LMc14 := Aside0.mk c14
                            clear c14
                            obtain ⟨y198, hy198⟩ : ∃ y_ : List Int, y_ = (x0_2 ++ [rd l1 x5_2]) := ⟨_, rfl⟩
                            replace H : (if (rd l1 x5_2) = 34 then (pretty_ugly.l2 k2 y198 l1 x5_2 (wrap64 ((y198.length : Int) - 2))) else (pretty_ugly.l1 k2 y198 l1 (wrap64 (x5_2 + 1)))) = some r := by first | (rw [hy198]; with_reducible exact H) | (have H2_ := (Option.bind_some _ _).symm.trans H; rw [hy198]; with_reducible exact H2_) | (have H2_ := (Option.bind_some _ _).symm.trans H; with_reducible exact H2_) | with_reducible exact H | (rw [hy198]; exact H) | exact H
                            have Ny198 := Aside0.mk hy198
                            clear hy198
                            by_cases c15 : (rd l1 x5_2) = 34
                            · rw [if_pos c15] at H
                              have c15b0 : ((rd l1 x5_2) == 34) = true := beq_iff_eq.mpr c15
                              have c15b1 : ((rd l1 x5_2) != 34) = false := bne_eq_false_iff_eq.mpr c15
                              clear c15
                              have H' := Aside0.mk H
                              clear H
                              have p197 : 0 ≤ (x5_2 : Int) := of_decide_eq_true (by first | (with_reducible assumption) | assumption)
                              have q197 : x5_2 < (l1.length : Int) := of_decide_eq_true (by first | (with_reducible assumption) | assumption)
                              obtain ⟨ad197, e197, hx197_0⟩ := Kd.at_int (Kd.C_kept_now HR1.out HK.out) x5_2 p197 q197
                              obtain rfl : ad191 = ad197 := (by injection e197)
                              replace p197 := eq_true p197
                              replace q197 := eq_true q197
                              go_wp2_with (first | ((with_reducible refine gate_builtin (b := .append) (xs := #[.tmp 40, .tmp 45]) rfl ?_); at_builtin; refine Kd.R_append (Kd.int .u8) (w0 := w0) w0.heap.size rfl (.tmp 40) (.tmp 45) 41 5 (.int .u8 0) 1 rfl Try.underlying41 info5 rfl (by decide) (by omega) u0 x0_2 (rd l1 x5_2) [.int .u8 (rd l1 x5_2)] (fun k_ => (P0_ k_ ∨ w.heap.size ≤ k_)) (fun _ => False) rfl rfl ?aP (fun _ hk => hk.elim) ?aF ?aO ?aB ?aS ?aL ?_; (case aP => exact rfl); (case aB => exact (by repeat (first | (with_reducible first | exact HB.out | apply below_alloc | apply pw_below_drewN | apply below_drew1) | exact HB.out))); (case aF => exact (fun k_ hk => (.inr (Nat.le_trans (by first | exact HK.out.1 | exact (show Kept w _ (fun k_ => P0_ k_) from by repeat (first | (with_reducible first | exact HK.out | apply Kept.alloc | apply Kept.drewN | apply Kept.drew) | exact HK.out)).1) hk)))); (case aO => exact (by (with_reducible repeat (first | apply Kd.R_alloc | apply Kd.R_drewN | apply Kd.R_drew)); exact HO_0.out)); (case aS => exact (below_size (by repeat (first | (with_reducible first | exact HB.out | apply below_alloc | apply pw_below_drewN | apply below_drew1) | exact HB.out)))); (case aL => have := LMc14.out; omega); intro v199 w16 ho hb hg hat; rw [← Ny198.out] at ho; have n0_ := Aside0.mk (hb); have n1_ := Aside0.mk (Kept.of_grown (S := (fun k_ => P0_ k_)) hg (by repeat (first | (with_reducible first | exact HK.out | apply Kept.alloc | apply Kept.drewN | apply Kept.drew) | exact HK.out)) (fun k_ e_ => (HO_0.out.1 k_ e_))); have n2_ := Aside0.mk (ho); clear HB; clear HK; clear HO_0; have HB := n0_; have HK := n1_; have HO200 := n2_; clear n0_ n1_ n2_; clear ho hb hg hat; have p201 : 0 ≤ (x5_2 : Int) := of_decide_eq_true (by first | (with_reducible assumption) | assumption); have q201 : x5_2 < (l1.length : Int) := of_decide_eq_true (by first | (with_reducible assumption) | assumption); obtain ⟨ad201, e201, hx201_0⟩ := Kd.at_int (Kd.C_kept_now HR1.out HK.out) x5_2 p201 q201; obtain rfl : ad191 = ad201 := (by injection e201); replace p201 := eq_true p201; replace q201 := eq_true q201; obtain ⟨Ao17, co17, eo17⟩ := Kd.R_slice HO200.out; subst eo17))
                              go_loopg [6] k2 (fun kq v6 w' => ∃ (x6_3 : Int), v6 = .int .i64 x6_3 ∧ Aside0 (pretty_ugly.l2 kq y198 l1 x5_2 x6_3 = some r) ∧ Aside0 (kq ≤ k2) ∧ Aside0 (Kd.R (Kd.int .u8) 5 w' w0.heap.size (fun k_ => (P0_ k_ ∨ w.heap.size ≤ k_)) (.slice Ao17 y198.length co17) y198) ∧ Aside0 (Kept w w' (fun k_ => P0_ k_)) ∧ Aside0 (Below w0.heap.size w0 w'))
                              case atStart => exact ⟨(wrap64 ((y198.length : Int) - 2)), (by first | rfl | (simp; done) | (simp [*]; done)), H', ⟨Nat.le_refl _⟩, ⟨by (with_reducible repeat (first | apply Kd.R_alloc | apply Kd.R_drewN | apply Kd.R_drew)); exact HO200.out⟩, ⟨by repeat (first | (with_reducible first | exact HK.out | apply Kept.alloc | apply Kept.drewN | apply Kept.drew) | exact HK.out)⟩, ⟨by repeat (first | (with_reducible first | exact HB.out | apply below_alloc | apply pw_below_drewN | apply below_drew1) | exact HB.out)⟩⟩
                              case round =>
                                clear H'
                                try clear c1
                                try clear p1
                                try clear q1
                                try clear hx1
                                try clear c2
                                try clear p2
                                try clear q2
                                try clear hx2
                                try clear c3
                                try clear c3b0
                                try clear c3b1
                                try clear q5
                                try clear c6
                                try clear c6b0
                                try clear p6
                                try clear c7
                                try clear c7b0
                                try clear c8
                                try clear c8b0
                                try clear c9
                                try clear c10
                                try clear c10b0
                                try clear c10b1
                                try clear c12
                                try clear c12b0
                                try clear c13
                                try clear c13b0
                                try clear c14
                                try clear c15
                                try clear c15b0
                                try clear c15b1
                                try clear hx191_0
                                try clear hx192_0
                                try clear hx196_0
                                try clear hx197_0
                                try clear hx201_0
                                try clear p1
                                try clear p191
                                try clear p192
                                try clear p196
                                try clear p197
                                try clear p2
                                try clear p201
                                try clear p6
                                try clear q1
                                try clear q191
                                try clear q192
                                try clear q196
                                try clear q197
                                try clear q201
                                try clear q5
                                obtain ⟨x6_3, rfl, HA, HK3, HO_0, HK, HB⟩ := hrel
                                cases gk with
                                | zero => exact absurd HA.out (by simp [pretty_ugly.l2])
                                | succ k3 =>
                                  have H := HA.out
                                  clear HA
                                  simp only [pretty_ugly.l2] at H
                                  by_cases c18 : 0 ≤ x6_3
                                  · rw [if_pos c18] at H
                                    have c18b0 : decide (0 ≤ x6_3) = true := decide_eq_true c18
                                    clear c18
                                    by_cases c19 : x6_3 < (y198.length : Int)
                                    · rw [if_pos c19] at H
                                      have c19b0 : decide (x6_3 < (y198.length : Int)) = true := decide_eq_true c19
                                      clear c19
                                      by_cases c20 : (rd y198 x6_3) = 92
                                      · rw [if_pos c20] at H
                                        have c20b0 : ((rd y198 x6_3) == 92) = true := beq_iff_eq.mpr c20
                                        have c20b1 : ((rd y198 x6_3) != 92) = false := bne_eq_false_iff_eq.mpr c20
                                        clear c20
                                        have H' := Aside0.mk H
                                        clear H
                                        have p202 : 0 ≤ (x6_3 : Int) := of_decide_eq_true (by first | (with_reducible assumption) | assumption)
                                        have q202 : x6_3 < (y198.length : Int) := of_decide_eq_true (by first | (with_reducible assumption) | assumption)
                                        obtain ⟨ad202, e202, hx202_0⟩ := Kd.at_int (Kd.R_reads' HO_0.out).2.2 x6_3 p202 q202
                                        cases e202
                                        replace p202 := eq_true p202
                                        replace q202 := eq_true q202
                                        go_wp2
                                        go_roundg k3
                                        case measure => have := HK1.out; have := HK2.out; have := HK3.out; omega
                                        case rel => exact ⟨(wrap64 (x6_3 - 1)), (by first | rfl | (simp; done) | (simp [*]; done)), H', ⟨by have := HK1.out; have := HK2.out; have := HK3.out; omega⟩, ⟨by (with_reducible repeat (first | apply Kd.R_alloc | apply Kd.R_drewN | apply Kd.R_drew)); exact HO_0.out⟩, ⟨by repeat (first | (with_reducible first | exact HK.out | apply Kept.alloc | apply Kept.drewN | apply Kept.drew) | exact HK.out)⟩, ⟨by repeat (first | (with_reducible first | exact HB.out | apply below_alloc | apply pw_below_drewN | apply below_drew1) | exact HB.out)⟩⟩
                                      · rw [if_neg c20] at H
                                        have c20b0 : ((rd y198 x6_3) == 92) = false := beq_eq_false_iff_ne.mpr c20
                                        have c20b1 : ((rd y198 x6_3) != 92) = true := bne_iff_ne.mpr c20
                                        by_cases c21 : (Int.tmod (wrap64 (x6_3 - (wrap64 ((y198.length : Int) - 1)))) 2) = 0
                                        · rw [if_pos c21] at H
                                          have c21b0 : ((Int.tmod (wrap64 (x6_3 - (wrap64 ((y198.length : Int) - 1)))) 2) == 0) = true := beq_iff_eq.mpr c21
                                          have c21b1 : ((Int.tmod (wrap64 (x6_3 - (wrap64 ((y198.length : Int) - 1)))) 2) != 0) = false := bne_eq_false_iff_eq.mpr c21
                                          clear c21
                                          have H' := Aside0.mk H
                                          clear H
                                          have p202 : 0 ≤ (x6_3 : Int) := of_decide_eq_true (by first | (with_reducible assumption) | assumption)
                                          have q202 : x6_3 < (y198.length : Int) := of_decide_eq_true (by first | (with_reducible assumption) | assumption)
                                          obtain ⟨ad202, e202, hx202_0⟩ := Kd.at_int (Kd.R_reads' HO_0.out).2.2 x6_3 p202 q202
                                          cases e202
                                          replace p202 := eq_true p202
                                          replace q202 := eq_true q202
                                          go_wp2
                                          go_roundg k3
                                          case measure => have := HK1.out; have := HK2.out; have := HK3.out; omega
                                          case rel => exact ⟨(y198), (wrap64 (x5_2 + 1)), (by first | rfl | (simp; done) | (simp [*]; done)), H', ⟨by have := HK1.out; have := HK2.out; have := HK3.out; omega⟩, ⟨by (with_reducible repeat (first | apply Kd.R_alloc | apply Kd.R_drewN | apply Kd.R_drew)); exact HO_0.out⟩, ⟨by repeat (first | (with_reducible first | exact HK.out | apply Kept.alloc | apply Kept.drewN | apply Kept.drew) | exact HK.out)⟩, ⟨by repeat (first | (with_reducible first | exact HB.out | apply below_alloc | apply pw_below_drewN | apply below_drew1) | exact HB.out)⟩⟩
                                        · rw [if_neg c21] at H
                                          have c21b0 : ((Int.tmod (wrap64 (x6_3 - (wrap64 ((y198.length : Int) - 1)))) 2) == 0) = false := beq_eq_false_iff_ne.mpr c21
                                          have c21b1 : ((Int.tmod (wrap64 (x6_3 - (wrap64 ((y198.length : Int) - 1)))) 2) != 0) = true := bne_iff_ne.mpr c21
                                          have H' := Aside0.mk H
                                          clear H
                                          have p202 : 0 ≤ (x6_3 : Int) := of_decide_eq_true (by first | (with_reducible assumption) | assumption)
                                          have q202 : x6_3 < (y198.length : Int) := of_decide_eq_true (by first | (with_reducible assumption) | assumption)
                                          obtain ⟨ad202, e202, hx202_0⟩ := Kd.at_int (Kd.R_reads' HO_0.out).2.2 x6_3 p202 q202
                                          cases e202
                                          replace p202 := eq_true p202
                                          replace q202 := eq_true q202
                                          go_wp2
                                          go_roundg k3
                                          case measure => have := HK1.out; have := HK2.out; have := HK3.out; omega
                                          case rel => exact ⟨(y198), (wrap64 (x5_2 + 1)), (by first | rfl | (simp; done) | (simp [*]; done)), H', ⟨by have := HK1.out; have := HK2.out; have := HK3.out; omega⟩, ⟨by (with_reducible repeat (first | apply Kd.R_alloc | apply Kd.R_drewN | apply Kd.R_drew)); exact HO_0.out⟩, ⟨by repeat (first | (with_reducible first | exact HK.out | apply Kept.alloc | apply Kept.drewN | apply Kept.drew) | exact HK.out)⟩, ⟨by repeat (first | (with_reducible first | exact HB.out | apply below_alloc | apply pw_below_drewN | apply below_drew1) | exact HB.out)⟩⟩
                                    · rw [if_neg c19] at H
                                      exact absurd H (by simp)
                                  · rw [if_neg c18] at H
                                    exact absurd H (by simp)
                            · rw [if_neg c15] at H
                              have c15b0 : ((rd l1 x5_2) == 34) = false := beq_eq_false_iff_ne.mpr c15
                              have c15b1 : ((rd l1 x5_2) != 34) = true := bne_iff_ne.mpr c15
                              have H' := Aside0.mk H
                              clear H
                              have p197 : 0 ≤ (x5_2 : Int) := of_decide_eq_true (by first | (with_reducible assumption) | assumption)
                              have q197 : x5_2 < (l1.length : Int) := of_decide_eq_true (by first | (with_reducible assumption) | assumption)
                              obtain ⟨ad197, e197, hx197_0⟩ := Kd.at_int (Kd.C_kept_now HR1.out HK.out) x5_2 p197 q197
                              obtain rfl : ad191 = ad197 := (by injection e197)
                              replace p197 := eq_true p197
                              replace q197 := eq_true q197
                              go_wp2_with (first | ((with_reducible refine gate_builtin (b := .append) (xs := #[.tmp 40, .tmp 45]) rfl ?_); at_builtin; refine Kd.R_append (Kd.int .u8) (w0 := w0) w0.heap.size rfl (.tmp 40) (.tmp 45) 41 5 (.int .u8 0) 1 rfl Try.underlying41 info5 rfl (by decide) (by omega) u0 x0_2 (rd l1 x5_2) [.int .u8 (rd l1 x5_2)] (fun k_ => (P0_ k_ ∨ w.heap.size ≤ k_)) (fun _ => False) rfl rfl ?aP (fun _ hk => hk.elim) ?aF ?aO ?aB ?aS ?aL ?_; (case aP => exact rfl); (case aB => exact (by repeat (first | (with_reducible first | exact HB.out | apply below_alloc | apply pw_below_drewN | apply below_drew1) | exact HB.out))); (case aF => exact (fun k_ hk => (.inr (Nat.le_trans (by first | exact HK.out.1 | exact (show Kept w _ (fun k_ => P0_ k_) from by repeat (first | (with_reducible first | exact HK.out | apply Kept.alloc | apply Kept.drewN | apply Kept.drew) | exact HK.out)).1) hk)))); (case aO => exact (by (with_reducible repeat (first | apply Kd.R_alloc | apply Kd.R_drewN | apply Kd.R_drew)); exact HO_0.out)); (case aS => exact (below_size (by repeat (first | (with_reducible first | exact HB.out | apply below_alloc | apply pw_below_drewN | apply below_drew1) | exact HB.out)))); (case aL => have := LMc14.out; omega); intro v199 w22 ho hb hg hat; rw [← Ny198.out] at ho; have n0_ := Aside0.mk (hb); have n1_ := Aside0.mk (Kept.of_grown (S := (fun k_ => P0_ k_)) hg (by repeat (first | (with_reducible first | exact HK.out | apply Kept.alloc | apply Kept.drewN | apply Kept.drew) | exact HK.out)) (fun k_ e_ => (HO_0.out.1 k_ e_))); have n2_ := Aside0.mk (ho); clear HB; clear HK; clear HO_0; have HB := n0_; have HK := n1_; have HO200 := n2_; clear n0_ n1_ n2_; clear ho hb hg hat; have p201 : 0 ≤ (x5_2 : Int) := of_decide_eq_true (by first | (with_reducible assumption) | assumption); have q201 : x5_2 < (l1.length : Int) := of_decide_eq_true (by first | (with_reducible assumption) | assumption); obtain ⟨ad201, e201, hx201_0⟩ := Kd.at_int (Kd.C_kept_now HR1.out HK.out) x5_2 p201 q201; obtain rfl : ad191 = ad201 := (by injection e201); replace p201 := eq_true p201; replace q201 := eq_true q201))
                              go_roundg k2
                              case measure => have := HK1.out; have := HK2.out; omega
                              case rel => exact ⟨(y198), (wrap64 (x5_2 + 1)), (by first | rfl | (simp; done) | (simp [*]; done)), H', ⟨by have := HK1.out; have := HK2.out; omega⟩, ⟨by (with_reducible repeat (first | apply Kd.R_alloc | apply Kd.R_drewN | apply Kd.R_drew)); exact HO200.out⟩, ⟨by repeat (first | (with_reducible first | exact HK.out | apply Kept.alloc | apply Kept.drewN | apply Kept.drew) | exact HK.out)⟩, ⟨by repeat (first | (with_reducible first | exact HB.out | apply below_alloc | apply pw_below_drewN | apply below_drew1) | exact HB.out)⟩⟩
                          · rw [if_neg c14] at H
                            exact absurd H (by simp)
                        · rw [if_neg c13] at H
                          exact absurd H (by simp)
                      · rw [if_neg c12] at H
                        have c12b0 : decide (x5_2 < (l1.length : Int)) = false := decide_eq_false c12
                        clear c12
                        have H' := Aside0.mk H
                        clear H
                        go_wp2
                        go_roundg k2
                        case measure => have := HK1.out; have := HK2.out; omega
                        case rel => exact ⟨(x0_2), (wrap64 (x5_2 + 1)), (by first | rfl | (simp; done) | (simp [*]; done)), H', ⟨by have := HK1.out; have := HK2.out; omega⟩, ⟨by (with_reducible repeat (first | apply Kd.R_alloc | apply Kd.R_drewN | apply Kd.R_drew)); exact HO_0.out⟩, ⟨by repeat (first | (with_reducible first | exact HK.out | apply Kept.alloc | apply Kept.drewN | apply Kept.drew) | exact HK.out)⟩, ⟨by repeat (first | (with_reducible first | exact HB.out | apply below_alloc | apply pw_below_drewN | apply below_drew1) | exact HB.out)⟩⟩
                · rw [if_neg c10] at H
                  have c10b0 : ((rd l1 x5_1) == 34) = false := beq_eq_false_iff_ne.mpr c10
                  have c10b1 : ((rd l1 x5_1) != 34) = true := bne_iff_ne.mpr c10
                  have H' := Aside0.mk H
                  clear H
                  have p191 : 0 ≤ (x5_1 : Int) := of_decide_eq_true (by first | (with_reducible assumption) | assumption)
                  have q191 : x5_1 < (l1.length : Int) := of_decide_eq_true (by first | (with_reducible assumption) | assumption)
                  obtain ⟨ad191, e191, hx191_0⟩ := Kd.at_int (Kd.C_kept_now HR1.out HK.out) x5_1 p191 q191
                  cases e191
                  replace p191 := eq_true p191
                  replace q191 := eq_true q191
                  have p192 : 0 ≤ (x5_1 : Int) := of_decide_eq_true (by first | (with_reducible assumption) | assumption)
                  have q192 : x5_1 < (l1.length : Int) := of_decide_eq_true (by first | (with_reducible assumption) | assumption)
                  obtain ⟨ad192, e192, hx192_0⟩ := Kd.at_int (Kd.C_kept_now HR1.out HK.out) x5_1 p192 q192
                  obtain rfl : ad191 = ad192 := (by injection e192)
                  replace p192 := eq_true p192
                  replace q192 := eq_true q192
                  go_wp2_with (first | ((with_reducible refine gate_builtin (b := .append) (xs := #[.tmp 20, .tmp 25]) rfl ?_); at_builtin; refine Kd.R_append (Kd.int .u8) (w0 := w0) w0.heap.size rfl (.tmp 20) (.tmp 25) 41 5 (.int .u8 0) 1 rfl Try.underlying41 info5 rfl (by decide) (by omega) u0 x0_1 (rd l1 x5_1) [.int .u8 (rd l1 x5_1)] (fun k_ => (P0_ k_ ∨ w.heap.size ≤ k_)) (fun _ => False) rfl rfl ?aP (fun _ hk => hk.elim) ?aF ?aO ?aB ?aS ?aL ?_; (case aP => exact rfl); (case aB => exact (by repeat (first | (with_reducible first | exact HB.out | apply below_alloc | apply pw_below_drewN | apply below_drew1) | exact HB.out))); (case aF => exact (fun k_ hk => (.inr (Nat.le_trans (by first | exact HK.out.1 | exact (show Kept w _ (fun k_ => P0_ k_) from by repeat (first | (with_reducible first | exact HK.out | apply Kept.alloc | apply Kept.drewN | apply Kept.drew) | exact HK.out)).1) hk)))); (case aO => exact (by (with_reducible repeat (first | apply Kd.R_alloc | apply Kd.R_drewN | apply Kd.R_drew)); exact HO_0.out)); (case aS => exact (below_size (by repeat (first | (with_reducible first | exact HB.out | apply below_alloc | apply pw_below_drewN | apply below_drew1) | exact HB.out)))); (case aL => have := LMc9.out; omega); intro v194 w23 ho hb hg hat; rw [← Ny193.out] at ho; have n0_ := Aside0.mk (hb); have n1_ := Aside0.mk (Kept.of_grown (S := (fun k_ => P0_ k_)) hg (by repeat (first | (with_reducible first | exact HK.out | apply Kept.alloc | apply Kept.drewN | apply Kept.drew) | exact HK.out)) (fun k_ e_ => (HO_0.out.1 k_ e_))); have n2_ := Aside0.mk (ho); clear HB; clear HK; clear HO_0; have HB := n0_; have HK := n1_; have HO195 := n2_; clear n0_ n1_ n2_; clear ho hb hg hat; have p196 : 0 ≤ (x5_1 : Int) := of_decide_eq_true (by first | (with_reducible assumption) | assumption); have q196 : x5_1 < (l1.length : Int) := of_decide_eq_true (by first | (with_reducible assumption) | assumption); obtain ⟨ad196, e196, hx196_0⟩ := Kd.at_int (Kd.C_kept_now HR1.out HK.out) x5_1 p196 q196; obtain rfl : ad191 = ad196 := (by injection e196); replace p196 := eq_true p196; replace q196 := eq_true q196))
                  go_roundg k1
                  case measure => have := HK1.out; omega
                  case rel => exact ⟨(y193), (wrap64 (x5_1 + 1)), (by first | rfl | (simp; done) | (simp [*]; done)), H', ⟨by have := HK1.out; omega⟩, ⟨by (with_reducible repeat (first | apply Kd.R_alloc | apply Kd.R_drewN | apply Kd.R_drew)); exact HO195.out⟩, ⟨by repeat (first | (with_reducible first | exact HK.out | apply Kept.alloc | apply Kept.drewN | apply Kept.drew) | exact HK.out)⟩, ⟨by repeat (first | (with_reducible first | exact HB.out | apply below_alloc | apply pw_below_drewN | apply below_drew1) | exact HB.out)⟩⟩
              · rw [if_neg c9] at H
                exact absurd H (by simp)
            · rw [if_neg c8] at H
              have c8b0 : decide (32 < (rd l1 x5_1)) = false := decide_eq_false c8
              clear c8
              have H' := Aside0.mk H
              clear H
              have p191 : 0 ≤ (x5_1 : Int) := of_decide_eq_true (by first | (with_reducible assumption) | assumption)
              have q191 : x5_1 < (l1.length : Int) := of_decide_eq_true (by first | (with_reducible assumption) | assumption)
              obtain ⟨ad191, e191, hx191_0⟩ := Kd.at_int (Kd.C_kept_now HR1.out HK.out) x5_1 p191 q191
              cases e191
              replace p191 := eq_true p191
              replace q191 := eq_true q191
              go_wp2
              go_roundg k1
              case measure => have := HK1.out; omega
              case rel => exact ⟨(x0_1), (wrap64 (x5_1 + 1)), (by first | rfl | (simp; done) | (simp [*]; done)), H', ⟨by have := HK1.out; omega⟩, ⟨by (with_reducible repeat (first | apply Kd.R_alloc | apply Kd.R_drewN | apply Kd.R_drew)); exact HO_0.out⟩, ⟨by repeat (first | (with_reducible first | exact HK.out | apply Kept.alloc | apply Kept.drewN | apply Kept.drew) | exact HK.out)⟩, ⟨by repeat (first | (with_reducible first | exact HB.out | apply below_alloc | apply pw_below_drewN | apply below_drew1) | exact HB.out)⟩⟩
          · rw [if_neg c7] at H
            exact absurd H (by simp)
        · rw [if_neg c6] at H
          have c6b0 : decide (x5_1 < (l1.length : Int)) = false := decide_eq_false c6
          clear c6
          obtain rfl := Option.some.inj H
          go_wp2
          go_ret
          exact ⟨_, by first | rfl | (simp [errW_none, errW_some] <;> rfl) | (simp [*, errW_none, errW_some] <;> rfl), by (with_reducible repeat (first | apply Kd.R_alloc | apply Kd.R_drewN | apply Kd.R_drew)); exact HO_0.out, by repeat (first | (with_reducible first | exact HB.out | apply below_alloc | apply pw_below_drewN | apply below_drew1) | exact HB.out), by repeat (first | (with_reducible first | exact HK.out | apply Kept.alloc | apply Kept.drewN | apply Kept.drew) | exact HK.out)⟩
  · rw [if_neg c3] at H
    exact absurd H (by simp)

-- NOT PRINTED: function 20 (pretty_Ugly)

-- NOT PRINTED: function 12 (impl_PrUgly)

-- NOT PRINTED: function 21 (spec_bareTo)

-- NOT PRINTED: function 13 (spec_Bare)

-- NOT PRINTED: function 5 (laws_FnPrUgly)

end Go.Proofs.Ytbnogfljakmfgaa.PFnPrUgly
