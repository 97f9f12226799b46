/- The thin package's Bool, Int, Uint, Float of a Result; the law FnGjResultWords. -/
import Derived.Test.YtifclloiafphgaaDoorRwA
set_option linter.unusedVariables false
namespace Go.Proofs.YtifclloiafphgaaDoor.ResA
open Go.Proofs.YtifclloiafphgaaDoor.Aid Go.RowKit Go.Proofs.YtifclloiafphgaaDoorW.PrintWords Go.Proofs.YtifclloiafphgaaDoorW.PrintLast Go.Proofs.YtifclloiafphgaaDoorW.PrintMore
attribute [local go_sem] run_store_float'
/-- The box of a Result. -/
def Bx (w W : World) (k : Int) (raw str : ByteArray) (num : Nat) (ex : Bool) : Prop := W.heap[w.heap.size]? = some (.cells #[.int .i64 k, .string raw, .string str, .float .f64 num, .bool ex] 24 (0, 0)) ∧ Below w.heap.size w W
theorem Bx.start (w : World) (k : Int) (raw str : ByteArray) (num : Nat) (ex : Bool) : Bx w (w.alloc (.cells #[.int .i64 k, .string raw, .string str, .float .f64 num, .bool ex] 24)) k raw str num ex := ⟨blk_new _ _, below_alloc (Below.refl _ _) _⟩
theorem Bx.below {w W W' : World} {k : Int} {raw str : ByteArray} {num : Nat} {ex : Bool} (h : Bx w W k raw str num ex) (b : Below W.heap.size W W') : Bx w W' k raw str num ex := ⟨blk_below h.1 b, below_step h.2 b⟩
theorem Bx.cells {w W : World} {k : Int} {raw str : ByteArray} {num : Nat} {ex : Bool} (h : Bx w W k raw str num ex) : W.cell? ⟨w.heap.size, 0, none⟩ = some (.int .i64 k) ∧ W.cell? ⟨w.heap.size, 1, none⟩ = some (.string raw) ∧ W.cell? ⟨w.heap.size, 2, none⟩ = some (.string str) ∧ W.cell? ⟨w.heap.size, 3, none⟩ = some (.float .f64 num) ∧ W.cell? ⟨w.heap.size, 4, none⟩ = some (.bool ex) :=
  ⟨(blk_cell h.1 0).trans rfl, (blk_cell h.1 1).trans rfl, (blk_cell h.1 2).trans rfl, (blk_cell h.1 3).trans rfl, (blk_cell h.1 4).trans rfl⟩
set_option maxHeartbeats 4000000 in
set_option maxRecDepth 100000 in
theorem gbool_any (k : Int) (raw str : ByteArray) (num : Nat) (ex : Bool) (w : World) (hk : Wd k) :
    Calls Tryd.prog 5 #[.agg #[.int .i64 k, .string raw, .string str, .float .f64 num, .bool ex]] w fun e w' => e = .returned (.bool (k == 4)) ∧ Below w.heap.size w w' := by
  have HB := Lib.hid (Bx.start w k raw str num ex)
  have HG := Lib.hid (fun W => gjOf_any k raw str num ex W)
  have HM := Lib.hid (fun W => rbool_any k raw str num W hk)
  obtain ⟨r, hr⟩ : ∃ r, r = (.bool (k == 4) : Value) := ⟨_, rfl⟩
  rw [← hr] at HM ⊢
  clear hk hr
  go_enter Tryd.func5, Tryd.ntmps5
  go_wp2_with (first
    | (go_at_call 9; refine (HG.out _).mono ?_; rintro e w1 ⟨rfl, hb⟩; replace HB := Lib.hid (HB.out.below hb); clear hb)
    | (go_at_call 10; refine (HM.out _).mono ?_; rintro e w1 ⟨rfl, hb⟩; replace HB := Lib.hid (HB.out.below hb); clear hb))
  go_ret
  exact ⟨rfl, HB.out.2⟩
set_option maxHeartbeats 4000000 in
set_option maxRecDepth 100000 in
theorem gint_any (k : Int) (raw str : ByteArray) (num : Nat) (ex : Bool) (w : World) (hk : Wd k) :
    Calls Tryd.prog 6 #[.agg #[.int .i64 k, .string raw, .string str, .float .f64 num, .bool ex]] w fun e w' => e = .returned (.int .i64 (if k = 4 then 1 else 0)) ∧ Below w.heap.size w w' := by
  have HB := Lib.hid (Bx.start w k raw str num ex)
  have HG := Lib.hid (fun W => gjOf_any k raw str num ex W)
  have HM := Lib.hid (fun W => rint_any k raw str num W hk)
  obtain ⟨r, hr⟩ : ∃ r, r = (.int .i64 (if k = 4 then 1 else 0) : Value) := ⟨_, rfl⟩
  rw [← hr] at HM ⊢
  clear hk hr
  go_enter Tryd.func6, Tryd.ntmps6
  go_wp2_with (first
    | (go_at_call 9; refine (HG.out _).mono ?_; rintro e w1 ⟨rfl, hb⟩; replace HB := Lib.hid (HB.out.below hb); clear hb)
    | (go_at_call 11; refine (HM.out _).mono ?_; rintro e w1 ⟨rfl, hb⟩; replace HB := Lib.hid (HB.out.below hb); clear hb))
  go_ret
  exact ⟨rfl, HB.out.2⟩
set_option maxHeartbeats 4000000 in
set_option maxRecDepth 100000 in
theorem guint_any (k : Int) (raw str : ByteArray) (num : Nat) (ex : Bool) (w : World) (hk : Wd k) :
    Calls Tryd.prog 7 #[.agg #[.int .i64 k, .string raw, .string str, .float .f64 num, .bool ex]] w fun e w' => e = .returned (.int .u64 (if k = 4 then 1 else 0)) ∧ Below w.heap.size w w' := by
  have HB := Lib.hid (Bx.start w k raw str num ex)
  have HG := Lib.hid (fun W => gjOf_any k raw str num ex W)
  have HM := Lib.hid (fun W => ruint_any k raw str num W hk)
  obtain ⟨r, hr⟩ : ∃ r, r = (.int .u64 (if k = 4 then 1 else 0) : Value) := ⟨_, rfl⟩
  rw [← hr] at HM ⊢
  clear hk hr
  go_enter Tryd.func7, Tryd.ntmps7
  go_wp2_with (first
    | (go_at_call 9; refine (HG.out _).mono ?_; rintro e w1 ⟨rfl, hb⟩; replace HB := Lib.hid (HB.out.below hb); clear hb)
    | (go_at_call 12; refine (HM.out _).mono ?_; rintro e w1 ⟨rfl, hb⟩; replace HB := Lib.hid (HB.out.below hb); clear hb))
  go_ret
  exact ⟨rfl, HB.out.2⟩
set_option maxHeartbeats 4000000 in
set_option maxRecDepth 100000 in
theorem gfloat_any (k : Int) (raw str : ByteArray) (num : Nat) (ex : Bool) (w : World) (hk : Wd k) :
    Calls Tryd.prog 8 #[.agg #[.int .i64 k, .string raw, .string str, .float .f64 num, .bool ex]] w fun e w' => e = .returned (.float .f64 (if k = 4 then one else 0)) ∧ Below w.heap.size w w' := by
  have HB := Lib.hid (Bx.start w k raw str num ex)
  have HG := Lib.hid (fun W => gjOf_any k raw str num ex W)
  have HM := Lib.hid (fun W => rfloat_any k raw str num W hk)
  obtain ⟨r, hr⟩ : ∃ r, r = (.float .f64 (if k = 4 then one else 0) : Value) := ⟨_, rfl⟩
  rw [← hr] at HM ⊢
  clear hk hr
  go_enter Tryd.func8, Tryd.ntmps8
  go_wp2_with (first
    | (go_at_call 9; refine (HG.out _).mono ?_; rintro e w1 ⟨rfl, hb⟩; replace HB := Lib.hid (HB.out.below hb); clear hb)
    | (go_at_call 13; refine (HM.out _).mono ?_; rintro e w1 ⟨rfl, hb⟩; replace HB := Lib.hid (HB.out.below hb); clear hb))
  go_ret
  exact ⟨rfl, HB.out.2⟩
set_option maxHeartbeats 4000000 in
set_option maxRecDepth 100000 in
theorem law_any (k : Int) (raw str : ByteArray) (num : Nat) (ex : Bool) (w : World) (h1 : raw.size ≤ 140737488351232) (h2 : str.size ≤ 140737488351232) :
    Calls Tryd.prog 3 #[.agg #[.int .i64 k, .string raw, .string str, .float .f64 num, .bool ex]] w fun e w' => e = .returned (.bool true) ∧ Below w.heap.size w w' := by
  have HB := Lib.hid (Bx.start w k raw str num ex)
  have HF := Lib.hid (fun W => fits_any k raw str num ex W)
  obtain ⟨ft, hft⟩ : ∃ b, b = (decide ((raw.size : Int) ≤ 2147483647) && decide ((str.size : Int) ≤ 2147483647)) := ⟨_, rfl⟩
  rw [← hft] at HF
  clear hft
  obtain ⟨c0, c1, c2, c3, c4⟩ := HB.out.cells
  cases ft with
  | false =>
    go_enter Tryd.func3, Tryd.ntmps3
    go_wp2_with (first
      | (go_at_call 4; refine (HF.out _).mono ?_; rintro e w1 ⟨rfl, hb⟩; replace HB := Lib.hid (HB.out.below hb); obtain ⟨c0, c1, c2, c3, c4⟩ := HB.out.cells; clear hb))
    go_ret
    exact ⟨rfl, HB.out.2⟩
  | true =>
  by_cases hk : Wd k
  · have H5 := Lib.hid (fun W => gbool_any k raw str num ex W hk)
    have H6 := Lib.hid (fun W => gint_any k raw str num ex W hk)
    have H7 := Lib.hid (fun W => guint_any k raw str num ex W hk)
    have H8 := Lib.hid (fun W => gfloat_any k raw str num ex W hk)
    unfold one at H8
    rcases hk with rfl | rfl | rfl
    all_goals
      go_enter Tryd.func3, Tryd.ntmps3
      go_wp2_with (first
        | (go_at_call 4; refine (HF.out _).mono ?_; rintro e w1 ⟨rfl, hb⟩; replace HB := Lib.hid (HB.out.below hb); obtain ⟨c0, c1, c2, c3, c4⟩ := HB.out.cells; clear hb)
        | (go_at_call 5; refine (H5.out _).mono ?_; rintro e w1 ⟨rfl, hb⟩; replace HB := Lib.hid (HB.out.below hb); obtain ⟨c0, c1, c2, c3, c4⟩ := HB.out.cells; clear hb)
        | (go_at_call 6; refine (H6.out _).mono ?_; rintro e w1 ⟨rfl, hb⟩; replace HB := Lib.hid (HB.out.below hb); obtain ⟨c0, c1, c2, c3, c4⟩ := HB.out.cells; clear hb)
        | (go_at_call 7; refine (H7.out _).mono ?_; rintro e w1 ⟨rfl, hb⟩; replace HB := Lib.hid (HB.out.below hb); obtain ⟨c0, c1, c2, c3, c4⟩ := HB.out.cells; clear hb)
        | (go_at_call 8; refine (H8.out _).mono ?_; rintro e w1 ⟨rfl, hb⟩; replace HB := Lib.hid (HB.out.below hb); obtain ⟨c0, c1, c2, c3, c4⟩ := HB.out.cells; clear hb))
      go_ret
      exact ⟨by first | rfl | simp | kernel_rfl, HB.out.2⟩
  · unfold Wd at hk
    have b0 : (k != 0) = true := bne_iff_ne.mpr (fun h => hk (.inl h))
    have b1 : (k != 1) = true := bne_iff_ne.mpr (fun h => hk (.inr (.inl h)))
    have b4 : (k != 4) = true := bne_iff_ne.mpr (fun h => hk (.inr (.inr h)))
    clear hk
    go_enter Tryd.func3, Tryd.ntmps3
    go_wp2_with (first
      | (go_at_call 4; refine (HF.out _).mono ?_; rintro e w1 ⟨rfl, hb⟩; replace HB := Lib.hid (HB.out.below hb); obtain ⟨c0, c1, c2, c3, c4⟩ := HB.out.cells; clear hb))
    go_ret
    exact ⟨rfl, HB.out.2⟩
end Go.Proofs.YtifclloiafphgaaDoor.ResA
