/- The law FnGjMatchesTilde. -/
import Derived.Test.YtcalcdjpinadkaaDoorTdD
import Derived.Deep.RegionHeld3
import Derived.Deep.DeepCutAuto
import Derived.Deep.LoopGhost
set_option linter.unusedVariables false
set_option linter.unusedSimpArgs false
namespace Go.Proofs.YtcalcdjpinadkaaDoor.ResA
open Go.Proofs.YtcalcdjpinadkaaDoor.Aid Go.RowKit Go.Proofs.YtcalcdjpinadkaaDoorW.PrintWords Go.Proofs.YtcalcdjpinadkaaDoorW.PrintLast Go.Proofs.YtcalcdjpinadkaaDoorW.PrintMore Go.Proofs.YtcalcdjpinadkaaDoor.PFnGjMatchesTilde
attribute [local go_sem] run_store_float'
abbrev Box (W : World) (A : Nat) (k : Int) (raw str : ByteArray) (num : Nat) (e : Bool) : Prop := W.heap[A]? = some (.cells #[.int .i64 k, .string raw, .string str, .float .f64 num, .bool e] 24 (0, 0))
theorem Box.cells {W : World} {A : Nat} {k : Int} {raw str : ByteArray} {num : Nat} {e : Bool} (h : Box W A k raw str num e) : W.cell? ⟨A, 0, none⟩ = some (.int .i64 k) ∧ W.cell? ⟨A, 1, none⟩ = some (.string raw) ∧ W.cell? ⟨A, 2, none⟩ = some (.string str) ∧ W.cell? ⟨A, 3, none⟩ = some (.float .f64 num) ∧ W.cell? ⟨A, 4, none⟩ = some (.bool e) :=
  ⟨(blk_cell h 0).trans rfl, (blk_cell h 1).trans rfl, (blk_cell h 2).trans rfl, (blk_cell h 3).trans rfl, (blk_cell h 4).trans rfl⟩
theorem cells6 {W : World} {A : Nat} {k : Int} {raw str : ByteArray} {num : Nat} {e : Bool} {Q : Prop} (h : Box W A k raw str num e) (q : Q) : W.cell? ⟨A, 0, none⟩ = some (.int .i64 k) ∧ W.cell? ⟨A, 1, none⟩ = some (.string raw) ∧ W.cell? ⟨A, 2, none⟩ = some (.string str) ∧ W.cell? ⟨A, 3, none⟩ = some (.float .f64 num) ∧ W.cell? ⟨A, 4, none⟩ = some (.bool e) ∧ Q :=
  ⟨h.cells.1, h.cells.2.1, h.cells.2.2.1, h.cells.2.2.2.1, h.cells.2.2.2.2, q⟩
abbrev Wds (W : World) (D : Nat) : Prop := W.heap[D]? = some (.cells #[.string ⟨#[126, 116, 114, 117, 101]⟩, .string ⟨#[126, 102, 97, 108, 115, 101]⟩, .string ⟨#[126, 110, 117, 108, 108]⟩, .string ⟨#[126, 42]⟩] 9 (0, 0))
structure Tw (w W : World) (A D X : Nat) (k : Int) (raw str : ByteArray) (num : Nat) (e vt vf vn : Bool) : Prop where
  bel : Below w.heap.size w W
  box : Box W A k raw str num e
  words : Wds W D
  bools : W.heap[X]? = some (.cells #[.bool vt, .bool vf, .bool vn, .bool e] 4 (0, 0))
theorem Tw.below {w W W' : World} {A D X : Nat} {k : Int} {raw str : ByteArray} {num : Nat} {e vt vf vn : Bool} (h : Tw w W A D X k raw str num e vt vf vn) (b : Below W.heap.size W W') : Tw w W' A D X k raw str num e vt vf vn :=
  ⟨below_step h.bel b, blk_below h.box b, blk_below h.words b, blk_below h.bools b⟩
set_option maxHeartbeats 8000000 in
set_option maxRecDepth 100000 in
theorem law_any (k : Int) (raw str : ByteArray) (num : Nat) (ex : Bool) (w : World) (hE : ErrV w) (h1 : raw.size ≤ 140737488351232) (h2 : str.size ≤ 140737488351232) :
    Calls Tryd.prog 6 #[.agg #[.int .i64 k, .string raw, .string str, .float .f64 num, .bool ex]] w fun e w' => e = .returned (.bool true) ∧ Below w.heap.size w w' := by
  have HF := Lib.hid (fun W => fits_any k raw str num ex W)
  obtain ⟨ft, hft⟩ : ∃ b, b = (decide ((raw.size : Int) ≤ 2147483647) && decide ((str.size : Int) ≤ 2147483647)) := ⟨_, rfl⟩
  rw [← hft] at HF
  obtain ⟨A, hA⟩ : ∃ A, A = w.heap.size := ⟨_, rfl⟩
  obtain ⟨w0, hw0⟩ : ∃ w0, w0 = w.alloc (.cells #[.int .i64 k, .string raw, .string str, .float .f64 num, .bool ex] 24) := ⟨_, rfl⟩
  have HB0 := Lib.hid (show Below w.heap.size w w0 by rw [hw0]; exact below_alloc (Below.refl _ _) _)
  have HX0 := Lib.hid (show Box w0 A k raw str num ex by rw [hw0, hA]; exact blk_new _ _)
  have HE := Lib.hid hE
  have HA := Lib.hid hA
  obtain ⟨c0, c1, c2, c3, c4⟩ := HX0.out.cells
  clear hE
  cases ft with
  | false =>
    clear hft
    go_enter Tryd.func6, Tryd.ntmps6
    go_upto_region 1 with (fail)
    rw [← hw0, ← hA]
    clear hw0 hA
    go_wp2_with (go_at_call 7; refine (HF.out _).mono ?_; rintro e w1 ⟨rfl, hb⟩; have HB := Lib.hid (below_step HB0.out hb); clear hb)
    go_ret
    exact ⟨rfl, HB.out⟩
  | true =>
  have hs : str.size ≤ 2147483647 := by
    have := hft.symm
    simp only [Bool.and_eq_true, decide_eq_true_eq] at this
    omega
  obtain ⟨r, hr, hlo⟩ := lower_ex str hs
  obtain ⟨b, ok, hpb⟩ := pb_ex r hr
  obtain ⟨e, he⟩ : ∃ e, e = (k != 0 || decide (raw.size ≠ 0)) := ⟨_, rfl⟩
  have HT := Lib.hid (fun W (hE : ErrV W) => gTrue_any k raw str r num e b ok hlo hpb W hE)
  have HFa := Lib.hid (fun W (hE : ErrV W) => gFalse_any k raw str r num e b ok hlo hpb W hE)
  have HN := Lib.hid (fun W (hE : ErrV W) => gNull_any k raw str r num e b ok hlo hpb W hE)
  obtain ⟨vt, hvt⟩ : ∃ v, v = trV k num b ok := ⟨_, rfl⟩
  obtain ⟨vf, hvf⟩ : ∃ v, v = faV k num b ok := ⟨_, rfl⟩
  obtain ⟨vn, hvn⟩ : ∃ v, v = (k == 0) := ⟨_, rfl⟩
  have M0e := Lib.hid (fun W (hE : ErrV W) => gm_any k raw str opEq wT num e _ ErrV (fun W W' h k => h.below k) (fun W A hq hE => qm_true_eq k raw str num _ (fun W hE => trueish_any k raw str r num b ok hlo hpb W hE) W A hq hE) W hE)
  have M0n := Lib.hid (fun W (hE : ErrV W) => gm_any k raw str opNe wT num e _ ErrV (fun W W' h k => h.below k) (fun W A hq hE => qm_true_ne k raw str num _ (fun W hE => trueish_any k raw str r num b ok hlo hpb W hE) W A hq hE) W hE)
  have M1e := Lib.hid (fun W (hE : ErrV W) => gm_any k raw str opEq wF num e _ ErrV (fun W W' h k => h.below k) (fun W A hq hE => qm_false_eq k raw str num _ (fun W hE => falseish_any k raw str r num b ok hlo hpb W hE) W A hq hE) W hE)
  have M1n := Lib.hid (fun W (hE : ErrV W) => gm_any k raw str opNe wF num e _ ErrV (fun W W' h k => h.below k) (fun W A hq hE => qm_false_ne k raw str num _ (fun W hE => falseish_any k raw str r num b ok hlo hpb W hE) W A hq hE) W hE)
  have M2e := Lib.hid (fun W (hE : ErrV W) => gm_any k raw str opEq wN num e _ ErrV (fun W W' h k => h.below k) (fun W A hq hE => qm_null_eq k raw str num _ (fun W => nullish_any k raw str num W) W A hq) W hE)
  have M2n := Lib.hid (fun W (hE : ErrV W) => gm_any k raw str opNe wN num e _ ErrV (fun W W' h k => h.below k) (fun W A hq hE => qm_null_ne k raw str num _ (fun W => nullish_any k raw str num W) W A hq) W hE)
  have M3e := Lib.hid (fun W (hE : ErrV W) => gm_any k raw str opEq wS num e _ ErrV (fun W W' h k => h.below k) (fun W A hq hE => qm_star_eq k raw str num _ (fun W => exists_any k raw str num W) W A hq) W hE)
  have M3n := Lib.hid (fun W (hE : ErrV W) => gm_any k raw str opNe wS num e _ ErrV (fun W W' h k => h.below k) (fun W A hq hE => qm_star_ne k raw str num _ (fun W => exists_any k raw str num W) W A hq) W hE)
  rw [← hvt] at HT M0e M0n
  rw [← hvf] at HFa M1e M1n
  rw [← hvn] at HN M2e M2n
  rw [← he] at M3e M3n
  unfold opEq wT at M0e
  unfold opNe wT at M0n
  unfold opEq wF at M1e
  unfold opNe wF at M1n
  unfold opEq wN at M2e
  unfold opNe wN at M2n
  unfold opEq wS at M3e
  unfold opNe wS at M3n
  have ek : ((k != 0) = true ∧ e = true) ∨ ((k != 0) = false ∧ Hid ((!raw.toList.isEmpty) = e)) := by
    cases hk : (k != 0) with
    | true => exact .inl ⟨rfl, by rw [he, hk]; rfl⟩
    | false =>
      refine .inr ⟨rfl, Lib.hid ?_⟩
      rw [he, hk, Bool.false_or, Bool.eq_iff_iff, Bool.not_eq_true', decide_eq_true_eq, ByteArray.toList_eq, List.isEmpty_eq_false_iff]
      constructor
      · intro h h0
        exact h (List.eq_nil_of_length_eq_zero (by rw [Array.length_toList]; exact h0))
      · intro h h0
        apply h
        have := congrArg List.length h0
        rw [Array.length_toList] at this
        exact this
  clear hvt hvf hvn he hft hlo hpb hr hs h1 h2
  rcases ek with ⟨ek, ee⟩ | ⟨ek, ee⟩
  case inl =>
    subst ee
    go_enter Tryd.func6, Tryd.ntmps6
    go_upto_region 1 with (fail)
    rw [← hw0, ← hA]
    clear hw0 hA
    go_upto_region 5 with (go_at_call 7; refine (HF.out _).mono ?_; rintro e w1 ⟨rfl, hb⟩; have HB := Lib.hid (below_step HB0.out hb); have HX := Lib.hid (blk_below HX0.out hb); obtain ⟨d0, d1, d2, d3, d4⟩ := Box.cells HX.out; have d5 := blk_frozen HX.out 4; clear hb)
    obtain ⟨D, hD⟩ : ∃ D, D = w1.heap.size := ⟨_, rfl⟩
    generalize hW4 : World.setCell w1 _ _ = W4
    have HX4 := Lib.hid (show Box W4 A k raw str num _ by rw [← hW4]; exact blk_set HX.out 4 _)
    have HB4 := Lib.hid (show Below w.heap.size w W4 by rw [← hW4]; exact below_set HB.out (Nat.le_of_eq HA.out.symm))
    have hD4 : D = W4.heap.size := by rw [← hW4, hD]; simp
    rw [← hD]
    generalize hW5 : World.alloc W4 _ = W5
    have HX5 := Lib.hid (show Box W5 A k raw str num _ by rw [← hW5]; exact blk_alloc HX4.out _)
    have HB5 := Lib.hid (show Below w.heap.size w W5 by rw [← hW5]; exact below_alloc HB4.out _)
    have HD5 := Lib.hid (show Wds W5 D by rw [← hW5, hD4]; exact blk_new _ _)
    clear hW5 hD4 hW4 hD HX4 HB4 HB HX d0 d1 d2 d3 d4 d5 HX0 HB0 c0 c1 c2 c3 c4 HF ek
    go_cut [1, 3, 27, 28, 29] (fun v1 v3 v27 v28 v29 W => Hid (∃ X, v1 = .pointer (some ⟨A, 0, none⟩) ∧ v3 = .slice (some ⟨D, 0, none⟩) 4 4 ∧ v27 = .slice (some ⟨X, 0, none⟩) 4 4 ∧ v28 = .int .i64 4 ∧ v29 = .int .i64 0 ∧ Tw w W A D X k raw str num true vt vf vn))
    case first =>
      have hx5 := HX5.out
      have hb5 := below_drew HB5.out
      have hd5 := HD5.out
      clear M0e M0n M1e M1n M2e M2n M3e M3n
      go_region_held3 (fun W => W.cell? ⟨A, 0, none⟩ = some (.int .i64 k) ∧ W.cell? ⟨A, 1, none⟩ = some (.string raw) ∧ W.cell? ⟨A, 2, none⟩ = some (.string str) ∧ W.cell? ⟨A, 3, none⟩ = some (.float .f64 num) ∧ W.cell? ⟨A, 4, none⟩ = some (.bool true)) (first | exact Box.cells (by assumption) | exact Box.cells (blk_alloc (by assumption) _)) ((first | (go_at_call 22; refine (HT.out _ (HE.out.below (by assumption))).mono ?_; rintro e' w6 ⟨rfl, hb⟩; have hbb : Below w.heap.size w w6 := below_step (by assumption) hb; have hxx : Box w6 A k raw str num true := blk_below (show Box _ A k raw str num true by assumption) hb; have hdd : Wds w6 D := blk_below (show Wds _ D by assumption) hb; clear hb) | (go_at_call 23; refine (HFa.out _ (HE.out.below (by assumption))).mono ?_; rintro e' w6 ⟨rfl, hb⟩; have hbb : Below w.heap.size w w6 := below_step (by assumption) hb; have hxx : Box w6 A k raw str num true := blk_below (show Box _ A k raw str num true by assumption) hb; have hdd : Wds w6 D := blk_below (show Wds _ D by assumption) hb; clear hb) | (go_at_call 24; refine (HN.out _ (HE.out.below (by assumption))).mono ?_; rintro e' w6 ⟨rfl, hb⟩; have hbb : Below w.heap.size w w6 := below_step (by assumption) hb; have hxx : Box w6 A k raw str num true := blk_below (show Box _ A k raw str num true by assumption) hb; have hdd : Wds w6 D := blk_below (show Wds _ D by assumption) hb; clear hb)))
      go_wp2
      go_meet
      case rel => exact Lib.hid ⟨_, rfl, rfl, rfl, rfl, rfl, ⟨below_alloc (by assumption) _, blk_alloc (by assumption) _, blk_alloc (show Wds _ D by assumption) _, blk_new _ _⟩⟩
    case rest =>
      obtain ⟨X, rfl, rfl, rfl, rfl, rfl, hT⟩ := hcut.out
      have HT5 := Lib.hid hT
      clear hcut hT HX5 HB5 HD5 HT HFa HN
      go_wp2
      go_loopg [29] 4 (fun kq v29 w' => Hid (∃ i : Nat, v29 = .int .i64 ((i : Nat) : Int) ∧ i + kq = 4 ∧ Tw w w' A D X k raw str num true vt vf vn))
      case atStart => exact Lib.hid ⟨0, rfl, rfl, HT5.out⟩
      case round =>
        obtain ⟨i, rfl, hi, hT⟩ := hrel.out
        clear hrel HT5
        have HT := Lib.hid hT
        have hx := hT.box
        have hd := hT.words
        have hb0 := hT.bel
        obtain ⟨x0, x1, x2, x3, x4⟩ := Box.cells hx
        clear hT
        rcases (show i = 0 ∨ i = 1 ∨ i = 2 ∨ i = 3 ∨ i = 4 by omega) with rfl | rfl | rfl | rfl | rfl
        · have z := (blk_cell HT.out.bools 0).trans rfl
          go_upto_region 8 with (fail)
          clear z x0 x1 x2 x3 x4 hx hd hb0
          refine wp_region_quiet (C := fun W => Tw w W A D X k raw str num true vt vf vn) (by kernel_rfl) (by kernel_rfl) ?_ ?_
          · exact HT.out.below (below_drew (Below.refl _ _))
          refine wpQuiet_step (fun K hK => ?_)
          rw [if_pos (by rfl)]
          refine quiet_val (.agg #[.int .i64 k, .string raw, .string str, .float .f64 num, .bool true]) ?_ (hK _ ?_)
          · intro W hW
            obtain ⟨x0, x1, x2, x3, x4⟩ := Box.cells hW.box
            clear hK
            go_simp
          simp only [Act.put, List.setIfInBounds_toArray, List.set_cons_zero, List.set_cons_succ]
          clear hK K
          refine wpQuiet_step (fun K hK => ?_)
          rw [if_pos (by rfl)]
          refine quiet_val (.slice (some ⟨D, 0, none⟩) 4 4) ?_ (hK _ ?_)
          · intro W hW
            clear hK
            go_simp
          simp only [Act.put, List.setIfInBounds_toArray, List.set_cons_zero, List.set_cons_succ]
          clear hK K
          refine wpQuiet_step (fun K hK => ?_)
          rw [if_pos (by rfl)]
          refine quiet_val (.int .i64 0) ?_ (hK _ ?_)
          · intro W hW
            clear hK
            go_simp
          simp only [Act.put, List.setIfInBounds_toArray, List.set_cons_zero, List.set_cons_succ]
          clear hK K
          refine wpQuiet_step (fun K hK => ?_)
          rw [if_pos (by rfl)]
          refine quiet_val (.pointer (some ⟨D, 0, none⟩)) ?_ (hK _ ?_)
          · intro W hW
            clear hK
            go_simp
          simp only [Act.put, List.setIfInBounds_toArray, List.set_cons_zero, List.set_cons_succ]
          clear hK K
          refine wpQuiet_step (fun K hK => ?_)
          rw [if_pos (by rfl)]
          refine quiet_val (.string ⟨#[126, 116, 114, 117, 101]⟩) ?_ (hK _ ?_)
          · intro W hW
            have y := (blk_cell hW.words 0).trans rfl
            clear hK
            go_simp
          simp only [Act.put, List.setIfInBounds_toArray, List.set_cons_zero, List.set_cons_succ]
          clear hK K
          refine wpQuiet_step (fun K hK => ?_)
          rw [if_pos (by rfl)]
          refine quiet_call 25 #[.agg #[.int .i64 k, .string raw, .string str, .float .f64 num, .bool true], .string ⟨#[61]⟩, .string ⟨#[126, 116, 114, 117, 101]⟩] (.bool (vt)) ?_ ?_ (hK _ ?_)
          · intro W hW
            clear hK
            go_simp
          · intro W hW
            refine (M0e.out W (HE.out.below hW.bel)).mono ?_
            rintro e w'' ⟨rfl, hb⟩
            exact ⟨rfl, hW.below hb⟩
          simp only [Act.put, List.setIfInBounds_toArray, List.set_cons_zero, List.set_cons_succ]
          clear hK K
          refine wpQuiet_step (fun K hK => ?_)
          rw [if_pos (by rfl)]
          refine quiet_val (.bool vt) ?_ (hK _ ?_)
          · intro W hW
            clear hK
            go_simp
          simp only [Act.put, List.setIfInBounds_toArray, List.set_cons_zero, List.set_cons_succ]
          clear hK K
          refine wpQuiet_step (fun K hK => ?_)
          rw [if_pos (by rfl)]
          refine quiet_val (.bool false) ?_ (hK _ ?_)
          · intro W hW
            clear hK
            go_simp
          simp only [Act.put, List.setIfInBounds_toArray, List.set_cons_zero, List.set_cons_succ]
          clear hK K
          refine wpQuiet_step (fun K hK => ?_)
          rw [if_pos (by rfl)]
          refine quiet_val (.bool false) ?_ (hK _ ?_)
          · intro W hW
            clear hK
            go_simp
          simp only [Act.put, List.setIfInBounds_toArray, List.set_cons_zero, List.set_cons_succ]
          clear hK K
          refine wpQuiet_step (fun K hK => ?_)
          rw [if_pos (by rfl)]
          refine quiet_val (.agg #[.int .i64 k, .string raw, .string str, .float .f64 num, .bool true]) ?_ (hK _ ?_)
          · intro W hW
            obtain ⟨x0, x1, x2, x3, x4⟩ := Box.cells hW.box
            clear hK
            go_simp
          simp only [Act.put, List.setIfInBounds_toArray, List.set_cons_zero, List.set_cons_succ]
          clear hK K
          refine wpQuiet_step (fun K hK => ?_)
          rw [if_pos (by rfl)]
          refine quiet_val (.slice (some ⟨D, 0, none⟩) 4 4) ?_ (hK _ ?_)
          · intro W hW
            clear hK
            go_simp
          simp only [Act.put, List.setIfInBounds_toArray, List.set_cons_zero, List.set_cons_succ]
          clear hK K
          refine wpQuiet_step (fun K hK => ?_)
          rw [if_pos (by rfl)]
          refine quiet_val (.int .i64 0) ?_ (hK _ ?_)
          · intro W hW
            clear hK
            go_simp
          simp only [Act.put, List.setIfInBounds_toArray, List.set_cons_zero, List.set_cons_succ]
          clear hK K
          refine wpQuiet_step (fun K hK => ?_)
          rw [if_pos (by rfl)]
          refine quiet_val (.pointer (some ⟨D, 0, none⟩)) ?_ (hK _ ?_)
          · intro W hW
            clear hK
            go_simp
          simp only [Act.put, List.setIfInBounds_toArray, List.set_cons_zero, List.set_cons_succ]
          clear hK K
          refine wpQuiet_step (fun K hK => ?_)
          rw [if_pos (by rfl)]
          refine quiet_val (.string ⟨#[126, 116, 114, 117, 101]⟩) ?_ (hK _ ?_)
          · intro W hW
            have y := (blk_cell hW.words 0).trans rfl
            clear hK
            go_simp
          simp only [Act.put, List.setIfInBounds_toArray, List.set_cons_zero, List.set_cons_succ]
          clear hK K
          refine wpQuiet_step (fun K hK => ?_)
          rw [if_pos (by rfl)]
          refine quiet_call 25 #[.agg #[.int .i64 k, .string raw, .string str, .float .f64 num, .bool true], .string ⟨#[33, 61]⟩, .string ⟨#[126, 116, 114, 117, 101]⟩] (.bool (!vt)) ?_ ?_ (hK _ ?_)
          · intro W hW
            clear hK
            go_simp
          · intro W hW
            refine (M0n.out W (HE.out.below hW.bel)).mono ?_
            rintro e w'' ⟨rfl, hb⟩
            exact ⟨rfl, hW.below hb⟩
          simp only [Act.put, List.setIfInBounds_toArray, List.set_cons_zero, List.set_cons_succ]
          clear hK K
          refine wpQuiet_step (fun K hK => ?_)
          rw [if_pos (by rfl)]
          refine quiet_val (.bool vt) ?_ (hK _ ?_)
          · intro W hW
            clear hK
            go_simp
          simp only [Act.put, List.setIfInBounds_toArray, List.set_cons_zero, List.set_cons_succ]
          clear hK K
          refine wpQuiet_step (fun K hK => ?_)
          rw [if_pos (by rfl)]
          refine quiet_val (.bool false) ?_ (hK _ ?_)
          · intro W hW
            clear hK
            go_simp
          simp only [Act.put, List.setIfInBounds_toArray, List.set_cons_zero, List.set_cons_succ]
          clear hK K
          refine wpQuiet_step (fun K hK => ?_)
          rw [if_pos (by rfl)]
          refine quiet_val (.bool false) ?_ (hK _ ?_)
          · intro W hW
            clear hK
            go_simp
          simp only [Act.put, List.setIfInBounds_toArray, List.set_cons_zero, List.set_cons_succ]
          clear hK K
          refine wpQuiet_nil ?_
          intro W8 hT8
          have HT8 := Lib.hid hT8
          clear hT8 HT
          go_wp2
          go_roundg (3 - 0)
          case rel => exact Lib.hid ⟨1, rfl, by omega, HT8.out⟩
          case measure => omega
        · have z := (blk_cell HT.out.bools 1).trans rfl
          go_upto_region 8 with (fail)
          clear z x0 x1 x2 x3 x4 hx hd hb0
          refine wp_region_quiet (C := fun W => Tw w W A D X k raw str num true vt vf vn) (by kernel_rfl) (by kernel_rfl) ?_ ?_
          · exact HT.out.below (below_drew (Below.refl _ _))
          refine wpQuiet_step (fun K hK => ?_)
          rw [if_pos (by rfl)]
          refine quiet_val (.agg #[.int .i64 k, .string raw, .string str, .float .f64 num, .bool true]) ?_ (hK _ ?_)
          · intro W hW
            obtain ⟨x0, x1, x2, x3, x4⟩ := Box.cells hW.box
            clear hK
            go_simp
          simp only [Act.put, List.setIfInBounds_toArray, List.set_cons_zero, List.set_cons_succ]
          clear hK K
          refine wpQuiet_step (fun K hK => ?_)
          rw [if_pos (by rfl)]
          refine quiet_val (.slice (some ⟨D, 0, none⟩) 4 4) ?_ (hK _ ?_)
          · intro W hW
            clear hK
            go_simp
          simp only [Act.put, List.setIfInBounds_toArray, List.set_cons_zero, List.set_cons_succ]
          clear hK K
          refine wpQuiet_step (fun K hK => ?_)
          rw [if_pos (by rfl)]
          refine quiet_val (.int .i64 1) ?_ (hK _ ?_)
          · intro W hW
            clear hK
            go_simp
          simp only [Act.put, List.setIfInBounds_toArray, List.set_cons_zero, List.set_cons_succ]
          clear hK K
          refine wpQuiet_step (fun K hK => ?_)
          rw [if_pos (by rfl)]
          refine quiet_val (.pointer (some ⟨D, 1, none⟩)) ?_ (hK _ ?_)
          · intro W hW
            clear hK
            go_simp
          simp only [Act.put, List.setIfInBounds_toArray, List.set_cons_zero, List.set_cons_succ]
          clear hK K
          refine wpQuiet_step (fun K hK => ?_)
          rw [if_pos (by rfl)]
          refine quiet_val (.string ⟨#[126, 102, 97, 108, 115, 101]⟩) ?_ (hK _ ?_)
          · intro W hW
            have y := (blk_cell hW.words 1).trans rfl
            clear hK
            go_simp
          simp only [Act.put, List.setIfInBounds_toArray, List.set_cons_zero, List.set_cons_succ]
          clear hK K
          refine wpQuiet_step (fun K hK => ?_)
          rw [if_pos (by rfl)]
          refine quiet_call 25 #[.agg #[.int .i64 k, .string raw, .string str, .float .f64 num, .bool true], .string ⟨#[61]⟩, .string ⟨#[126, 102, 97, 108, 115, 101]⟩] (.bool (vf)) ?_ ?_ (hK _ ?_)
          · intro W hW
            clear hK
            go_simp
          · intro W hW
            refine (M1e.out W (HE.out.below hW.bel)).mono ?_
            rintro e w'' ⟨rfl, hb⟩
            exact ⟨rfl, hW.below hb⟩
          simp only [Act.put, List.setIfInBounds_toArray, List.set_cons_zero, List.set_cons_succ]
          clear hK K
          refine wpQuiet_step (fun K hK => ?_)
          rw [if_pos (by rfl)]
          refine quiet_val (.bool vf) ?_ (hK _ ?_)
          · intro W hW
            clear hK
            go_simp
          simp only [Act.put, List.setIfInBounds_toArray, List.set_cons_zero, List.set_cons_succ]
          clear hK K
          refine wpQuiet_step (fun K hK => ?_)
          rw [if_pos (by rfl)]
          refine quiet_val (.bool false) ?_ (hK _ ?_)
          · intro W hW
            clear hK
            go_simp
          simp only [Act.put, List.setIfInBounds_toArray, List.set_cons_zero, List.set_cons_succ]
          clear hK K
          refine wpQuiet_step (fun K hK => ?_)
          rw [if_pos (by rfl)]
          refine quiet_val (.bool false) ?_ (hK _ ?_)
          · intro W hW
            clear hK
            go_simp
          simp only [Act.put, List.setIfInBounds_toArray, List.set_cons_zero, List.set_cons_succ]
          clear hK K
          refine wpQuiet_step (fun K hK => ?_)
          rw [if_pos (by rfl)]
          refine quiet_val (.agg #[.int .i64 k, .string raw, .string str, .float .f64 num, .bool true]) ?_ (hK _ ?_)
          · intro W hW
            obtain ⟨x0, x1, x2, x3, x4⟩ := Box.cells hW.box
            clear hK
            go_simp
          simp only [Act.put, List.setIfInBounds_toArray, List.set_cons_zero, List.set_cons_succ]
          clear hK K
          refine wpQuiet_step (fun K hK => ?_)
          rw [if_pos (by rfl)]
          refine quiet_val (.slice (some ⟨D, 0, none⟩) 4 4) ?_ (hK _ ?_)
          · intro W hW
            clear hK
            go_simp
          simp only [Act.put, List.setIfInBounds_toArray, List.set_cons_zero, List.set_cons_succ]
          clear hK K
          refine wpQuiet_step (fun K hK => ?_)
          rw [if_pos (by rfl)]
          refine quiet_val (.int .i64 1) ?_ (hK _ ?_)
          · intro W hW
            clear hK
            go_simp
          simp only [Act.put, List.setIfInBounds_toArray, List.set_cons_zero, List.set_cons_succ]
          clear hK K
          refine wpQuiet_step (fun K hK => ?_)
          rw [if_pos (by rfl)]
          refine quiet_val (.pointer (some ⟨D, 1, none⟩)) ?_ (hK _ ?_)
          · intro W hW
            clear hK
            go_simp
          simp only [Act.put, List.setIfInBounds_toArray, List.set_cons_zero, List.set_cons_succ]
          clear hK K
          refine wpQuiet_step (fun K hK => ?_)
          rw [if_pos (by rfl)]
          refine quiet_val (.string ⟨#[126, 102, 97, 108, 115, 101]⟩) ?_ (hK _ ?_)
          · intro W hW
            have y := (blk_cell hW.words 1).trans rfl
            clear hK
            go_simp
          simp only [Act.put, List.setIfInBounds_toArray, List.set_cons_zero, List.set_cons_succ]
          clear hK K
          refine wpQuiet_step (fun K hK => ?_)
          rw [if_pos (by rfl)]
          refine quiet_call 25 #[.agg #[.int .i64 k, .string raw, .string str, .float .f64 num, .bool true], .string ⟨#[33, 61]⟩, .string ⟨#[126, 102, 97, 108, 115, 101]⟩] (.bool (!vf)) ?_ ?_ (hK _ ?_)
          · intro W hW
            clear hK
            go_simp
          · intro W hW
            refine (M1n.out W (HE.out.below hW.bel)).mono ?_
            rintro e w'' ⟨rfl, hb⟩
            exact ⟨rfl, hW.below hb⟩
          simp only [Act.put, List.setIfInBounds_toArray, List.set_cons_zero, List.set_cons_succ]
          clear hK K
          refine wpQuiet_step (fun K hK => ?_)
          rw [if_pos (by rfl)]
          refine quiet_val (.bool vf) ?_ (hK _ ?_)
          · intro W hW
            clear hK
            go_simp
          simp only [Act.put, List.setIfInBounds_toArray, List.set_cons_zero, List.set_cons_succ]
          clear hK K
          refine wpQuiet_step (fun K hK => ?_)
          rw [if_pos (by rfl)]
          refine quiet_val (.bool false) ?_ (hK _ ?_)
          · intro W hW
            clear hK
            go_simp
          simp only [Act.put, List.setIfInBounds_toArray, List.set_cons_zero, List.set_cons_succ]
          clear hK K
          refine wpQuiet_step (fun K hK => ?_)
          rw [if_pos (by rfl)]
          refine quiet_val (.bool false) ?_ (hK _ ?_)
          · intro W hW
            clear hK
            go_simp
          simp only [Act.put, List.setIfInBounds_toArray, List.set_cons_zero, List.set_cons_succ]
          clear hK K
          refine wpQuiet_nil ?_
          intro W8 hT8
          have HT8 := Lib.hid hT8
          clear hT8 HT
          go_wp2
          go_roundg (3 - 1)
          case rel => exact Lib.hid ⟨2, rfl, by omega, HT8.out⟩
          case measure => omega
        · have z := (blk_cell HT.out.bools 2).trans rfl
          go_upto_region 8 with (fail)
          clear z x0 x1 x2 x3 x4 hx hd hb0
          refine wp_region_quiet (C := fun W => Tw w W A D X k raw str num true vt vf vn) (by kernel_rfl) (by kernel_rfl) ?_ ?_
          · exact HT.out.below (below_drew (Below.refl _ _))
          refine wpQuiet_step (fun K hK => ?_)
          rw [if_pos (by rfl)]
          refine quiet_val (.agg #[.int .i64 k, .string raw, .string str, .float .f64 num, .bool true]) ?_ (hK _ ?_)
          · intro W hW
            obtain ⟨x0, x1, x2, x3, x4⟩ := Box.cells hW.box
            clear hK
            go_simp
          simp only [Act.put, List.setIfInBounds_toArray, List.set_cons_zero, List.set_cons_succ]
          clear hK K
          refine wpQuiet_step (fun K hK => ?_)
          rw [if_pos (by rfl)]
          refine quiet_val (.slice (some ⟨D, 0, none⟩) 4 4) ?_ (hK _ ?_)
          · intro W hW
            clear hK
            go_simp
          simp only [Act.put, List.setIfInBounds_toArray, List.set_cons_zero, List.set_cons_succ]
          clear hK K
          refine wpQuiet_step (fun K hK => ?_)
          rw [if_pos (by rfl)]
          refine quiet_val (.int .i64 2) ?_ (hK _ ?_)
          · intro W hW
            clear hK
            go_simp
          simp only [Act.put, List.setIfInBounds_toArray, List.set_cons_zero, List.set_cons_succ]
          clear hK K
          refine wpQuiet_step (fun K hK => ?_)
          rw [if_pos (by rfl)]
          refine quiet_val (.pointer (some ⟨D, 2, none⟩)) ?_ (hK _ ?_)
          · intro W hW
            clear hK
            go_simp
          simp only [Act.put, List.setIfInBounds_toArray, List.set_cons_zero, List.set_cons_succ]
          clear hK K
          refine wpQuiet_step (fun K hK => ?_)
          rw [if_pos (by rfl)]
          refine quiet_val (.string ⟨#[126, 110, 117, 108, 108]⟩) ?_ (hK _ ?_)
          · intro W hW
            have y := (blk_cell hW.words 2).trans rfl
            clear hK
            go_simp
          simp only [Act.put, List.setIfInBounds_toArray, List.set_cons_zero, List.set_cons_succ]
          clear hK K
          refine wpQuiet_step (fun K hK => ?_)
          rw [if_pos (by rfl)]
          refine quiet_call 25 #[.agg #[.int .i64 k, .string raw, .string str, .float .f64 num, .bool true], .string ⟨#[61]⟩, .string ⟨#[126, 110, 117, 108, 108]⟩] (.bool (vn)) ?_ ?_ (hK _ ?_)
          · intro W hW
            clear hK
            go_simp
          · intro W hW
            refine (M2e.out W (HE.out.below hW.bel)).mono ?_
            rintro e w'' ⟨rfl, hb⟩
            exact ⟨rfl, hW.below hb⟩
          simp only [Act.put, List.setIfInBounds_toArray, List.set_cons_zero, List.set_cons_succ]
          clear hK K
          refine wpQuiet_step (fun K hK => ?_)
          rw [if_pos (by rfl)]
          refine quiet_val (.bool vn) ?_ (hK _ ?_)
          · intro W hW
            clear hK
            go_simp
          simp only [Act.put, List.setIfInBounds_toArray, List.set_cons_zero, List.set_cons_succ]
          clear hK K
          refine wpQuiet_step (fun K hK => ?_)
          rw [if_pos (by rfl)]
          refine quiet_val (.bool false) ?_ (hK _ ?_)
          · intro W hW
            clear hK
            go_simp
          simp only [Act.put, List.setIfInBounds_toArray, List.set_cons_zero, List.set_cons_succ]
          clear hK K
          refine wpQuiet_step (fun K hK => ?_)
          rw [if_pos (by rfl)]
          refine quiet_val (.bool false) ?_ (hK _ ?_)
          · intro W hW
            clear hK
            go_simp
          simp only [Act.put, List.setIfInBounds_toArray, List.set_cons_zero, List.set_cons_succ]
          clear hK K
          refine wpQuiet_step (fun K hK => ?_)
          rw [if_pos (by rfl)]
          refine quiet_val (.agg #[.int .i64 k, .string raw, .string str, .float .f64 num, .bool true]) ?_ (hK _ ?_)
          · intro W hW
            obtain ⟨x0, x1, x2, x3, x4⟩ := Box.cells hW.box
            clear hK
            go_simp
          simp only [Act.put, List.setIfInBounds_toArray, List.set_cons_zero, List.set_cons_succ]
          clear hK K
          refine wpQuiet_step (fun K hK => ?_)
          rw [if_pos (by rfl)]
          refine quiet_val (.slice (some ⟨D, 0, none⟩) 4 4) ?_ (hK _ ?_)
          · intro W hW
            clear hK
            go_simp
          simp only [Act.put, List.setIfInBounds_toArray, List.set_cons_zero, List.set_cons_succ]
          clear hK K
          refine wpQuiet_step (fun K hK => ?_)
          rw [if_pos (by rfl)]
          refine quiet_val (.int .i64 2) ?_ (hK _ ?_)
          · intro W hW
            clear hK
            go_simp
          simp only [Act.put, List.setIfInBounds_toArray, List.set_cons_zero, List.set_cons_succ]
          clear hK K
          refine wpQuiet_step (fun K hK => ?_)
          rw [if_pos (by rfl)]
          refine quiet_val (.pointer (some ⟨D, 2, none⟩)) ?_ (hK _ ?_)
          · intro W hW
            clear hK
            go_simp
          simp only [Act.put, List.setIfInBounds_toArray, List.set_cons_zero, List.set_cons_succ]
          clear hK K
          refine wpQuiet_step (fun K hK => ?_)
          rw [if_pos (by rfl)]
          refine quiet_val (.string ⟨#[126, 110, 117, 108, 108]⟩) ?_ (hK _ ?_)
          · intro W hW
            have y := (blk_cell hW.words 2).trans rfl
            clear hK
            go_simp
          simp only [Act.put, List.setIfInBounds_toArray, List.set_cons_zero, List.set_cons_succ]
          clear hK K
          refine wpQuiet_step (fun K hK => ?_)
          rw [if_pos (by rfl)]
          refine quiet_call 25 #[.agg #[.int .i64 k, .string raw, .string str, .float .f64 num, .bool true], .string ⟨#[33, 61]⟩, .string ⟨#[126, 110, 117, 108, 108]⟩] (.bool (!vn)) ?_ ?_ (hK _ ?_)
          · intro W hW
            clear hK
            go_simp
          · intro W hW
            refine (M2n.out W (HE.out.below hW.bel)).mono ?_
            rintro e w'' ⟨rfl, hb⟩
            exact ⟨rfl, hW.below hb⟩
          simp only [Act.put, List.setIfInBounds_toArray, List.set_cons_zero, List.set_cons_succ]
          clear hK K
          refine wpQuiet_step (fun K hK => ?_)
          rw [if_pos (by rfl)]
          refine quiet_val (.bool vn) ?_ (hK _ ?_)
          · intro W hW
            clear hK
            go_simp
          simp only [Act.put, List.setIfInBounds_toArray, List.set_cons_zero, List.set_cons_succ]
          clear hK K
          refine wpQuiet_step (fun K hK => ?_)
          rw [if_pos (by rfl)]
          refine quiet_val (.bool false) ?_ (hK _ ?_)
          · intro W hW
            clear hK
            go_simp
          simp only [Act.put, List.setIfInBounds_toArray, List.set_cons_zero, List.set_cons_succ]
          clear hK K
          refine wpQuiet_step (fun K hK => ?_)
          rw [if_pos (by rfl)]
          refine quiet_val (.bool false) ?_ (hK _ ?_)
          · intro W hW
            clear hK
            go_simp
          simp only [Act.put, List.setIfInBounds_toArray, List.set_cons_zero, List.set_cons_succ]
          clear hK K
          refine wpQuiet_nil ?_
          intro W8 hT8
          have HT8 := Lib.hid hT8
          clear hT8 HT
          go_wp2
          go_roundg (3 - 2)
          case rel => exact Lib.hid ⟨3, rfl, by omega, HT8.out⟩
          case measure => omega
        · have z := (blk_cell HT.out.bools 3).trans rfl
          go_upto_region 8 with (fail)
          clear z x0 x1 x2 x3 x4 hx hd hb0
          refine wp_region_quiet (C := fun W => Tw w W A D X k raw str num true vt vf vn) (by kernel_rfl) (by kernel_rfl) ?_ ?_
          · exact HT.out.below (below_drew (Below.refl _ _))
          refine wpQuiet_step (fun K hK => ?_)
          rw [if_pos (by rfl)]
          refine quiet_val (.agg #[.int .i64 k, .string raw, .string str, .float .f64 num, .bool true]) ?_ (hK _ ?_)
          · intro W hW
            obtain ⟨x0, x1, x2, x3, x4⟩ := Box.cells hW.box
            clear hK
            go_simp
          simp only [Act.put, List.setIfInBounds_toArray, List.set_cons_zero, List.set_cons_succ]
          clear hK K
          refine wpQuiet_step (fun K hK => ?_)
          rw [if_pos (by rfl)]
          refine quiet_val (.slice (some ⟨D, 0, none⟩) 4 4) ?_ (hK _ ?_)
          · intro W hW
            clear hK
            go_simp
          simp only [Act.put, List.setIfInBounds_toArray, List.set_cons_zero, List.set_cons_succ]
          clear hK K
          refine wpQuiet_step (fun K hK => ?_)
          rw [if_pos (by rfl)]
          refine quiet_val (.int .i64 3) ?_ (hK _ ?_)
          · intro W hW
            clear hK
            go_simp
          simp only [Act.put, List.setIfInBounds_toArray, List.set_cons_zero, List.set_cons_succ]
          clear hK K
          refine wpQuiet_step (fun K hK => ?_)
          rw [if_pos (by rfl)]
          refine quiet_val (.pointer (some ⟨D, 3, none⟩)) ?_ (hK _ ?_)
          · intro W hW
            clear hK
            go_simp
          simp only [Act.put, List.setIfInBounds_toArray, List.set_cons_zero, List.set_cons_succ]
          clear hK K
          refine wpQuiet_step (fun K hK => ?_)
          rw [if_pos (by rfl)]
          refine quiet_val (.string ⟨#[126, 42]⟩) ?_ (hK _ ?_)
          · intro W hW
            have y := (blk_cell hW.words 3).trans rfl
            clear hK
            go_simp
          simp only [Act.put, List.setIfInBounds_toArray, List.set_cons_zero, List.set_cons_succ]
          clear hK K
          refine wpQuiet_step (fun K hK => ?_)
          rw [if_pos (by rfl)]
          refine quiet_call 25 #[.agg #[.int .i64 k, .string raw, .string str, .float .f64 num, .bool true], .string ⟨#[61]⟩, .string ⟨#[126, 42]⟩] (.bool (true)) ?_ ?_ (hK _ ?_)
          · intro W hW
            clear hK
            go_simp
          · intro W hW
            refine (M3e.out W (HE.out.below hW.bel)).mono ?_
            rintro e w'' ⟨rfl, hb⟩
            exact ⟨rfl, hW.below hb⟩
          simp only [Act.put, List.setIfInBounds_toArray, List.set_cons_zero, List.set_cons_succ]
          clear hK K
          refine wpQuiet_step (fun K hK => ?_)
          rw [if_pos (by rfl)]
          refine quiet_val (.bool true) ?_ (hK _ ?_)
          · intro W hW
            clear hK
            go_simp
          simp only [Act.put, List.setIfInBounds_toArray, List.set_cons_zero, List.set_cons_succ]
          clear hK K
          refine wpQuiet_step (fun K hK => ?_)
          rw [if_pos (by rfl)]
          refine quiet_val (.bool false) ?_ (hK _ ?_)
          · intro W hW
            clear hK
            go_simp
          simp only [Act.put, List.setIfInBounds_toArray, List.set_cons_zero, List.set_cons_succ]
          clear hK K
          refine wpQuiet_step (fun K hK => ?_)
          rw [if_pos (by rfl)]
          refine quiet_val (.bool false) ?_ (hK _ ?_)
          · intro W hW
            clear hK
            go_simp
          simp only [Act.put, List.setIfInBounds_toArray, List.set_cons_zero, List.set_cons_succ]
          clear hK K
          refine wpQuiet_step (fun K hK => ?_)
          rw [if_pos (by rfl)]
          refine quiet_val (.agg #[.int .i64 k, .string raw, .string str, .float .f64 num, .bool true]) ?_ (hK _ ?_)
          · intro W hW
            obtain ⟨x0, x1, x2, x3, x4⟩ := Box.cells hW.box
            clear hK
            go_simp
          simp only [Act.put, List.setIfInBounds_toArray, List.set_cons_zero, List.set_cons_succ]
          clear hK K
          refine wpQuiet_step (fun K hK => ?_)
          rw [if_pos (by rfl)]
          refine quiet_val (.slice (some ⟨D, 0, none⟩) 4 4) ?_ (hK _ ?_)
          · intro W hW
            clear hK
            go_simp
          simp only [Act.put, List.setIfInBounds_toArray, List.set_cons_zero, List.set_cons_succ]
          clear hK K
          refine wpQuiet_step (fun K hK => ?_)
          rw [if_pos (by rfl)]
          refine quiet_val (.int .i64 3) ?_ (hK _ ?_)
          · intro W hW
            clear hK
            go_simp
          simp only [Act.put, List.setIfInBounds_toArray, List.set_cons_zero, List.set_cons_succ]
          clear hK K
          refine wpQuiet_step (fun K hK => ?_)
          rw [if_pos (by rfl)]
          refine quiet_val (.pointer (some ⟨D, 3, none⟩)) ?_ (hK _ ?_)
          · intro W hW
            clear hK
            go_simp
          simp only [Act.put, List.setIfInBounds_toArray, List.set_cons_zero, List.set_cons_succ]
          clear hK K
          refine wpQuiet_step (fun K hK => ?_)
          rw [if_pos (by rfl)]
          refine quiet_val (.string ⟨#[126, 42]⟩) ?_ (hK _ ?_)
          · intro W hW
            have y := (blk_cell hW.words 3).trans rfl
            clear hK
            go_simp
          simp only [Act.put, List.setIfInBounds_toArray, List.set_cons_zero, List.set_cons_succ]
          clear hK K
          refine wpQuiet_step (fun K hK => ?_)
          rw [if_pos (by rfl)]
          refine quiet_call 25 #[.agg #[.int .i64 k, .string raw, .string str, .float .f64 num, .bool true], .string ⟨#[33, 61]⟩, .string ⟨#[126, 42]⟩] (.bool (false)) ?_ ?_ (hK _ ?_)
          · intro W hW
            clear hK
            go_simp
          · intro W hW
            refine (M3n.out W (HE.out.below hW.bel)).mono ?_
            rintro e w'' ⟨rfl, hb⟩
            exact ⟨rfl, hW.below hb⟩
          simp only [Act.put, List.setIfInBounds_toArray, List.set_cons_zero, List.set_cons_succ]
          clear hK K
          refine wpQuiet_step (fun K hK => ?_)
          rw [if_pos (by rfl)]
          refine quiet_val (.bool true) ?_ (hK _ ?_)
          · intro W hW
            clear hK
            go_simp
          simp only [Act.put, List.setIfInBounds_toArray, List.set_cons_zero, List.set_cons_succ]
          clear hK K
          refine wpQuiet_step (fun K hK => ?_)
          rw [if_pos (by rfl)]
          refine quiet_val (.bool false) ?_ (hK _ ?_)
          · intro W hW
            clear hK
            go_simp
          simp only [Act.put, List.setIfInBounds_toArray, List.set_cons_zero, List.set_cons_succ]
          clear hK K
          refine wpQuiet_step (fun K hK => ?_)
          rw [if_pos (by rfl)]
          refine quiet_val (.bool false) ?_ (hK _ ?_)
          · intro W hW
            clear hK
            go_simp
          simp only [Act.put, List.setIfInBounds_toArray, List.set_cons_zero, List.set_cons_succ]
          clear hK K
          refine wpQuiet_nil ?_
          intro W8 hT8
          have HT8 := Lib.hid hT8
          clear hT8 HT
          go_wp2
          go_roundg (3 - 3)
          case rel => exact Lib.hid ⟨4, rfl, by omega, HT8.out⟩
          case measure => omega
        · go_wp2
          go_ret
          exact ⟨rfl, HT.out.bel⟩
  case inr =>
    go_enter Tryd.func6, Tryd.ntmps6
    go_upto_region 1 with (fail)
    rw [← hw0, ← hA]
    clear hw0 hA
    go_upto_region 5 with (go_at_call 7; refine (HF.out _).mono ?_; rintro e w1 ⟨rfl, hb⟩; have HB := Lib.hid (below_step HB0.out hb); have HX := Lib.hid (blk_below HX0.out hb); obtain ⟨d0, d1, d2, d3, d4⟩ := Box.cells HX.out; have d5 := blk_frozen HX.out 4; clear hb)
    obtain ⟨D, hD⟩ : ∃ D, D = w1.heap.size := ⟨_, rfl⟩
    generalize hW4 : World.setCell w1 _ _ = W4
    have HX4 := Lib.hid (show Box W4 A k raw str num e by rw [← hW4, ← ee.out]; exact blk_set HX.out 4 _)
    have HB4 := Lib.hid (show Below w.heap.size w W4 by rw [← hW4]; exact below_set HB.out (Nat.le_of_eq HA.out.symm))
    have hD4 : D = W4.heap.size := by rw [← hW4, hD]; simp
    rw [← hD]
    generalize hW5 : World.alloc W4 _ = W5
    have HX5 := Lib.hid (show Box W5 A k raw str num e by rw [← hW5]; exact blk_alloc HX4.out _)
    have HB5 := Lib.hid (show Below w.heap.size w W5 by rw [← hW5]; exact below_alloc HB4.out _)
    have HD5 := Lib.hid (show Wds W5 D by rw [← hW5, hD4]; exact blk_new _ _)
    clear ee hW5 hD4 hW4 hD HX4 HB4 HB HX d0 d1 d2 d3 d4 d5 HX0 HB0 c0 c1 c2 c3 c4 HF ek
    go_cut [1, 3, 27, 28, 29] (fun v1 v3 v27 v28 v29 W => Hid (∃ X, v1 = .pointer (some ⟨A, 0, none⟩) ∧ v3 = .slice (some ⟨D, 0, none⟩) 4 4 ∧ v27 = .slice (some ⟨X, 0, none⟩) 4 4 ∧ v28 = .int .i64 4 ∧ v29 = .int .i64 0 ∧ Tw w W A D X k raw str num e vt vf vn))
    case first =>
      have hx5 := HX5.out
      have hb5 := below_drew HB5.out
      have hd5 := HD5.out
      clear M0e M0n M1e M1n M2e M2n M3e M3n
      go_region_held3 (fun W => W.cell? ⟨A, 0, none⟩ = some (.int .i64 k) ∧ W.cell? ⟨A, 1, none⟩ = some (.string raw) ∧ W.cell? ⟨A, 2, none⟩ = some (.string str) ∧ W.cell? ⟨A, 3, none⟩ = some (.float .f64 num) ∧ W.cell? ⟨A, 4, none⟩ = some (.bool e)) (first | exact Box.cells (by assumption) | exact Box.cells (blk_alloc (by assumption) _)) ((first | (go_at_call 22; refine (HT.out _ (HE.out.below (by assumption))).mono ?_; rintro e' w6 ⟨rfl, hb⟩; have hbb : Below w.heap.size w w6 := below_step (by assumption) hb; have hxx : Box w6 A k raw str num e := blk_below (show Box _ A k raw str num e by assumption) hb; have hdd : Wds w6 D := blk_below (show Wds _ D by assumption) hb; clear hb) | (go_at_call 23; refine (HFa.out _ (HE.out.below (by assumption))).mono ?_; rintro e' w6 ⟨rfl, hb⟩; have hbb : Below w.heap.size w w6 := below_step (by assumption) hb; have hxx : Box w6 A k raw str num e := blk_below (show Box _ A k raw str num e by assumption) hb; have hdd : Wds w6 D := blk_below (show Wds _ D by assumption) hb; clear hb) | (go_at_call 24; refine (HN.out _ (HE.out.below (by assumption))).mono ?_; rintro e' w6 ⟨rfl, hb⟩; have hbb : Below w.heap.size w w6 := below_step (by assumption) hb; have hxx : Box w6 A k raw str num e := blk_below (show Box _ A k raw str num e by assumption) hb; have hdd : Wds w6 D := blk_below (show Wds _ D by assumption) hb; clear hb)))
      go_wp2
      go_meet
      case rel => exact Lib.hid ⟨_, rfl, rfl, rfl, rfl, rfl, ⟨below_alloc (by assumption) _, blk_alloc (by assumption) _, blk_alloc (show Wds _ D by assumption) _, blk_new _ _⟩⟩
    case rest =>
      obtain ⟨X, rfl, rfl, rfl, rfl, rfl, hT⟩ := hcut.out
      have HT5 := Lib.hid hT
      clear hcut hT HX5 HB5 HD5 HT HFa HN
      go_wp2
      go_loopg [29] 4 (fun kq v29 w' => Hid (∃ i : Nat, v29 = .int .i64 ((i : Nat) : Int) ∧ i + kq = 4 ∧ Tw w w' A D X k raw str num e vt vf vn))
      case atStart => exact Lib.hid ⟨0, rfl, rfl, HT5.out⟩
      case round =>
        obtain ⟨i, rfl, hi, hT⟩ := hrel.out
        clear hrel HT5
        have HT := Lib.hid hT
        have hx := hT.box
        have hd := hT.words
        have hb0 := hT.bel
        obtain ⟨x0, x1, x2, x3, x4⟩ := Box.cells hx
        clear hT
        rcases (show i = 0 ∨ i = 1 ∨ i = 2 ∨ i = 3 ∨ i = 4 by omega) with rfl | rfl | rfl | rfl | rfl
        · have z := (blk_cell HT.out.bools 0).trans rfl
          go_upto_region 8 with (fail)
          clear z x0 x1 x2 x3 x4 hx hd hb0
          refine wp_region_quiet (C := fun W => Tw w W A D X k raw str num e vt vf vn) (by kernel_rfl) (by kernel_rfl) ?_ ?_
          · exact HT.out.below (below_drew (Below.refl _ _))
          refine wpQuiet_step (fun K hK => ?_)
          rw [if_pos (by rfl)]
          refine quiet_val (.agg #[.int .i64 k, .string raw, .string str, .float .f64 num, .bool e]) ?_ (hK _ ?_)
          · intro W hW
            obtain ⟨x0, x1, x2, x3, x4⟩ := Box.cells hW.box
            clear hK
            go_simp
          simp only [Act.put, List.setIfInBounds_toArray, List.set_cons_zero, List.set_cons_succ]
          clear hK K
          refine wpQuiet_step (fun K hK => ?_)
          rw [if_pos (by rfl)]
          refine quiet_val (.slice (some ⟨D, 0, none⟩) 4 4) ?_ (hK _ ?_)
          · intro W hW
            clear hK
            go_simp
          simp only [Act.put, List.setIfInBounds_toArray, List.set_cons_zero, List.set_cons_succ]
          clear hK K
          refine wpQuiet_step (fun K hK => ?_)
          rw [if_pos (by rfl)]
          refine quiet_val (.int .i64 0) ?_ (hK _ ?_)
          · intro W hW
            clear hK
            go_simp
          simp only [Act.put, List.setIfInBounds_toArray, List.set_cons_zero, List.set_cons_succ]
          clear hK K
          refine wpQuiet_step (fun K hK => ?_)
          rw [if_pos (by rfl)]
          refine quiet_val (.pointer (some ⟨D, 0, none⟩)) ?_ (hK _ ?_)
          · intro W hW
            clear hK
            go_simp
          simp only [Act.put, List.setIfInBounds_toArray, List.set_cons_zero, List.set_cons_succ]
          clear hK K
          refine wpQuiet_step (fun K hK => ?_)
          rw [if_pos (by rfl)]
          refine quiet_val (.string ⟨#[126, 116, 114, 117, 101]⟩) ?_ (hK _ ?_)
          · intro W hW
            have y := (blk_cell hW.words 0).trans rfl
            clear hK
            go_simp
          simp only [Act.put, List.setIfInBounds_toArray, List.set_cons_zero, List.set_cons_succ]
          clear hK K
          refine wpQuiet_step (fun K hK => ?_)
          rw [if_pos (by rfl)]
          refine quiet_call 25 #[.agg #[.int .i64 k, .string raw, .string str, .float .f64 num, .bool e], .string ⟨#[61]⟩, .string ⟨#[126, 116, 114, 117, 101]⟩] (.bool (vt)) ?_ ?_ (hK _ ?_)
          · intro W hW
            clear hK
            go_simp
          · intro W hW
            refine (M0e.out W (HE.out.below hW.bel)).mono ?_
            rintro e w'' ⟨rfl, hb⟩
            exact ⟨rfl, hW.below hb⟩
          simp only [Act.put, List.setIfInBounds_toArray, List.set_cons_zero, List.set_cons_succ]
          clear hK K
          refine wpQuiet_step (fun K hK => ?_)
          rw [if_pos (by rfl)]
          refine quiet_val (.bool vt) ?_ (hK _ ?_)
          · intro W hW
            clear hK
            go_simp
          simp only [Act.put, List.setIfInBounds_toArray, List.set_cons_zero, List.set_cons_succ]
          clear hK K
          refine wpQuiet_step (fun K hK => ?_)
          rw [if_pos (by rfl)]
          refine quiet_val (.bool false) ?_ (hK _ ?_)
          · intro W hW
            clear hK
            go_simp
          simp only [Act.put, List.setIfInBounds_toArray, List.set_cons_zero, List.set_cons_succ]
          clear hK K
          refine wpQuiet_step (fun K hK => ?_)
          rw [if_pos (by rfl)]
          refine quiet_val (.bool false) ?_ (hK _ ?_)
          · intro W hW
            clear hK
            go_simp
          simp only [Act.put, List.setIfInBounds_toArray, List.set_cons_zero, List.set_cons_succ]
          clear hK K
          refine wpQuiet_step (fun K hK => ?_)
          rw [if_pos (by rfl)]
          refine quiet_val (.agg #[.int .i64 k, .string raw, .string str, .float .f64 num, .bool e]) ?_ (hK _ ?_)
          · intro W hW
            obtain ⟨x0, x1, x2, x3, x4⟩ := Box.cells hW.box
            clear hK
            go_simp
          simp only [Act.put, List.setIfInBounds_toArray, List.set_cons_zero, List.set_cons_succ]
          clear hK K
          refine wpQuiet_step (fun K hK => ?_)
          rw [if_pos (by rfl)]
          refine quiet_val (.slice (some ⟨D, 0, none⟩) 4 4) ?_ (hK _ ?_)
          · intro W hW
            clear hK
            go_simp
          simp only [Act.put, List.setIfInBounds_toArray, List.set_cons_zero, List.set_cons_succ]
          clear hK K
          refine wpQuiet_step (fun K hK => ?_)
          rw [if_pos (by rfl)]
          refine quiet_val (.int .i64 0) ?_ (hK _ ?_)
          · intro W hW
            clear hK
            go_simp
          simp only [Act.put, List.setIfInBounds_toArray, List.set_cons_zero, List.set_cons_succ]
          clear hK K
          refine wpQuiet_step (fun K hK => ?_)
          rw [if_pos (by rfl)]
          refine quiet_val (.pointer (some ⟨D, 0, none⟩)) ?_ (hK _ ?_)
          · intro W hW
            clear hK
            go_simp
          simp only [Act.put, List.setIfInBounds_toArray, List.set_cons_zero, List.set_cons_succ]
          clear hK K
          refine wpQuiet_step (fun K hK => ?_)
          rw [if_pos (by rfl)]
          refine quiet_val (.string ⟨#[126, 116, 114, 117, 101]⟩) ?_ (hK _ ?_)
          · intro W hW
            have y := (blk_cell hW.words 0).trans rfl
            clear hK
            go_simp
          simp only [Act.put, List.setIfInBounds_toArray, List.set_cons_zero, List.set_cons_succ]
          clear hK K
          refine wpQuiet_step (fun K hK => ?_)
          rw [if_pos (by rfl)]
          refine quiet_call 25 #[.agg #[.int .i64 k, .string raw, .string str, .float .f64 num, .bool e], .string ⟨#[33, 61]⟩, .string ⟨#[126, 116, 114, 117, 101]⟩] (.bool (!vt)) ?_ ?_ (hK _ ?_)
          · intro W hW
            clear hK
            go_simp
          · intro W hW
            refine (M0n.out W (HE.out.below hW.bel)).mono ?_
            rintro e w'' ⟨rfl, hb⟩
            exact ⟨rfl, hW.below hb⟩
          simp only [Act.put, List.setIfInBounds_toArray, List.set_cons_zero, List.set_cons_succ]
          clear hK K
          refine wpQuiet_step (fun K hK => ?_)
          rw [if_pos (by rfl)]
          refine quiet_val (.bool vt) ?_ (hK _ ?_)
          · intro W hW
            clear hK
            go_simp
          simp only [Act.put, List.setIfInBounds_toArray, List.set_cons_zero, List.set_cons_succ]
          clear hK K
          refine wpQuiet_step (fun K hK => ?_)
          rw [if_pos (by rfl)]
          refine quiet_val (.bool false) ?_ (hK _ ?_)
          · intro W hW
            clear hK
            go_simp
          simp only [Act.put, List.setIfInBounds_toArray, List.set_cons_zero, List.set_cons_succ]
          clear hK K
          refine wpQuiet_step (fun K hK => ?_)
          rw [if_pos (by rfl)]
          refine quiet_val (.bool false) ?_ (hK _ ?_)
          · intro W hW
            clear hK
            go_simp
          simp only [Act.put, List.setIfInBounds_toArray, List.set_cons_zero, List.set_cons_succ]
          clear hK K
          refine wpQuiet_nil ?_
          intro W8 hT8
          have HT8 := Lib.hid hT8
          clear hT8 HT
          go_wp2
          go_roundg (3 - 0)
          case rel => exact Lib.hid ⟨1, rfl, by omega, HT8.out⟩
          case measure => omega
        · have z := (blk_cell HT.out.bools 1).trans rfl
          go_upto_region 8 with (fail)
          clear z x0 x1 x2 x3 x4 hx hd hb0
          refine wp_region_quiet (C := fun W => Tw w W A D X k raw str num e vt vf vn) (by kernel_rfl) (by kernel_rfl) ?_ ?_
          · exact HT.out.below (below_drew (Below.refl _ _))
          refine wpQuiet_step (fun K hK => ?_)
          rw [if_pos (by rfl)]
          refine quiet_val (.agg #[.int .i64 k, .string raw, .string str, .float .f64 num, .bool e]) ?_ (hK _ ?_)
          · intro W hW
            obtain ⟨x0, x1, x2, x3, x4⟩ := Box.cells hW.box
            clear hK
            go_simp
          simp only [Act.put, List.setIfInBounds_toArray, List.set_cons_zero, List.set_cons_succ]
          clear hK K
          refine wpQuiet_step (fun K hK => ?_)
          rw [if_pos (by rfl)]
          refine quiet_val (.slice (some ⟨D, 0, none⟩) 4 4) ?_ (hK _ ?_)
          · intro W hW
            clear hK
            go_simp
          simp only [Act.put, List.setIfInBounds_toArray, List.set_cons_zero, List.set_cons_succ]
          clear hK K
          refine wpQuiet_step (fun K hK => ?_)
          rw [if_pos (by rfl)]
          refine quiet_val (.int .i64 1) ?_ (hK _ ?_)
          · intro W hW
            clear hK
            go_simp
          simp only [Act.put, List.setIfInBounds_toArray, List.set_cons_zero, List.set_cons_succ]
          clear hK K
          refine wpQuiet_step (fun K hK => ?_)
          rw [if_pos (by rfl)]
          refine quiet_val (.pointer (some ⟨D, 1, none⟩)) ?_ (hK _ ?_)
          · intro W hW
            clear hK
            go_simp
          simp only [Act.put, List.setIfInBounds_toArray, List.set_cons_zero, List.set_cons_succ]
          clear hK K
          refine wpQuiet_step (fun K hK => ?_)
          rw [if_pos (by rfl)]
          refine quiet_val (.string ⟨#[126, 102, 97, 108, 115, 101]⟩) ?_ (hK _ ?_)
          · intro W hW
            have y := (blk_cell hW.words 1).trans rfl
            clear hK
            go_simp
          simp only [Act.put, List.setIfInBounds_toArray, List.set_cons_zero, List.set_cons_succ]
          clear hK K
          refine wpQuiet_step (fun K hK => ?_)
          rw [if_pos (by rfl)]
          refine quiet_call 25 #[.agg #[.int .i64 k, .string raw, .string str, .float .f64 num, .bool e], .string ⟨#[61]⟩, .string ⟨#[126, 102, 97, 108, 115, 101]⟩] (.bool (vf)) ?_ ?_ (hK _ ?_)
          · intro W hW
            clear hK
            go_simp
          · intro W hW
            refine (M1e.out W (HE.out.below hW.bel)).mono ?_
            rintro e w'' ⟨rfl, hb⟩
            exact ⟨rfl, hW.below hb⟩
          simp only [Act.put, List.setIfInBounds_toArray, List.set_cons_zero, List.set_cons_succ]
          clear hK K
          refine wpQuiet_step (fun K hK => ?_)
          rw [if_pos (by rfl)]
          refine quiet_val (.bool vf) ?_ (hK _ ?_)
          · intro W hW
            clear hK
            go_simp
          simp only [Act.put, List.setIfInBounds_toArray, List.set_cons_zero, List.set_cons_succ]
          clear hK K
          refine wpQuiet_step (fun K hK => ?_)
          rw [if_pos (by rfl)]
          refine quiet_val (.bool false) ?_ (hK _ ?_)
          · intro W hW
            clear hK
            go_simp
          simp only [Act.put, List.setIfInBounds_toArray, List.set_cons_zero, List.set_cons_succ]
          clear hK K
          refine wpQuiet_step (fun K hK => ?_)
          rw [if_pos (by rfl)]
          refine quiet_val (.bool false) ?_ (hK _ ?_)
          · intro W hW
            clear hK
            go_simp
          simp only [Act.put, List.setIfInBounds_toArray, List.set_cons_zero, List.set_cons_succ]
          clear hK K
          refine wpQuiet_step (fun K hK => ?_)
          rw [if_pos (by rfl)]
          refine quiet_val (.agg #[.int .i64 k, .string raw, .string str, .float .f64 num, .bool e]) ?_ (hK _ ?_)
          · intro W hW
            obtain ⟨x0, x1, x2, x3, x4⟩ := Box.cells hW.box
            clear hK
            go_simp
          simp only [Act.put, List.setIfInBounds_toArray, List.set_cons_zero, List.set_cons_succ]
          clear hK K
          refine wpQuiet_step (fun K hK => ?_)
          rw [if_pos (by rfl)]
          refine quiet_val (.slice (some ⟨D, 0, none⟩) 4 4) ?_ (hK _ ?_)
          · intro W hW
            clear hK
            go_simp
          simp only [Act.put, List.setIfInBounds_toArray, List.set_cons_zero, List.set_cons_succ]
          clear hK K
          refine wpQuiet_step (fun K hK => ?_)
          rw [if_pos (by rfl)]
          refine quiet_val (.int .i64 1) ?_ (hK _ ?_)
          · intro W hW
            clear hK
            go_simp
          simp only [Act.put, List.setIfInBounds_toArray, List.set_cons_zero, List.set_cons_succ]
          clear hK K
          refine wpQuiet_step (fun K hK => ?_)
          rw [if_pos (by rfl)]
          refine quiet_val (.pointer (some ⟨D, 1, none⟩)) ?_ (hK _ ?_)
          · intro W hW
            clear hK
            go_simp
          simp only [Act.put, List.setIfInBounds_toArray, List.set_cons_zero, List.set_cons_succ]
          clear hK K
          refine wpQuiet_step (fun K hK => ?_)
          rw [if_pos (by rfl)]
          refine quiet_val (.string ⟨#[126, 102, 97, 108, 115, 101]⟩) ?_ (hK _ ?_)
          · intro W hW
            have y := (blk_cell hW.words 1).trans rfl
            clear hK
            go_simp
          simp only [Act.put, List.setIfInBounds_toArray, List.set_cons_zero, List.set_cons_succ]
          clear hK K
          refine wpQuiet_step (fun K hK => ?_)
          rw [if_pos (by rfl)]
          refine quiet_call 25 #[.agg #[.int .i64 k, .string raw, .string str, .float .f64 num, .bool e], .string ⟨#[33, 61]⟩, .string ⟨#[126, 102, 97, 108, 115, 101]⟩] (.bool (!vf)) ?_ ?_ (hK _ ?_)
          · intro W hW
            clear hK
            go_simp
          · intro W hW
            refine (M1n.out W (HE.out.below hW.bel)).mono ?_
            rintro e w'' ⟨rfl, hb⟩
            exact ⟨rfl, hW.below hb⟩
          simp only [Act.put, List.setIfInBounds_toArray, List.set_cons_zero, List.set_cons_succ]
          clear hK K
          refine wpQuiet_step (fun K hK => ?_)
          rw [if_pos (by rfl)]
          refine quiet_val (.bool vf) ?_ (hK _ ?_)
          · intro W hW
            clear hK
            go_simp
          simp only [Act.put, List.setIfInBounds_toArray, List.set_cons_zero, List.set_cons_succ]
          clear hK K
          refine wpQuiet_step (fun K hK => ?_)
          rw [if_pos (by rfl)]
          refine quiet_val (.bool false) ?_ (hK _ ?_)
          · intro W hW
            clear hK
            go_simp
          simp only [Act.put, List.setIfInBounds_toArray, List.set_cons_zero, List.set_cons_succ]
          clear hK K
          refine wpQuiet_step (fun K hK => ?_)
          rw [if_pos (by rfl)]
          refine quiet_val (.bool false) ?_ (hK _ ?_)
          · intro W hW
            clear hK
            go_simp
          simp only [Act.put, List.setIfInBounds_toArray, List.set_cons_zero, List.set_cons_succ]
          clear hK K
          refine wpQuiet_nil ?_
          intro W8 hT8
          have HT8 := Lib.hid hT8
          clear hT8 HT
          go_wp2
          go_roundg (3 - 1)
          case rel => exact Lib.hid ⟨2, rfl, by omega, HT8.out⟩
          case measure => omega
        · have z := (blk_cell HT.out.bools 2).trans rfl
          go_upto_region 8 with (fail)
          clear z x0 x1 x2 x3 x4 hx hd hb0
          refine wp_region_quiet (C := fun W => Tw w W A D X k raw str num e vt vf vn) (by kernel_rfl) (by kernel_rfl) ?_ ?_
          · exact HT.out.below (below_drew (Below.refl _ _))
          refine wpQuiet_step (fun K hK => ?_)
          rw [if_pos (by rfl)]
          refine quiet_val (.agg #[.int .i64 k, .string raw, .string str, .float .f64 num, .bool e]) ?_ (hK _ ?_)
          · intro W hW
            obtain ⟨x0, x1, x2, x3, x4⟩ := Box.cells hW.box
            clear hK
            go_simp
          simp only [Act.put, List.setIfInBounds_toArray, List.set_cons_zero, List.set_cons_succ]
          clear hK K
          refine wpQuiet_step (fun K hK => ?_)
          rw [if_pos (by rfl)]
          refine quiet_val (.slice (some ⟨D, 0, none⟩) 4 4) ?_ (hK _ ?_)
          · intro W hW
            clear hK
            go_simp
          simp only [Act.put, List.setIfInBounds_toArray, List.set_cons_zero, List.set_cons_succ]
          clear hK K
          refine wpQuiet_step (fun K hK => ?_)
          rw [if_pos (by rfl)]
          refine quiet_val (.int .i64 2) ?_ (hK _ ?_)
          · intro W hW
            clear hK
            go_simp
          simp only [Act.put, List.setIfInBounds_toArray, List.set_cons_zero, List.set_cons_succ]
          clear hK K
          refine wpQuiet_step (fun K hK => ?_)
          rw [if_pos (by rfl)]
          refine quiet_val (.pointer (some ⟨D, 2, none⟩)) ?_ (hK _ ?_)
          · intro W hW
            clear hK
            go_simp
          simp only [Act.put, List.setIfInBounds_toArray, List.set_cons_zero, List.set_cons_succ]
          clear hK K
          refine wpQuiet_step (fun K hK => ?_)
          rw [if_pos (by rfl)]
          refine quiet_val (.string ⟨#[126, 110, 117, 108, 108]⟩) ?_ (hK _ ?_)
          · intro W hW
            have y := (blk_cell hW.words 2).trans rfl
            clear hK
            go_simp
          simp only [Act.put, List.setIfInBounds_toArray, List.set_cons_zero, List.set_cons_succ]
          clear hK K
          refine wpQuiet_step (fun K hK => ?_)
          rw [if_pos (by rfl)]
          refine quiet_call 25 #[.agg #[.int .i64 k, .string raw, .string str, .float .f64 num, .bool e], .string ⟨#[61]⟩, .string ⟨#[126, 110, 117, 108, 108]⟩] (.bool (vn)) ?_ ?_ (hK _ ?_)
          · intro W hW
            clear hK
            go_simp
          · intro W hW
            refine (M2e.out W (HE.out.below hW.bel)).mono ?_
            rintro e w'' ⟨rfl, hb⟩
            exact ⟨rfl, hW.below hb⟩
          simp only [Act.put, List.setIfInBounds_toArray, List.set_cons_zero, List.set_cons_succ]
          clear hK K
          refine wpQuiet_step (fun K hK => ?_)
          rw [if_pos (by rfl)]
          refine quiet_val (.bool vn) ?_ (hK _ ?_)
          · intro W hW
            clear hK
            go_simp
          simp only [Act.put, List.setIfInBounds_toArray, List.set_cons_zero, List.set_cons_succ]
          clear hK K
          refine wpQuiet_step (fun K hK => ?_)
          rw [if_pos (by rfl)]
          refine quiet_val (.bool false) ?_ (hK _ ?_)
          · intro W hW
            clear hK
            go_simp
          simp only [Act.put, List.setIfInBounds_toArray, List.set_cons_zero, List.set_cons_succ]
          clear hK K
          refine wpQuiet_step (fun K hK => ?_)
          rw [if_pos (by rfl)]
          refine quiet_val (.bool false) ?_ (hK _ ?_)
          · intro W hW
            clear hK
            go_simp
          simp only [Act.put, List.setIfInBounds_toArray, List.set_cons_zero, List.set_cons_succ]
          clear hK K
          refine wpQuiet_step (fun K hK => ?_)
          rw [if_pos (by rfl)]
          refine quiet_val (.agg #[.int .i64 k, .string raw, .string str, .float .f64 num, .bool e]) ?_ (hK _ ?_)
          · intro W hW
            obtain ⟨x0, x1, x2, x3, x4⟩ := Box.cells hW.box
            clear hK
            go_simp
          simp only [Act.put, List.setIfInBounds_toArray, List.set_cons_zero, List.set_cons_succ]
          clear hK K
          refine wpQuiet_step (fun K hK => ?_)
          rw [if_pos (by rfl)]
          refine quiet_val (.slice (some ⟨D, 0, none⟩) 4 4) ?_ (hK _ ?_)
          · intro W hW
            clear hK
            go_simp
          simp only [Act.put, List.setIfInBounds_toArray, List.set_cons_zero, List.set_cons_succ]
          clear hK K
          refine wpQuiet_step (fun K hK => ?_)
          rw [if_pos (by rfl)]
          refine quiet_val (.int .i64 2) ?_ (hK _ ?_)
          · intro W hW
            clear hK
            go_simp
          simp only [Act.put, List.setIfInBounds_toArray, List.set_cons_zero, List.set_cons_succ]
          clear hK K
          refine wpQuiet_step (fun K hK => ?_)
          rw [if_pos (by rfl)]
          refine quiet_val (.pointer (some ⟨D, 2, none⟩)) ?_ (hK _ ?_)
          · intro W hW
            clear hK
            go_simp
          simp only [Act.put, List.setIfInBounds_toArray, List.set_cons_zero, List.set_cons_succ]
          clear hK K
          refine wpQuiet_step (fun K hK => ?_)
          rw [if_pos (by rfl)]
          refine quiet_val (.string ⟨#[126, 110, 117, 108, 108]⟩) ?_ (hK _ ?_)
          · intro W hW
            have y := (blk_cell hW.words 2).trans rfl
            clear hK
            go_simp
          simp only [Act.put, List.setIfInBounds_toArray, List.set_cons_zero, List.set_cons_succ]
          clear hK K
          refine wpQuiet_step (fun K hK => ?_)
          rw [if_pos (by rfl)]
          refine quiet_call 25 #[.agg #[.int .i64 k, .string raw, .string str, .float .f64 num, .bool e], .string ⟨#[33, 61]⟩, .string ⟨#[126, 110, 117, 108, 108]⟩] (.bool (!vn)) ?_ ?_ (hK _ ?_)
          · intro W hW
            clear hK
            go_simp
          · intro W hW
            refine (M2n.out W (HE.out.below hW.bel)).mono ?_
            rintro e w'' ⟨rfl, hb⟩
            exact ⟨rfl, hW.below hb⟩
          simp only [Act.put, List.setIfInBounds_toArray, List.set_cons_zero, List.set_cons_succ]
          clear hK K
          refine wpQuiet_step (fun K hK => ?_)
          rw [if_pos (by rfl)]
          refine quiet_val (.bool vn) ?_ (hK _ ?_)
          · intro W hW
            clear hK
            go_simp
          simp only [Act.put, List.setIfInBounds_toArray, List.set_cons_zero, List.set_cons_succ]
          clear hK K
          refine wpQuiet_step (fun K hK => ?_)
          rw [if_pos (by rfl)]
          refine quiet_val (.bool false) ?_ (hK _ ?_)
          · intro W hW
            clear hK
            go_simp
          simp only [Act.put, List.setIfInBounds_toArray, List.set_cons_zero, List.set_cons_succ]
          clear hK K
          refine wpQuiet_step (fun K hK => ?_)
          rw [if_pos (by rfl)]
          refine quiet_val (.bool false) ?_ (hK _ ?_)
          · intro W hW
            clear hK
            go_simp
          simp only [Act.put, List.setIfInBounds_toArray, List.set_cons_zero, List.set_cons_succ]
          clear hK K
          refine wpQuiet_nil ?_
          intro W8 hT8
          have HT8 := Lib.hid hT8
          clear hT8 HT
          go_wp2
          go_roundg (3 - 2)
          case rel => exact Lib.hid ⟨3, rfl, by omega, HT8.out⟩
          case measure => omega
        · have z := (blk_cell HT.out.bools 3).trans rfl
          go_upto_region 8 with (fail)
          clear z x0 x1 x2 x3 x4 hx hd hb0
          refine wp_region_quiet (C := fun W => Tw w W A D X k raw str num e vt vf vn) (by kernel_rfl) (by kernel_rfl) ?_ ?_
          · exact HT.out.below (below_drew (Below.refl _ _))
          refine wpQuiet_step (fun K hK => ?_)
          rw [if_pos (by rfl)]
          refine quiet_val (.agg #[.int .i64 k, .string raw, .string str, .float .f64 num, .bool e]) ?_ (hK _ ?_)
          · intro W hW
            obtain ⟨x0, x1, x2, x3, x4⟩ := Box.cells hW.box
            clear hK
            go_simp
          simp only [Act.put, List.setIfInBounds_toArray, List.set_cons_zero, List.set_cons_succ]
          clear hK K
          refine wpQuiet_step (fun K hK => ?_)
          rw [if_pos (by rfl)]
          refine quiet_val (.slice (some ⟨D, 0, none⟩) 4 4) ?_ (hK _ ?_)
          · intro W hW
            clear hK
            go_simp
          simp only [Act.put, List.setIfInBounds_toArray, List.set_cons_zero, List.set_cons_succ]
          clear hK K
          refine wpQuiet_step (fun K hK => ?_)
          rw [if_pos (by rfl)]
          refine quiet_val (.int .i64 3) ?_ (hK _ ?_)
          · intro W hW
            clear hK
            go_simp
          simp only [Act.put, List.setIfInBounds_toArray, List.set_cons_zero, List.set_cons_succ]
          clear hK K
          refine wpQuiet_step (fun K hK => ?_)
          rw [if_pos (by rfl)]
          refine quiet_val (.pointer (some ⟨D, 3, none⟩)) ?_ (hK _ ?_)
          · intro W hW
            clear hK
            go_simp
          simp only [Act.put, List.setIfInBounds_toArray, List.set_cons_zero, List.set_cons_succ]
          clear hK K
          refine wpQuiet_step (fun K hK => ?_)
          rw [if_pos (by rfl)]
          refine quiet_val (.string ⟨#[126, 42]⟩) ?_ (hK _ ?_)
          · intro W hW
            have y := (blk_cell hW.words 3).trans rfl
            clear hK
            go_simp
          simp only [Act.put, List.setIfInBounds_toArray, List.set_cons_zero, List.set_cons_succ]
          clear hK K
          refine wpQuiet_step (fun K hK => ?_)
          rw [if_pos (by rfl)]
          refine quiet_call 25 #[.agg #[.int .i64 k, .string raw, .string str, .float .f64 num, .bool e], .string ⟨#[61]⟩, .string ⟨#[126, 42]⟩] (.bool (e)) ?_ ?_ (hK _ ?_)
          · intro W hW
            clear hK
            go_simp
          · intro W hW
            refine (M3e.out W (HE.out.below hW.bel)).mono ?_
            rintro e w'' ⟨rfl, hb⟩
            exact ⟨rfl, hW.below hb⟩
          simp only [Act.put, List.setIfInBounds_toArray, List.set_cons_zero, List.set_cons_succ]
          clear hK K
          refine wpQuiet_step (fun K hK => ?_)
          rw [if_pos (by rfl)]
          refine quiet_val (.bool e) ?_ (hK _ ?_)
          · intro W hW
            clear hK
            go_simp
          simp only [Act.put, List.setIfInBounds_toArray, List.set_cons_zero, List.set_cons_succ]
          clear hK K
          refine wpQuiet_step (fun K hK => ?_)
          rw [if_pos (by rfl)]
          refine quiet_val (.bool false) ?_ (hK _ ?_)
          · intro W hW
            clear hK
            go_simp
          simp only [Act.put, List.setIfInBounds_toArray, List.set_cons_zero, List.set_cons_succ]
          clear hK K
          refine wpQuiet_step (fun K hK => ?_)
          rw [if_pos (by rfl)]
          refine quiet_val (.bool false) ?_ (hK _ ?_)
          · intro W hW
            clear hK
            go_simp
          simp only [Act.put, List.setIfInBounds_toArray, List.set_cons_zero, List.set_cons_succ]
          clear hK K
          refine wpQuiet_step (fun K hK => ?_)
          rw [if_pos (by rfl)]
          refine quiet_val (.agg #[.int .i64 k, .string raw, .string str, .float .f64 num, .bool e]) ?_ (hK _ ?_)
          · intro W hW
            obtain ⟨x0, x1, x2, x3, x4⟩ := Box.cells hW.box
            clear hK
            go_simp
          simp only [Act.put, List.setIfInBounds_toArray, List.set_cons_zero, List.set_cons_succ]
          clear hK K
          refine wpQuiet_step (fun K hK => ?_)
          rw [if_pos (by rfl)]
          refine quiet_val (.slice (some ⟨D, 0, none⟩) 4 4) ?_ (hK _ ?_)
          · intro W hW
            clear hK
            go_simp
          simp only [Act.put, List.setIfInBounds_toArray, List.set_cons_zero, List.set_cons_succ]
          clear hK K
          refine wpQuiet_step (fun K hK => ?_)
          rw [if_pos (by rfl)]
          refine quiet_val (.int .i64 3) ?_ (hK _ ?_)
          · intro W hW
            clear hK
            go_simp
          simp only [Act.put, List.setIfInBounds_toArray, List.set_cons_zero, List.set_cons_succ]
          clear hK K
          refine wpQuiet_step (fun K hK => ?_)
          rw [if_pos (by rfl)]
          refine quiet_val (.pointer (some ⟨D, 3, none⟩)) ?_ (hK _ ?_)
          · intro W hW
            clear hK
            go_simp
          simp only [Act.put, List.setIfInBounds_toArray, List.set_cons_zero, List.set_cons_succ]
          clear hK K
          refine wpQuiet_step (fun K hK => ?_)
          rw [if_pos (by rfl)]
          refine quiet_val (.string ⟨#[126, 42]⟩) ?_ (hK _ ?_)
          · intro W hW
            have y := (blk_cell hW.words 3).trans rfl
            clear hK
            go_simp
          simp only [Act.put, List.setIfInBounds_toArray, List.set_cons_zero, List.set_cons_succ]
          clear hK K
          refine wpQuiet_step (fun K hK => ?_)
          rw [if_pos (by rfl)]
          refine quiet_call 25 #[.agg #[.int .i64 k, .string raw, .string str, .float .f64 num, .bool e], .string ⟨#[33, 61]⟩, .string ⟨#[126, 42]⟩] (.bool (!e)) ?_ ?_ (hK _ ?_)
          · intro W hW
            clear hK
            go_simp
          · intro W hW
            refine (M3n.out W (HE.out.below hW.bel)).mono ?_
            rintro e w'' ⟨rfl, hb⟩
            exact ⟨rfl, hW.below hb⟩
          simp only [Act.put, List.setIfInBounds_toArray, List.set_cons_zero, List.set_cons_succ]
          clear hK K
          refine wpQuiet_step (fun K hK => ?_)
          rw [if_pos (by rfl)]
          refine quiet_val (.bool e) ?_ (hK _ ?_)
          · intro W hW
            clear hK
            go_simp
          simp only [Act.put, List.setIfInBounds_toArray, List.set_cons_zero, List.set_cons_succ]
          clear hK K
          refine wpQuiet_step (fun K hK => ?_)
          rw [if_pos (by rfl)]
          refine quiet_val (.bool false) ?_ (hK _ ?_)
          · intro W hW
            clear hK
            go_simp
          simp only [Act.put, List.setIfInBounds_toArray, List.set_cons_zero, List.set_cons_succ]
          clear hK K
          refine wpQuiet_step (fun K hK => ?_)
          rw [if_pos (by rfl)]
          refine quiet_val (.bool false) ?_ (hK _ ?_)
          · intro W hW
            clear hK
            go_simp
          simp only [Act.put, List.setIfInBounds_toArray, List.set_cons_zero, List.set_cons_succ]
          clear hK K
          refine wpQuiet_nil ?_
          intro W8 hT8
          have HT8 := Lib.hid hT8
          clear hT8 HT
          go_wp2
          go_roundg (3 - 3)
          case rel => exact Lib.hid ⟨4, rfl, by omega, HT8.out⟩
          case measure => omega
        · go_wp2
          go_ret
          exact ⟨rfl, HT.out.bel⟩
end Go.Proofs.YtcalcdjpinadkaaDoor.ResA
