/- Several texts in one. -/
import Derived.Test.YtalcjolomigedaaDoorZGd
import Derived.Test.YtalcjolomigedaaDoorZGh
import Derived.Test.YtalcjolomigedaaDoorZGe
import Derived.Test.YtalcjolomigedaaDoorZGk
set_option linter.unusedVariables false
set_option linter.unusedSimpArgs false
namespace Go.Proofs.YtalcjolomigedaaDoor.Fp
open Go.RowKit Go.Proofs.YtalcjolomigedaaDoorW.PrintWords Go.Proofs.YtalcjolomigedaaDoorW.PrintLast Go.Proofs.YtalcjolomigedaaDoorW.PrintMore Go.Proofs.YtalcjolomigedaaDoor.Aid Go.Proofs.YtalcjolomigedaaDoor.J

theorem rd_new9 (W : World) (s : ByteArray) : Rd (W.alloc (.cells #[.string s, .int .i64 0] tRd)) W.heap.size s 0 (bytesOf s) := ⟨heap_alloc_new W _, Nat.zero_le _, List.drop_zero⟩
/-- What fjText hands back: a tree and whether the statement speaks of it. -/
def FtPost (s : ByteArray) (w : World) (e : Ending) (w' : World) : Prop := ∃ (x : Tn) (A2 : Option Addr) (c2 : Nat) (A3 : Option Addr) (c3 : Nat) (ok : Bool), Below w.heap.size w w' ∧ Kd.string.R tSt w' w.heap.size (fun _ => True) (.slice A2 x.keys.length c2) x.keys ∧ kTn.R tNd w' w.heap.size (fun _ => True) (.slice A3 x.kids.length c3) x.kids ∧
  e = .returned (.tuple #[.agg #[.int .i64 x.kind, .string x.text, .slice A2 x.keys.length c2, .slice A3 x.kids.length c3], .bool ok]) ∧ (ok = true → s.size ≤ 4000 ∧ valid (bytesOf s) = true ∧ prd (bytesOf s) = true ∧ readT s = some x ∧ (dep x ≤ 4294967296 → dep x ≤ 250))
theorem Sets.drew9 {B : Nat} {W W' : World} (h : Sets B W W') : Sets B W W'.drew := ⟨h.os, h.tape, h.output, h.size, h.block⟩
/-- But block B nothing has turned. -/
structure SetA (B : Nat) (W W' : World) : Prop where
  os : W'.os = W.os
  tape : W'.tape = W.tape
  output : W'.output = W.output
  size : W'.heap.size = W.heap.size
  block : ∀ k, k ≠ B → W'.heap[k]? = W.heap[k]?
theorem SetA.refl (B : Nat) (W : World) : SetA B W W := ⟨rfl, rfl, rfl, rfl, fun _ _ => rfl⟩
theorem SetA.set {B : Nat} {W W' : World} (h : SetA B W W') (j : Nat) (u : Value) : SetA B W (W'.setCell ⟨B, j, none⟩ u) :=
  ⟨h.os, h.tape, h.output, by simpa using h.size, fun k h0 => (Below.heap_setCell W' ⟨B, j, none⟩ u k h0).trans (h.block k h0)⟩
theorem SetA.R {α : Type} {d : Kd α} {e : Nat} {base : Nat} {ok : Nat → Prop} {v : Value} {xs : List α} {B : Nat} {W W' : World} (h : SetA B W W') (hr : d.R e W base ok v xs) (hB : B + 1 ≤ base) : d.R e W' B ok v xs :=
  Kd.R_lower (R_from hr fun k hk _ => h.block k (by omega)) (by omega)
theorem ft_no {s : ByteArray} {w W : World} (h : Rw w W) (W' : World) (hS : Sets w.heap.size W W') : FtPost s w (.returned (.tuple #[.agg #[.int .i64 0, .string ⟨#[]⟩, .slice none 0 0, .slice none 0 0], .bool false])) W' :=
  ⟨⟨0, ⟨#[]⟩, [], []⟩, none, 0, none, 0, false, (read_no h W' hS).1, Kd.R_nil _ _ _ _ _, Kd.R_nil _ _ _ _ _, rfl, fun e => by cases e⟩
theorem ft_yes {s : ByteArray} {w W : World} {x : Tn} {A3 A4 : Option Addr} {c3 c4 B : Nat} {ok : Bool} (h : Rw w W) (h3 : Kd.string.R tSt W B (fun _ => True) (.slice A3 x.keys.length c3) x.keys) (h4 : kTn.R tNd W B (fun _ => True) (.slice A4 x.kids.length c4) x.kids) (hB : w.heap.size + 1 ≤ B) (W' : World) (hS : SetA w.heap.size W W')
    (hok : ok = true → s.size ≤ 4000 ∧ valid (bytesOf s) = true ∧ prd (bytesOf s) = true ∧ readT s = some x ∧ (dep x ≤ 4294967296 → dep x ≤ 250)) :
    FtPost s w (.returned (.tuple #[.agg #[.int .i64 x.kind, .string x.text, .slice A3 x.keys.length c3, .slice A4 x.kids.length c4], .bool ok])) W' :=
  ⟨x, A3, c3, A4, c4, ok, ⟨hS.os.trans h.b.os, hS.tape.trans h.b.tape, hS.output.trans h.b.output, by rw [hS.size]; exact h.b.size, fun k hk => (hS.block k (by omega)).trans (h.b.block k hk)⟩, hS.R h3 hB, hS.R h4 hB, rfl, hok⟩
set_option maxHeartbeats 8000000 in
set_option maxRecDepth 100000 in
theorem fjText_any (s : ByteArray) (hs : s.size ≤ 2147483647) (w : World) :
    Calls Tryd.prog 12 #[.string s] w (FtPost s w) := by
  have HU := Lib.hid (fun W => UTF8_any s W hs)
  have HP := Lib.hid (fun W => KC.Paired_any s hs W)
  obtain ⟨u, hu⟩ : ∃ u, u = valid (bytesOf s) := ⟨_, rfl⟩
  obtain ⟨p, hp⟩ : ∃ p, p = prd (bytesOf s) := ⟨_, rfl⟩
  rw [← hu] at HU
  rw [← hp] at HP
  by_cases h4 : 4000 < s.size
  · have d1 : decide ((4000 : Int) < (s.size : Int)) = true := decide_eq_true (by omega)
    have d2 : decide (4000 < s.size) = true := decide_eq_true h4
    clear hu hp HU HP
    go_enter Tryd.func12, Tryd.ntmps12
    go_wp2
    have HT := Lib.hid (Rw.start w)
    have r0 := blk_cell HT.out.r 0; have r1 := blk_cell HT.out.r 1; have r2 := blk_cell HT.out.r 2; have r3 := blk_cell HT.out.r 3; have g0 := blk_frozen HT.out.r 0; have g1 := blk_frozen HT.out.r 1; have g2 := blk_frozen HT.out.r 2; have g3 := blk_frozen HT.out.r 3
    refine bodyPost_ret (v := .tuple #[.agg #[.int .i64 0, .string ⟨#[]⟩, .slice none 0 0, .slice none 0 0], .bool false]) ?_ rfl ?_
    · simp [results, Tryd.results12, go_sem, r0, r1, r2, r3, g0, g1, g2, g3]
    · refine ft_no HT.out _ ?_; repeat (first | with_reducible exact Sets.refl _ _ | with_reducible apply Sets.set0 | with_reducible apply Sets.set1)
  have d1 : decide ((4000 : Int) < (s.size : Int)) = false := decide_eq_false (by omega)
  have d2 : decide (4000 < s.size) = false := decide_eq_false h4
  cases u with
  | false =>
    clear hu hp HP
    go_enter Tryd.func12, Tryd.ntmps12
    go_wp2_with (go_at_call 29; refine (HU.out _).mono ?_; rintro e w1 ⟨rfl, hd⟩; have HT := Lib.hid ((Rw.start w).below hd.below); clear hd; have r0 := blk_cell HT.out.r 0; have r1 := blk_cell HT.out.r 1; have r2 := blk_cell HT.out.r 2; have r3 := blk_cell HT.out.r 3; have g0 := blk_frozen HT.out.r 0; have g1 := blk_frozen HT.out.r 1; have g2 := blk_frozen HT.out.r 2; have g3 := blk_frozen HT.out.r 3)
    refine bodyPost_ret (v := .tuple #[.agg #[.int .i64 0, .string ⟨#[]⟩, .slice none 0 0, .slice none 0 0], .bool false]) ?_ rfl ?_
    · simp [results, Tryd.results12, go_sem, r0, r1, r2, r3, g0, g1, g2, g3]
    · refine ft_no HT.out _ ?_; repeat (first | with_reducible exact Sets.refl _ _ | with_reducible apply Sets.set0 | with_reducible apply Sets.set1)
  | true =>
  cases p with
  | false =>
    clear hu hp
    go_enter Tryd.func12, Tryd.ntmps12
    go_wp2_with (first
      | (go_at_call 29; refine (HU.out _).mono ?_; rintro e w1 ⟨rfl, hd⟩; have HT := Lib.hid ((Rw.start w).below hd.below); clear hd)
      | (go_at_call 30; refine (HP.out _).mono ?_; rintro e w2 ⟨rfl, hd⟩; replace HT := Lib.hid (HT.out.below hd); clear hd; have r0 := blk_cell HT.out.r 0; have r1 := blk_cell HT.out.r 1; have r2 := blk_cell HT.out.r 2; have r3 := blk_cell HT.out.r 3; have g0 := blk_frozen HT.out.r 0; have g1 := blk_frozen HT.out.r 1; have g2 := blk_frozen HT.out.r 2; have g3 := blk_frozen HT.out.r 3))
    refine bodyPost_ret (v := .tuple #[.agg #[.int .i64 0, .string ⟨#[]⟩, .slice none 0 0, .slice none 0 0], .bool false]) ?_ rfl ?_
    · simp [results, Tryd.results12, go_sem, r0, r1, r2, r3, g0, g1, g2, g3]
    · refine ft_no HT.out _ ?_; repeat (first | with_reducible exact Sets.refl _ _ | with_reducible apply Sets.set0 | with_reducible apply Sets.set1)
  | true =>
  have HR := Lib.hid (fun W => Read_any s hs W)
  cases hx : readT s with
  | none =>
    rw [hx] at HR
    clear hu hp hx
    go_enter Tryd.func12, Tryd.ntmps12
    go_wp2_with (first
      | (go_at_call 29; refine (HU.out _).mono ?_; rintro e w1 ⟨rfl, hd⟩; have HT := Lib.hid ((Rw.start w).below hd.below); clear hd)
      | (go_at_call 30; refine (HP.out _).mono ?_; rintro e w2 ⟨rfl, hd⟩; replace HT := Lib.hid (HT.out.below hd); clear hd)
      | (go_at_call 31; refine (HR.out _).mono ?_; rintro e w3 ⟨hb, rfl⟩; replace HT := Lib.hid ((HT.out.below hb).below (below_alloc (Below.refl _ _) (.cells #[.int .i64 0, .string ⟨#[]⟩, .slice none 0 0, .slice none 0 0] tNd))); clear hb; have r0 := blk_cell HT.out.r 0; have r1 := blk_cell HT.out.r 1; have r2 := blk_cell HT.out.r 2; have r3 := blk_cell HT.out.r 3; have g0 := blk_frozen HT.out.r 0; have g1 := blk_frozen HT.out.r 1; have g2 := blk_frozen HT.out.r 2; have g3 := blk_frozen HT.out.r 3))
    go_region
    go_wp2
    refine bodyPost_ret (v := .tuple #[.agg #[.int .i64 0, .string ⟨#[]⟩, .slice none 0 0, .slice none 0 0], .bool false]) ?_ rfl ?_
    · simp [results, Tryd.results12, go_sem, r0, r1, r2, r3, g0, g1, g2, g3]
    · refine ft_no HT.out _ ?_; refine Sets.drew9 ?_; repeat (first | with_reducible exact Sets.refl _ _ | with_reducible apply Sets.set0 | with_reducible apply Sets.set1)
  | some x =>
    rw [hx] at HR
    have HS := Lib.hid (fun W A2 A3 c2 c3 => dep_any x (by
      unfold readT at hx
      cases ht : text (bytesOf s) with
      | none => rw [ht] at hx; cases hx
      | some p =>
        rw [ht] at hx
        rw [← Option.some.inj hx]
        exact sm_tree hs p (text_okT ht)) W A2 A3 c2 c3)
    have HK := Lib.hid (And.intro h4 (And.intro hu.symm (And.intro hp.symm hx)))
    clear hu hp hx h4
    go_enter Tryd.func12, Tryd.ntmps12
    go_wp2_with (first
      | (go_at_call 29; refine (HU.out _).mono ?_; rintro e w1 ⟨rfl, hd⟩; have HT := Lib.hid ((Rw.start w).below hd.below); clear hd)
      | (go_at_call 30; refine (HP.out _).mono ?_; rintro e w2 ⟨rfl, hd⟩; replace HT := Lib.hid (HT.out.below hd); clear hd)
      | (go_at_call 31; refine (HR.out _).mono ?_; rintro e w3 ⟨A2, c2, A3, c3, hb, h2, h3, rfl⟩; have hT := HT.out.below hb; have hz := hT.size; have HQ := Lib.hid HT.out.size; have hb4 := below_alloc (Below.refl w3.heap.size w3) (.cells #[.int .i64 x.kind, .string x.text, .slice A2 x.keys.length c2, .slice A3 x.kids.length c3] tNd); replace h2 := Kd.R_below h2 hb4; replace h3 := Kd.R_below h3 hb4; replace hT := hT.below hb4; have HX := Lib.hid (And.intro hT (And.intro h2 h3)); have e2 := Kd.R_reads' h2; have e3 := Kd.R_reads' h3; have KU := Lib.hid (HS.out (w3.alloc (.cells #[.int .i64 x.kind, .string x.text, .slice A2 x.keys.length c2, .slice A3 x.kids.length c3] tNd)).drew A2 A3 c2 c3 e2.2.1 (Kd.C_below e2.2.2 (below_drew (Below.refl _ _))) e3.2.1 (Kd.C_below e3.2.2 (below_drew (Below.refl _ _)))); clear HT hb hb4 h2 h3 hT e2 e3; have r0 := blk_cell HX.out.1.r 0; have r1 := blk_cell HX.out.1.r 1; have r2 := blk_cell HX.out.1.r 2; have r3 := blk_cell HX.out.1.r 3; have g0 := blk_frozen HX.out.1.r 0; have g1 := blk_frozen HX.out.1.r 1; have g2 := blk_frozen HX.out.1.r 2; have g3 := blk_frozen HX.out.1.r 3))
    clear r0 r1 r2 r3 g0 g1 g2 g3
    have hN := blk_new w3 (.cells #[.int .i64 x.kind, .string x.text, .slice A2 x.keys.length c2, .slice A3 x.kids.length c3] tNd)
    have hltn : w.heap.size < w3.heap.size := by omega
    obtain ⟨nb, hnb⟩ : ∃ nb, nb = w3.heap.size := ⟨_, rfl⟩
    obtain ⟨WN, hWN⟩ : ∃ W, W = w3.alloc (.cells #[.int .i64 x.kind, .string x.text, .slice A2 x.keys.length c2, .slice A3 x.kids.length c3] tNd) := ⟨_, rfl⟩
    rw [← hnb] at hN hltn ⊢
    rw [← hWN] at HX KU hN ⊢
    clear hnb hWN hz
    have n0 := blk_cell hN 0; have n1 := blk_cell hN 1; have n2 := blk_cell hN 2; have n3 := blk_cell hN 3
    have HN := Lib.hid hN
    clear hN
    have hS0 : WN.drew.cell? ⟨nb, 0, none⟩ = some (.int .i64 x.kind) ∧ WN.drew.cell? ⟨nb, 1, none⟩ = some (.string x.text) ∧ WN.drew.cell? ⟨nb, 2, none⟩ = some (.slice A2 x.keys.length c2) ∧ WN.drew.cell? ⟨nb, 3, none⟩ = some (.slice A3 x.kids.length c3) := ⟨n0, n1, n2, n3⟩
    have hne : nb ≠ w.heap.size := by omega
    go_region_held3 (fun W => W.cell? ⟨nb, 0, none⟩ = some (.int .i64 x.kind) ∧ W.cell? ⟨nb, 1, none⟩ = some (.string x.text) ∧ W.cell? ⟨nb, 2, none⟩ = some (.slice A2 x.keys.length c2) ∧ W.cell? ⟨nb, 3, none⟩ = some (.slice A3 x.kids.length c3))
      (first | (with_reducible exact hS0) | (with_reducible exact hS1) | (with_reducible exact hS2 _ _ _ _))
      ((first
        | (go_at_call 32; refine KU.out.mono ?_; rintro e w4 ⟨d, rfl, hd, hb⟩; have hb := below_then (below_drew (Below.refl _ _)) (Nat.le_refl _) hb; have HY := Lib.hid (HX.out.1.below hb); have HZ := Lib.hid (And.intro (Kd.R_below HX.out.2.1 hb) (Kd.R_below HX.out.2.2 hb)); have HD := Lib.hid hd; have hN4 := blk_below HN.out hb; have hS1 : w4.cell? ⟨nb, 0, none⟩ = some (.int .i64 x.kind) ∧ w4.cell? ⟨nb, 1, none⟩ = some (.string x.text) ∧ w4.cell? ⟨nb, 2, none⟩ = some (.slice A2 x.keys.length c2) ∧ w4.cell? ⟨nb, 3, none⟩ = some (.slice A3 x.kids.length c3) := ⟨blk_cell hN4 0, blk_cell hN4 1, blk_cell hN4 2, blk_cell hN4 3⟩; have hS2 : ∀ u0 u1 u2 u3, (fun W : World => W.cell? ⟨nb, 0, none⟩ = some (.int .i64 x.kind) ∧ W.cell? ⟨nb, 1, none⟩ = some (.string x.text) ∧ W.cell? ⟨nb, 2, none⟩ = some (.slice A2 x.keys.length c2) ∧ W.cell? ⟨nb, 3, none⟩ = some (.slice A3 x.kids.length c3)) ((((w4.setCell ⟨w.heap.size, 0, none⟩ u0).setCell ⟨w.heap.size, 1, none⟩ u1).setCell ⟨w.heap.size, 2, none⟩ u2).setCell ⟨w.heap.size, 3, none⟩ u3) := fun u0 u1 u2 u3 => ⟨by rw [cell_far _ _ _ _ hne, cell_far _ _ _ _ hne, cell_far _ _ _ _ hne, cell_far _ _ _ _ hne]; exact hS1.1, by rw [cell_far _ _ _ _ hne, cell_far _ _ _ _ hne, cell_far _ _ _ _ hne, cell_far _ _ _ _ hne]; exact hS1.2.1, by rw [cell_far _ _ _ _ hne, cell_far _ _ _ _ hne, cell_far _ _ _ _ hne, cell_far _ _ _ _ hne]; exact hS1.2.2.1, by rw [cell_far _ _ _ _ hne, cell_far _ _ _ _ hne, cell_far _ _ _ _ hne, cell_far _ _ _ _ hne]; exact hS1.2.2.2⟩; clear hd hb hN4; have r0 := blk_cell HY.out.r 0; have r1 := blk_cell HY.out.r 1; have r2 := blk_cell HY.out.r 2; have r3 := blk_cell HY.out.r 3; have g0 := blk_frozen HY.out.r 0; have g1 := blk_frozen HY.out.r 1; have g2 := blk_frozen HY.out.r 2; have g3 := blk_frozen HY.out.r 3)))
    all_goals
      go_wp2
      refine bodyPost_ret (v := .tuple #[.agg #[.int .i64 x.kind, .string x.text, .slice A2 x.keys.length c2, .slice A3 x.kids.length c3], .bool (decide (d ≤ 250))]) ?_ rfl ?_
      · simp [results, Tryd.results12, go_sem, r0, r1, r2, r3, g0, g1, g2, g3]
      · refine ft_yes HY.out HZ.out.1 HZ.out.2 HQ.out _ ?_ (fun e => ?_)
        · repeat (first | with_reducible exact SetA.refl _ _ | with_reducible apply SetA.set)
        · obtain ⟨k1, k2, k3, k4⟩ := HK.out
          exact ⟨by omega, k2, k3, k4, fun hd => by have h1 := HD.out hd; have h2 := of_decide_eq_true e; omega⟩
end Go.Proofs.YtalcjolomigedaaDoor.Fp

set_option linter.unusedVariables false
set_option linter.unusedSimpArgs false
namespace Go.Proofs.YtalcjolomigedaaDoor.Fp
open Go.RowKit Go.Proofs.YtalcjolomigedaaDoorW.PrintWords Go.Proofs.YtalcjolomigedaaDoorW.PrintLast Go.Proofs.YtalcjolomigedaaDoorW.PrintMore Go.Proofs.YtalcjolomigedaaDoor.Aid Go.Proofs.YtalcjolomigedaaDoor.J

set_option maxHeartbeats 4000000 in
set_option maxRecDepth 100000 in
theorem IsNumber_any (s : ByteArray) (hs : s.size ≤ 2147483647) (w : World) :
    Calls Tryd.prog 54 #[.string s] w fun e w' => (∃ b, e = .returned (.bool b) ∧ (b = true ↔ J.num (bytesOf s) = some [])) ∧ Below w.heap.size w w' := by
  have HR := Lib.hid (rd_new9 w s)
  obtain ⟨r, hr⟩ : ∃ r, r = J.num (bytesOf s) := ⟨_, rfl⟩
  rw [← hr]
  have HC := Lib.hid (number_any w.heap.size s 0 (bytesOf s) (w.alloc (.cells #[.string s, .int .i64 0] tRd)) hs HR.out)
  rw [← hr] at HC
  clear hr
  go_enter Tryd.func54, Tryd.ntmps54
  cases r with
  | none =>
    go_wp2_with (go_at_call 81; refine HC.out.mono ?_; rintro e w1 ⟨b, t, hr, hb, rfl, hu⟩; have HB := Lib.hid ((below_alloc (Below.refl _ _) _ : Below w.heap.size w (w.alloc (.cells #[.string s, .int .i64 0] tRd))).trans (hb.to_below (Nat.le_refl _) (by simp))); clear hr hb hu)
    go_ret
    exact ⟨⟨false, rfl, by simp⟩, HB.out⟩
  | some u =>
    go_wp2_with (go_at_call 81; refine HC.out.mono ?_; rintro e w1 ⟨b, t, hr, hb, rfl, hu⟩; have HB := Lib.hid ((below_alloc (Below.refl _ _) _ : Below w.heap.size w (w.alloc (.cells #[.string s, .int .i64 0] tRd))).trans (hb.to_below (Nat.le_refl _) (by simp))); have c1 := hr.cell1; have hl := Lib.hid hr.len; have hu := Lib.hid (hu u rfl); clear hr hb)
    go_ret
    refine ⟨⟨_, rfl, ?_⟩, HB.out⟩
    have a := hl.out
    rw [hu.out] at a
    constructor
    · intro h
      have : (b : Int) = (s.size : Int) := by simpa using h
      rw [List.eq_nil_of_length_eq_zero (l := u) (by omega)]
    · intro h
      rw [Option.some.inj h] at a
      simp only [List.length_nil] at a
      have : (b : Int) = (s.size : Int) := by omega
      simpa using this
/-- What is behind a minus sign. -/
def tl (l : L) : L := match l with | [] => [] | c :: t => if c = 45 then t else c :: t
def WhPost (s : ByteArray) (w : World) (e : Ending) (w' : World) : Prop := ∃ (neg : Bool) (q : ByteArray) (ok : Bool), e = .returned (.tuple #[.bool neg, .string q, .bool ok]) ∧ Below w.heap.size w w' ∧ (J.num (bytesOf s) = some [] → (∀ c ∈ tl (bytesOf s), dig c = true) → ok = true ∧ q.size = (tl (bytesOf s)).length)
set_option maxHeartbeats 4000000 in
set_option maxRecDepth 100000 in
theorem Whole_any (s : ByteArray) (hs : s.size ≤ 2147483647) (w : World) :
    Calls Tryd.prog 33 #[.string s] w (WhPost s w) := by
  have HI := Lib.hid (fun W => IsNumber_any s hs W)
  by_cases hn : J.num (bytesOf s) = some []
  case neg =>
    have HN := Lib.hid hn
    clear hn
    go_enter Tryd.func33, Tryd.ntmps33
    go_wp2_with (go_at_call 54; refine (HI.out _).mono ?_; rintro e w1 ⟨⟨b, rfl, hb1⟩, hb⟩; obtain rfl : b = false := Bool.eq_false_iff.2 (fun h => HN.out (hb1.1 h)); have HB := Lib.hid hb; clear hb hb1)
    go_ret3
    exact ⟨false, _, false, rfl, HB.out, fun h => absurd h HN.out⟩
  case pos =>
    have hz : 0 < s.size := by
      rcases Nat.eq_zero_or_pos s.size with h | h
      · have : bytesOf s = [] := List.eq_nil_of_length_eq_zero (by rw [bytesOf_length]; exact h)
        rw [this] at hn; cases hn
      · exact h
    have hc := from_cons s 0 hz
    rw [show from_ s 0 = bytesOf s from rfl] at hc
    have HN := Lib.hid hn
    have Q : ∃ (q : ByteArray), (bytesOf q = tl (bytesOf s)) ∧ q.size ≤ 2147483647 ∧ ((((s[0]'hz).toNat : Int) = 45 ∧ q = s.extract 1 s.size) ∨ (((s[0]'hz).toNat : Int) ≠ 45 ∧ q = s)) := by
      by_cases h45 : ((s[0]'hz).toNat : Int) = 45
      · exact ⟨s.extract 1 s.size, by rw [by_from, hc, tl, if_pos h45]; rfl, by rw [ByteArray.size_extract]; omega, .inl ⟨h45, rfl⟩⟩
      · exact ⟨s, by rw [hc, tl, if_neg h45], hs, .inr ⟨h45, rfl⟩⟩
    obtain ⟨q, hq, hqs, hcase⟩ := Q
    have ksl := sl_from s 1 (by omega)
    have HQ := Lib.hid hq
    have HC := Lib.hid hc
    clear hn hq hc
    rcases hcase with ⟨h45, hqe⟩ | ⟨h45, hqe⟩
    case inl =>
      have b45 : (((s[0]'hz).toNat : Int) == 45) = true := beq_iff_eq.mpr h45
      have HE := Lib.hid hqe
      clear hqe h45
      go_enter Tryd.func33, Tryd.ntmps33
      go_wp2_with (go_at_call 54; refine (HI.out _).mono ?_; rintro e w1 ⟨⟨b, rfl, hb1⟩, hb⟩; obtain rfl : b = true := hb1.2 HN.out; have HB := Lib.hid hb; clear hb hb1)
      rw [← HE.out]
      go_loopg [6] q.size (fun kq v6 w' => Hid (∃ a : Nat, v6 = .int .i64 (a : Nat) ∧ a + kq = q.size ∧ w' = w1))
      case atStart => exact Lib.hid ⟨0, rfl, by omega, rfl⟩
      case round =>
        obtain ⟨a, rfl, hak, rfl⟩ := hrel.out
        clear hrel
        rcases Nat.lt_or_ge a q.size with hlt | hge
        · have hm : Hid (((q[a]'hlt).toNat : Int) ∈ tl (bytesOf s)) := Lib.hid (by
            rw [← HQ.out]
            have h := from_cons q a hlt
            refine List.mem_of_mem_drop (i := a) ?_
            show _ ∈ from_ q a
            rw [h]; exact List.mem_cons_self)
          have hk : Hid (a + gk = q.size) := Lib.hid hak
          clear hak
          by_cases d1 : 48 ≤ ((q[a]'hlt).toNat : Int)
          · by_cases d2 : ((q[a]'hlt).toNat : Int) ≤ 57
            · go_wp2
              go_roundg (q.size - (a + 1))
              case rel => exact Lib.hid ⟨a + 1, by go_num, by omega, rfl⟩
              case measure => have := hk.out; omega
            · have hd : Hid (dig ((q[a]'hlt).toNat : Int) = false) := Lib.hid (by unfold dig; simp; omega)
              go_wp2
              go_ret3
              exact ⟨false, _, false, rfl, HB.out, fun _ h => by have := h _ hm.out; rw [hd.out] at this; cases this⟩
          · have hd : Hid (dig ((q[a]'hlt).toNat : Int) = false) := Lib.hid (by unfold dig; simp; omega)
            go_wp2
            go_ret3
            exact ⟨false, _, false, rfl, HB.out, fun _ h => by have := h _ hm.out; rw [hd.out] at this; cases this⟩
        · go_wp2
          go_ret3
          exact ⟨_, q, true, rfl, HB.out, fun _ _ => ⟨rfl, by rw [← HQ.out, bytesOf_length]⟩⟩
    case inr =>
      have b45 : (((s[0]'hz).toNat : Int) == 45) = false := beq_eq_false_iff_ne.mpr h45
      subst hqe
      clear h45
      go_enter Tryd.func33, Tryd.ntmps33
      go_wp2_with (go_at_call 54; refine (HI.out _).mono ?_; rintro e w1 ⟨⟨b, rfl, hb1⟩, hb⟩; obtain rfl : b = true := hb1.2 HN.out; have HB := Lib.hid hb; clear hb hb1)
      go_loopg [6] q.size (fun kq v6 w' => Hid (∃ a : Nat, v6 = .int .i64 (a : Nat) ∧ a + kq = q.size ∧ w' = w1))
      case atStart => exact Lib.hid ⟨0, rfl, by omega, rfl⟩
      case round =>
        obtain ⟨a, rfl, hak, rfl⟩ := hrel.out
        clear hrel
        rcases Nat.lt_or_ge a q.size with hlt | hge
        · have hm : Hid (((q[a]'hlt).toNat : Int) ∈ tl (bytesOf q)) := Lib.hid (by
            rw [← HQ.out]
            have h := from_cons q a hlt
            refine List.mem_of_mem_drop (i := a) ?_
            show _ ∈ from_ q a
            rw [h]; exact List.mem_cons_self)
          have hk : Hid (a + gk = q.size) := Lib.hid hak
          clear hak
          by_cases d1 : 48 ≤ ((q[a]'hlt).toNat : Int)
          · by_cases d2 : ((q[a]'hlt).toNat : Int) ≤ 57
            · go_wp2
              go_roundg (q.size - (a + 1))
              case rel => exact Lib.hid ⟨a + 1, by go_num, by omega, rfl⟩
              case measure => have := hk.out; omega
            · have hd : Hid (dig ((q[a]'hlt).toNat : Int) = false) := Lib.hid (by unfold dig; simp; omega)
              go_wp2
              go_ret3
              exact ⟨false, _, false, rfl, HB.out, fun _ h => by have := h _ hm.out; rw [hd.out] at this; cases this⟩
          · have hd : Hid (dig ((q[a]'hlt).toNat : Int) = false) := Lib.hid (by unfold dig; simp; omega)
            go_wp2
            go_ret3
            exact ⟨false, _, false, rfl, HB.out, fun _ h => by have := h _ hm.out; rw [hd.out] at this; cases this⟩
        · go_wp2
          go_ret3
          exact ⟨_, q, true, rfl, HB.out, fun _ _ => ⟨rfl, by rw [← HQ.out, bytesOf_length]⟩⟩
/-- fjSmall of a node. -/
def SmPost (x : Tn) (w : World) (e : Ending) (w' : World) : Prop := ∃ b : Bool, e = .returned (.bool b) ∧ Below w.heap.size w w' ∧ (b = true → x.kind = 3 → J.num (bytesOf x.text) = some [] → (∀ c ∈ tl (bytesOf x.text), dig c = true) → (tl (bytesOf x.text)).length ≤ 18)
set_option maxHeartbeats 4000000 in
set_option maxRecDepth 100000 in
theorem fjSmall_any (x : Tn) (hs : x.text.size ≤ 2147483647) (w : World) (A2 A3 : Option Addr) (n2 c2 n3 c3 : Nat) :
    Calls Tryd.prog 13 #[.agg #[.int .i64 x.kind, .string x.text, .slice A2 n2 c2, .slice A3 n3 c3]] w (SmPost x w) := by
  have HW := Lib.hid (fun W => Whole_any x.text hs W)
  go_enter Tryd.func13, Tryd.ntmps13
  go_wp2_with (go_at_call 33; refine (HW.out _).mono ?_; rintro e w1 ⟨neg, q, ok, rfl, hb, hq⟩; have hD := (Dw.start w #[.int .i64 x.kind, .string x.text, .slice A2 n2 c2, .slice A3 n3 c3]).below hb; have c0 := blk_cell hD.p 0; have HB := Lib.hid hD.b; have HQ := Lib.hid hq; clear hb hq hD)
  all_goals
    go_ret
    refine ⟨_, rfl, HB.out, fun hb hk hn hd => ?_⟩
    obtain ⟨o1, o2⟩ := HQ.out hn hd
    first
      | (have := of_decide_eq_true hb; omega)
      | contradiction
end Go.Proofs.YtalcjolomigedaaDoor.Fp
