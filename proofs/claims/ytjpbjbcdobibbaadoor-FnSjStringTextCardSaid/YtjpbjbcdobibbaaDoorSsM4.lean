/- Several texts in one. -/
import Derived.Test.YtjpbjbcdobibbaaDoorSsM1
import Derived.Test.YtjpbjbcdobibbaaDoorSsM3
import Derived.Test.YtjpbjbcdobibbaaDoorSsM2
import Derived.Test.YtjpbjbcdobibbaaDoorRows
import Derived.Lib.LaidU8
/- The walk of the reader's values. -/
set_option linter.unusedVariables false
set_option linter.unusedSimpArgs false
namespace Go.Proofs.YtjpbjbcdobibbaaDoor.J
open Go.RowKit Go.Proofs.YtjpbjbcdobibbaaDoorW.PrintWords Go.Proofs.YtjpbjbcdobibbaaDoorW.PrintLast Go.Proofs.YtjpbjbcdobibbaaDoorW.PrintMore Go.Proofs.YtjpbjbcdobibbaaDoor.Aid

/-- Stores into the blocks B and B + 1 alone. -/
structure Sets (B : Nat) (W W' : World) : Prop where
  os : W'.os = W.os
  tape : W'.tape = W.tape
  output : W'.output = W.output
  size : W'.heap.size = W.heap.size
  block : ∀ k, k ≠ B → k ≠ B + 1 → W'.heap[k]? = W.heap[k]?
theorem Sets.refl (B : Nat) (W : World) : Sets B W W := ⟨rfl, rfl, rfl, rfl, fun _ _ _ => rfl⟩
theorem Sets.set0 {B : Nat} {W W' : World} (h : Sets B W W') (j : Nat) (u : Value) : Sets B W (W'.setCell ⟨B, j, none⟩ u) :=
  ⟨h.os, h.tape, h.output, by simpa using h.size, fun k h0 h1 => (Below.heap_setCell W' ⟨B, j, none⟩ u k h0).trans (h.block k h0 h1)⟩
theorem Sets.set1 {B : Nat} {W W' : World} (h : Sets B W W') (j : Nat) (u : Value) : Sets B W (W'.setCell ⟨B + 1, j, none⟩ u) :=
  ⟨h.os, h.tape, h.output, by simpa using h.size, fun k h0 h1 => (Below.heap_setCell W' ⟨B + 1, j, none⟩ u k h1).trans (h.block k h0 h1)⟩
theorem Sets.but {g : Nat} {w W W' : World} (h : Sets w.heap.size W W') (hb : But g w W) : But g w W' :=
  ⟨h.os.trans hb.os, h.tape.trans hb.tape, h.output.trans hb.output, by rw [h.size]; exact hb.size, fun i hi hg => (h.block i (by omega) (by omega)).trans (hb.block i hi hg)⟩
theorem Sets.rd {B g a : Nat} {s : ByteArray} {l : L} {W W' : World} (h : Sets B W W') (hr : Rd W g s a l) (hg : g < B) : Rd W' g s a l := hr.of_block (h.block g (by omega) (by omega))
theorem Sets.R {α : Type} {d : Kd α} {e : Nat} {base : Nat} {ok : Nat → Prop} {v : Value} {xs : List α} {B : Nat} {W W' : World} (h : Sets B W W') (hr : d.R e W base ok v xs) (hB : B + 2 ≤ base) : d.R e W' B ok v xs :=
  Kd.R_lower (R_from hr fun k hk _ => h.block k (by omega) (by omega)) (by omega)

def zeroPl : Array Value := #[.int .i64 0, .int .i64 0, .int .i64 0, .slice none 0 0, .slice none 0 0]
/-- The two blocks of a call of value: the result's, the place's. -/
structure Two (g : Nat) (s : ByteArray) (w : World) (a : Nat) (l : L) (k : Int) (W : World) : Prop where
  b0 : W.heap[w.heap.size]? = some (.cells #[.int .i64 0, .int .i64 0, .int .i64 0, .slice none 0 0, .slice none 0 0] tPl (0, 0))
  b1 : W.heap[w.heap.size + 1]? = some (.cells #[.int .i64 k, .int .i64 a, .int .i64 0, .slice none 0 0, .slice none 0 0] tPl (0, 0))
  sz : w.heap.size + 2 ≤ W.heap.size
  but : But g w W
theorem Two.start {g : Nat} {s : ByteArray} {w : World} {a : Nat} {l : L} : Two g s w a l 0 ((w.alloc (.cells #[.int .i64 0, .int .i64 0, .int .i64 0, .slice none 0 0, .slice none 0 0] tPl)).alloc (.cells #[.int .i64 0, .int .i64 a, .int .i64 0, .slice none 0 0, .slice none 0 0] tPl)) where
  b0 := blk_alloc (blk_new _ _) _
  b1 := by have := blk_new (w.alloc (.cells #[.int .i64 0, .int .i64 0, .int .i64 0, .slice none 0 0, .slice none 0 0] tPl)) (.cells #[.int .i64 0, .int .i64 a, .int .i64 0, .slice none 0 0, .slice none 0 0] tPl); simpa using this
  sz := by simp
  but := ((But.refl g w).alloc _).alloc _
theorem Two.drewN {g : Nat} {s : ByteArray} {w : World} {a : Nat} {l : L} {k : Int} {W : World} (h : Two g s w a l k W) (n : Nat) : Two g s w a l k (W.drewN n) := ⟨h.b0, h.b1, h.sz, h.but.drewN n⟩
theorem Two.kind {g : Nat} {s : ByteArray} {w : World} {a : Nat} {l : L} {k : Int} {W : World} (h : Two g s w a l k W) (k' : Int) : Two g s w a l k' (W.setCell ⟨w.heap.size + 1, 0, none⟩ (.int .i64 k')) where
  b0 := blk_far h.b0 (by simp) _
  b1 := blk_set h.b1 0 _
  sz := by simpa using h.sz
  but := h.but.setNew _ (by simp) _
theorem Two.then {g : Nat} {s : ByteArray} {w : World} {a : Nat} {l : L} {k : Int} {W W' : World} (h : Two g s w a l k W) (hb : But g W W') (hg : g < w.heap.size) : Two g s w a l k W' where
  b0 := (hb.block _ (by have := h.sz; omega) (by omega)).trans h.b0
  b1 := (hb.block _ (by have := h.sz; omega) (by omega)).trans h.b1
  sz := Nat.le_trans h.sz hb.size
  but := h.but.trans hb
theorem Two.cells0 {g : Nat} {s : ByteArray} {w : World} {a : Nat} {l : L} {k : Int} {W : World} (h : Two g s w a l k W) :
    (W.cell? ⟨w.heap.size, 0, none⟩ = some (.int .i64 0) ∧ W.cell? ⟨w.heap.size, 1, none⟩ = some (.int .i64 0) ∧ W.cell? ⟨w.heap.size, 2, none⟩ = some (.int .i64 0) ∧ W.cell? ⟨w.heap.size, 3, none⟩ = some (.slice none 0 0) ∧ W.cell? ⟨w.heap.size, 4, none⟩ = some (.slice none 0 0)) ∧
    W.frozen? ⟨w.heap.size, 0, none⟩ = false ∧ W.frozen? ⟨w.heap.size, 1, none⟩ = false ∧ W.frozen? ⟨w.heap.size, 2, none⟩ = false ∧ W.frozen? ⟨w.heap.size, 3, none⟩ = false ∧ W.frozen? ⟨w.heap.size, 4, none⟩ = false :=
  ⟨⟨(blk_cell h.b0 0).trans rfl, (blk_cell h.b0 1).trans rfl, (blk_cell h.b0 2).trans rfl, (blk_cell h.b0 3).trans rfl, (blk_cell h.b0 4).trans rfl⟩, blk_frozen h.b0 0, blk_frozen h.b0 1, blk_frozen h.b0 2, blk_frozen h.b0 3, blk_frozen h.b0 4⟩
theorem Two.cells1 {g : Nat} {s : ByteArray} {w : World} {a : Nat} {l : L} {k : Int} {W : World} (h : Two g s w a l k W) :
    (W.cell? ⟨w.heap.size + 1, 0, none⟩ = some (.int .i64 k) ∧ W.cell? ⟨w.heap.size + 1, 1, none⟩ = some (.int .i64 a) ∧ W.cell? ⟨w.heap.size + 1, 2, none⟩ = some (.int .i64 0) ∧ W.cell? ⟨w.heap.size + 1, 3, none⟩ = some (.slice none 0 0) ∧ W.cell? ⟨w.heap.size + 1, 4, none⟩ = some (.slice none 0 0)) ∧
    W.frozen? ⟨w.heap.size + 1, 0, none⟩ = false ∧ W.frozen? ⟨w.heap.size + 1, 1, none⟩ = false ∧ W.frozen? ⟨w.heap.size + 1, 2, none⟩ = false ∧ W.frozen? ⟨w.heap.size + 1, 3, none⟩ = false ∧ W.frozen? ⟨w.heap.size + 1, 4, none⟩ = false :=
  ⟨⟨(blk_cell h.b1 0).trans rfl, (blk_cell h.b1 1).trans rfl, (blk_cell h.b1 2).trans rfl, (blk_cell h.b1 3).trans rfl, (blk_cell h.b1 4).trans rfl⟩, blk_frozen h.b1 0, blk_frozen h.b1 1, blk_frozen h.b1 2, blk_frozen h.b1 3, blk_frozen h.b1 4⟩

theorem leaf_no {g b : Nat} {s : ByteArray} {l : L} {w W : World} {k b0 e0 : Int} (hr : Rd W g s b l) (hg : g < w.heap.size) (hT : But g w W) (W' : World) (hS : Sets w.heap.size W W') :
    VPost g s w none (.returned (.tuple #[.agg #[.int .i64 k, .int .i64 b0, .int .i64 e0, .slice none 0 0, .slice none 0 0], .bool false])) W' := ⟨b, l, k, b0, e0, hS.rd hr hg, hS.but hT, rfl⟩
theorem leaf_yes {g b : Nat} {s : ByteArray} {l : L} {w W : World} {k b0 e0 : Int} (hr : Rd W g s b l) (hg : g < w.heap.size) (hT : But g w W) (W' : World) (hS : Sets w.heap.size W W') :
    VPost g s w (some (⟨k, b0, e0, [], []⟩, l)) (.returned (.tuple #[.agg #[.int .i64 k, .int .i64 b0, .int .i64 e0, .slice none 0 0, .slice none 0 0], .bool true])) W' :=
  ⟨b, none, 0, none, 0, hS.rd hr hg, hS.but hT, Kd.R_nil _ _ _ _ _, Kd.R_nil _ _ _ _ _, rfl⟩
theorem leaf_kids {g b : Nat} {s : ByteArray} {l : L} {w W : World} {k b0 e0 : Int} {ns : List Sp} {ks : List Pl} {A3 A4 : Option Addr} {c3 c4 B : Nat} (hr : Rd W g s b l) (hg : g < w.heap.size) (hT : But g w W)
    (h3 : kSp.R tSp W B (fun _ => True) (.slice A3 ns.length c3) ns) (h4 : kPl.R tPl W B (fun _ => True) (.slice A4 ks.length c4) ks) (hB : w.heap.size + 2 ≤ B) (W' : World) (hS : Sets w.heap.size W W') :
    VPost g s w (some (⟨k, b0, e0, ns, ks⟩, l)) (.returned (.tuple #[.agg #[.int .i64 k, .int .i64 b0, .int .i64 e0, .slice A3 ns.length c3, .slice A4 ks.length c4], .bool true])) W' :=
  ⟨b, A3, c3, A4, c4, hS.rd hr hg, hS.but hT, hS.R h3 hB, hS.R h4 hB, rfl⟩

set_option maxHeartbeats 8000000 in
set_option maxRecDepth 100000 in
theorem value_obj (s : ByteArray) (hs : s.size ≤ 2147483647) (n : Nat) (hv : ValC s n) (g a : Nat) (t : L) (w : World) (hn : t.length < n) (h : Rd w g s a (123 :: t)) :
    Calls Tryd.prog 38 #[.pointer (some ⟨g, 0, none⟩)] w (VPost g s w (val s.size (n + 1) (123 :: t))) := by
  have c1 := h.cell1
  have hg := h.lt
  have H := Lib.hid h
  have HP0 := Lib.hid h.pos
  have HV := Lib.hid hv
  clear h hv
  have HE := Lib.hid (show val s.size (n + 1) (123 :: t) = (obj s.size (val s.size n) t).map fun x => (⟨6, pos s.size (123 :: t), pos s.size x.2, x.1.1, x.1.2⟩, x.2) from rfl)
  have HT := Lib.hid (Two.start (g := g) (s := s) (w := w) (a := a) (l := 123 :: t))
  go_enter Tryd.func38, Tryd.ntmps38
  go_wp2_with fail
  refine (here_any g s _ _ _ hs ((H.out.alloc _).alloc _)).mono ?_
  rw [show hd ((123 : Int) :: t) = 123 from rfl]
  rintro e w' ⟨rfl, n0, rfl⟩
  go_wp2_with fail
  replace HT := Lib.hid ((HT.out.drewN n0).kind 6)
  have H2 := Lib.hid (((H.out.alloc _).alloc _).drew n0 |>.setFar (p := ⟨w.heap.size + 1, 0, none⟩) (by show g ≠ w.heap.size + 1; omega) (.int .i64 6) : Rd ((((w.alloc (.cells #[.int .i64 0, .int .i64 0, .int .i64 0, .slice none 0 0, .slice none 0 0] tPl)).alloc (.cells #[.int .i64 0, .int .i64 a, .int .i64 0, .slice none 0 0, .slice none 0 0] tPl)).drewN n0).setCell ⟨w.heap.size + 1, 0, none⟩ (.int .i64 6)) g s a (123 :: t))
  clear H c1
  refine (members_any s hs n HV.out g a 123 t _ hn H2.out).mono ?_
  cases F : obj s.size (val s.size n) t with
  | none =>
    rintro e w' ⟨b, l', hr, hb, rfl⟩
    replace HT := Lib.hid (HT.out.then hb hg)
    replace H := Lib.hid hr
    clear H2 hr hb
    have HZ := Lib.hid (HE.out.trans (by rw [F] <;> rfl))
    clear F
    obtain ⟨⟨p0, p1, p2, p3, p4⟩, q0, q1, q2, q3, q4⟩ := HT.out.cells0
    obtain ⟨⟨r0, r1, r2, r3, r4⟩, s0, s1, s2, s3, s4⟩ := HT.out.cells1
    have c1 := H.out.cell1
    go_wp2
    refine bodyPost_ret (v := .tuple #[.agg #[.int .i64 6, .int .i64 a, .int .i64 b, .slice none 0 0, .slice none 0 0], .bool false]) ?_ rfl ?_
    · simp [results, Tryd.results38, go_sem, p0, p1, p2, p3, p4, q0, q1, q2, q3, q4]
    · rw [HZ.out]
      refine leaf_no H.out hg HT.out.but _ ?_; repeat (first | with_reducible exact Sets.refl _ _ | with_reducible apply Sets.set0 | with_reducible apply Sets.set1)
  | some x =>
    obtain ⟨⟨ns, ks⟩, l'⟩ := x
    rintro e w' ⟨b, A3, c3, A4, c4, hr, hb, h3, h4, rfl⟩
    have hsz := HT.out.sz
    replace HT := Lib.hid (HT.out.then hb hg)
    replace H := Lib.hid hr
    have H3 := Lib.hid h3
    have H4 := Lib.hid h4
    clear H2 hr hb h3 h4
    have HZ := Lib.hid (HE.out.trans (show _ = some (⟨6, (a : Int), (b : Int), ns, ks⟩, l') by rw [F, HP0.out]; show some (_, _) = _; rw [H.out.pos]))
    clear F
    obtain ⟨⟨p0, p1, p2, p3, p4⟩, q0, q1, q2, q3, q4⟩ := HT.out.cells0
    obtain ⟨⟨r0, r1, r2, r3, r4⟩, s0, s1, s2, s3, s4⟩ := HT.out.cells1
    have c1 := H.out.cell1
    go_wp2
    refine bodyPost_ret (v := .tuple #[.agg #[.int .i64 6, .int .i64 a, .int .i64 b, .slice A3 ns.length c3, .slice A4 ks.length c4], .bool true]) ?_ rfl ?_
    · simp [results, Tryd.results38, go_sem, p0, p1, p2, p3, p4, q0, q1, q2, q3, q4]
    · rw [HZ.out]
      refine leaf_kids H.out hg HT.out.but H3.out H4.out hsz _ ?_; repeat (first | with_reducible exact Sets.refl _ _ | with_reducible apply Sets.set0 | with_reducible apply Sets.set1)

-- PRINTED by wip/gen/genj7.py

set_option maxHeartbeats 8000000 in
set_option maxRecDepth 100000 in
theorem value_arr (s : ByteArray) (hs : s.size ≤ 2147483647) (n : Nat) (hv : ValC s n) (g a : Nat) (t : L) (w : World) (hn : t.length < n) (h : Rd w g s a (91 :: t)) :
    Calls Tryd.prog 38 #[.pointer (some ⟨g, 0, none⟩)] w (VPost g s w (val s.size (n + 1) (91 :: t))) := by
  have c1 := h.cell1
  have hg := h.lt
  have H := Lib.hid h
  have HP0 := Lib.hid h.pos
  clear h
  have HT := Lib.hid (Two.start (g := g) (s := s) (w := w) (a := a) (l := 91 :: t))
  have HV := Lib.hid hv
  clear hv
  have HE := Lib.hid (show val s.size (n + 1) (91 :: t) = (arr (val s.size n) t).map fun x => (⟨5, pos s.size (91 :: t), pos s.size x.2, [], x.1⟩, x.2) from rfl)
  go_enter Tryd.func38, Tryd.ntmps38
  go_wp2_with fail
  refine (here_any g s _ _ _ hs ((H.out.alloc _).alloc _)).mono ?_
  rw [show hd (91 :: t) = 91 from rfl]
  rintro e w' ⟨rfl, n0, rfl⟩
  go_wp2_with fail
  replace HT := Lib.hid ((HT.out.drewN n0).kind 5)
  have H2 := Lib.hid (((H.out.alloc _).alloc _).drew n0 |>.setFar (p := ⟨w.heap.size + 1, 0, none⟩) (by show g ≠ w.heap.size + 1; omega) (.int .i64 5) : Rd ((((w.alloc (.cells #[.int .i64 0, .int .i64 0, .int .i64 0, .slice none 0 0, .slice none 0 0] tPl)).alloc (.cells #[.int .i64 0, .int .i64 a, .int .i64 0, .slice none 0 0, .slice none 0 0] tPl)).drewN n0).setCell ⟨w.heap.size + 1, 0, none⟩ (.int .i64 5)) g s a (91 :: t))
  clear H c1
  refine (elements_any s hs n HV.out g a 91 t _ hn H2.out).mono ?_
  cases F : arr (val s.size n) t with
  | none =>
    rintro e w' ⟨b, l', hr, hb, rfl⟩
    replace HT := Lib.hid (HT.out.then hb hg)
    replace H := Lib.hid hr
    clear H2 hr hb
    have HZ := Lib.hid (HE.out.trans (by rw [F] <;> rfl))
    clear F
    obtain ⟨⟨p0, p1, p2, p3, p4⟩, q0, q1, q2, q3, q4⟩ := HT.out.cells0
    obtain ⟨⟨r0, r1, r2, r3, r4⟩, s0, s1, s2, s3, s4⟩ := HT.out.cells1
    have c1 := H.out.cell1
    go_wp2
    refine bodyPost_ret (v := .tuple #[.agg #[.int .i64 5, .int .i64 a, .int .i64 b, .slice none 0 0, .slice none 0 0], .bool false]) ?_ rfl ?_
    · simp [results, Tryd.results38, go_sem, p0, p1, p2, p3, p4, q0, q1, q2, q3, q4]
    · rw [HZ.out]
      refine leaf_no H.out hg HT.out.but _ ?_; repeat (first | with_reducible exact Sets.refl _ _ | with_reducible apply Sets.set0 | with_reducible apply Sets.set1)
  | some x =>
    obtain ⟨ks, l'⟩ := x
    rintro e w' ⟨b, A4, c4, hr, hb, h4, rfl⟩
    have hsz := HT.out.sz
    replace HT := Lib.hid (HT.out.then hb hg)
    replace H := Lib.hid hr
    have H4 := Lib.hid h4
    clear H2 hr hb h4
    have HZ := Lib.hid (HE.out.trans (show _ = some (⟨5, (a : Int), (b : Int), [], ks⟩, l') by rw [F, HP0.out]; show some (_, _) = _; rw [H.out.pos]))
    clear F
    obtain ⟨⟨p0, p1, p2, p3, p4⟩, q0, q1, q2, q3, q4⟩ := HT.out.cells0
    obtain ⟨⟨r0, r1, r2, r3, r4⟩, s0, s1, s2, s3, s4⟩ := HT.out.cells1
    have c1 := H.out.cell1
    go_wp2
    refine bodyPost_ret (v := .tuple #[.agg #[.int .i64 5, .int .i64 a, .int .i64 b, .slice none 0 0, .slice A4 ks.length c4], .bool true]) ?_ rfl ?_
    · simp [results, Tryd.results38, go_sem, p0, p1, p2, p3, p4, q0, q1, q2, q3, q4]
    · rw [HZ.out]
      refine leaf_kids (ns := []) (A3 := none) (c3 := 0) H.out hg HT.out.but (Kd.R_nil _ _ _ _ _) H4.out hsz _ ?_; repeat (first | with_reducible exact Sets.refl _ _ | with_reducible apply Sets.set0 | with_reducible apply Sets.set1)

set_option maxHeartbeats 8000000 in
set_option maxRecDepth 100000 in
theorem value_str (s : ByteArray) (hs : s.size ≤ 2147483647) (n : Nat) (g a : Nat) (t : L) (w : World) (h : Rd w g s a (34 :: t)) :
    Calls Tryd.prog 38 #[.pointer (some ⟨g, 0, none⟩)] w (VPost g s w (val s.size (n + 1) (34 :: t))) := by
  have c1 := h.cell1
  have hg := h.lt
  have H := Lib.hid h
  have HP0 := Lib.hid h.pos
  clear h
  have HT := Lib.hid (Two.start (g := g) (s := s) (w := w) (a := a) (l := 34 :: t))
  have HE := Lib.hid (show val s.size (n + 1) (34 :: t) = (str t).map fun r => (⟨4, pos s.size (34 :: t), pos s.size r, [], []⟩, r) from rfl)
  go_enter Tryd.func38, Tryd.ntmps38
  go_wp2_with fail
  refine (here_any g s _ _ _ hs ((H.out.alloc _).alloc _)).mono ?_
  rw [show hd (34 :: t) = 34 from rfl]
  rintro e w' ⟨rfl, n0, rfl⟩
  go_wp2_with fail
  replace HT := Lib.hid ((HT.out.drewN n0).kind 4)
  have H2 := Lib.hid (((H.out.alloc _).alloc _).drew n0 |>.setFar (p := ⟨w.heap.size + 1, 0, none⟩) (by show g ≠ w.heap.size + 1; omega) (.int .i64 4) : Rd ((((w.alloc (.cells #[.int .i64 0, .int .i64 0, .int .i64 0, .slice none 0 0, .slice none 0 0] tPl)).alloc (.cells #[.int .i64 0, .int .i64 a, .int .i64 0, .slice none 0 0, .slice none 0 0] tPl)).drewN n0).setCell ⟨w.heap.size + 1, 0, none⟩ (.int .i64 4)) g s a (34 :: t))
  clear H c1
  refine (quoted_any g s a 34 t _ hs H2.out).mono ?_
  cases F : str t with
  | none =>
    rintro e w' ⟨b, l', hr, hb, rfl, hu⟩
    replace HT := Lib.hid (HT.out.then hb hg)
    replace H := Lib.hid hr
    clear H2 hr hb hu
    have HZ := Lib.hid (HE.out.trans (by rw [F] <;> rfl))
    clear F
    obtain ⟨⟨p0, p1, p2, p3, p4⟩, q0, q1, q2, q3, q4⟩ := HT.out.cells0
    obtain ⟨⟨r0, r1, r2, r3, r4⟩, s0, s1, s2, s3, s4⟩ := HT.out.cells1
    have c1 := H.out.cell1
    go_wp2
    refine bodyPost_ret (v := .tuple #[.agg #[.int .i64 4, .int .i64 a, .int .i64 b, .slice none 0 0, .slice none 0 0], .bool false]) ?_ rfl ?_
    · simp [results, Tryd.results38, go_sem, p0, p1, p2, p3, p4, q0, q1, q2, q3, q4]
    · rw [HZ.out]
      refine leaf_no H.out hg HT.out.but _ ?_; repeat (first | with_reducible exact Sets.refl _ _ | with_reducible apply Sets.set0 | with_reducible apply Sets.set1)
  | some u =>
    rintro e w' ⟨b, l', hr, hb, rfl, hu⟩
    obtain rfl := hu u rfl
    replace HT := Lib.hid (HT.out.then hb hg)
    replace H := Lib.hid hr
    clear H2 hr hb hu
    have HZ := Lib.hid (HE.out.trans (show _ = some (⟨4, (a : Int), (b : Int), [], []⟩, l') by rw [F, HP0.out]; show some (_, _) = _; rw [H.out.pos]))
    clear F
    obtain ⟨⟨p0, p1, p2, p3, p4⟩, q0, q1, q2, q3, q4⟩ := HT.out.cells0
    obtain ⟨⟨r0, r1, r2, r3, r4⟩, s0, s1, s2, s3, s4⟩ := HT.out.cells1
    have c1 := H.out.cell1
    go_wp2
    refine bodyPost_ret (v := .tuple #[.agg #[.int .i64 4, .int .i64 a, .int .i64 b, .slice none 0 0, .slice none 0 0], .bool true]) ?_ rfl ?_
    · simp [results, Tryd.results38, go_sem, p0, p1, p2, p3, p4, q0, q1, q2, q3, q4]
    · rw [HZ.out]
      refine leaf_yes H.out hg HT.out.but _ ?_; repeat (first | with_reducible exact Sets.refl _ _ | with_reducible apply Sets.set0 | with_reducible apply Sets.set1)

set_option maxHeartbeats 8000000 in
set_option maxRecDepth 100000 in
theorem value_num (s : ByteArray) (hs : s.size ≤ 2147483647) (n : Nat) (g a : Nat) (c : Int) (t : L) (w : World) (hc : c = 45 ∨ dig c = true) (h : Rd w g s a (c :: t)) :
    Calls Tryd.prog 38 #[.pointer (some ⟨g, 0, none⟩)] w (VPost g s w (val s.size (n + 1) (c :: t))) := by
  have c1 := h.cell1
  have hg := h.lt
  have H := Lib.hid h
  have HP0 := Lib.hid h.pos
  clear h
  have HT := Lib.hid (Two.start (g := g) (s := s) (w := w) (a := a) (l := c :: t))
  have hc' : c = 45 ∨ (48 ≤ c ∧ c ≤ 57) := hc.imp id (fun h => by simpa [dig] using h)
  have e1 : (c == 123) = false := beq_eq_false_iff_ne.mpr (by omega)
  have e2 : (c == 91) = false := beq_eq_false_iff_ne.mpr (by omega)
  have e3 : (c == 34) = false := beq_eq_false_iff_ne.mpr (by omega)
  have HE := Lib.hid (show val s.size (n + 1) (c :: t) = (num (c :: t)).map fun r => (⟨3, pos s.size (c :: t), pos s.size r, [], []⟩, r) by simp only [val]; rw [if_neg (by omega), if_neg (by omega), if_neg (by omega), if_pos hc])
  clear hc
  rcases hc' with rfl | ⟨d1, d2⟩
  · go_enter Tryd.func38, Tryd.ntmps38
    go_wp2_with fail
    refine (here_any g s _ _ _ hs ((H.out.alloc _).alloc _)).mono ?_
    rw [show hd ((45 : Int) :: t) = 45 from rfl]
    rintro e w' ⟨rfl, n0, rfl⟩
    go_wp2_with fail
    replace HT := Lib.hid ((HT.out.drewN n0).kind 3)
    have H2 := Lib.hid (((H.out.alloc _).alloc _).drew n0 |>.setFar (p := ⟨w.heap.size + 1, 0, none⟩) (by show g ≠ w.heap.size + 1; omega) (.int .i64 3) : Rd ((((w.alloc (.cells #[.int .i64 0, .int .i64 0, .int .i64 0, .slice none 0 0, .slice none 0 0] tPl)).alloc (.cells #[.int .i64 0, .int .i64 a, .int .i64 0, .slice none 0 0, .slice none 0 0] tPl)).drewN n0).setCell ⟨w.heap.size + 1, 0, none⟩ (.int .i64 3)) g s a ((45 : Int) :: t))
    clear H c1
    refine (number_any g s a (45 :: t) _ hs H2.out).mono ?_
    cases F : num (45 :: t) with
    | none =>
      rintro e w' ⟨b, l', hr, hb, rfl, hu⟩
      replace HT := Lib.hid (HT.out.then hb hg)
      replace H := Lib.hid hr
      clear H2 hr hb hu
      have HZ := Lib.hid (HE.out.trans (by rw [F] <;> rfl))
      clear F
      obtain ⟨⟨p0, p1, p2, p3, p4⟩, q0, q1, q2, q3, q4⟩ := HT.out.cells0
      obtain ⟨⟨r0, r1, r2, r3, r4⟩, s0, s1, s2, s3, s4⟩ := HT.out.cells1
      have c1 := H.out.cell1
      go_wp2
      refine bodyPost_ret (v := .tuple #[.agg #[.int .i64 3, .int .i64 a, .int .i64 b, .slice none 0 0, .slice none 0 0], .bool false]) ?_ rfl ?_
      · simp [results, Tryd.results38, go_sem, p0, p1, p2, p3, p4, q0, q1, q2, q3, q4]
      · rw [HZ.out]
        refine leaf_no H.out hg HT.out.but _ ?_; repeat (first | with_reducible exact Sets.refl _ _ | with_reducible apply Sets.set0 | with_reducible apply Sets.set1)
    | some u =>
      rintro e w' ⟨b, l', hr, hb, rfl, hu⟩
      obtain rfl := hu u rfl
      replace HT := Lib.hid (HT.out.then hb hg)
      replace H := Lib.hid hr
      clear H2 hr hb hu
      have HZ := Lib.hid (HE.out.trans (show _ = some (⟨3, (a : Int), (b : Int), [], []⟩, l') by rw [F, HP0.out]; show some (_, _) = _; rw [H.out.pos]))
      clear F
      obtain ⟨⟨p0, p1, p2, p3, p4⟩, q0, q1, q2, q3, q4⟩ := HT.out.cells0
      obtain ⟨⟨r0, r1, r2, r3, r4⟩, s0, s1, s2, s3, s4⟩ := HT.out.cells1
      have c1 := H.out.cell1
      go_wp2
      refine bodyPost_ret (v := .tuple #[.agg #[.int .i64 3, .int .i64 a, .int .i64 b, .slice none 0 0, .slice none 0 0], .bool true]) ?_ rfl ?_
      · simp [results, Tryd.results38, go_sem, p0, p1, p2, p3, p4, q0, q1, q2, q3, q4]
      · rw [HZ.out]
        refine leaf_yes H.out hg HT.out.but _ ?_; repeat (first | with_reducible exact Sets.refl _ _ | with_reducible apply Sets.set0 | with_reducible apply Sets.set1)
  · by_cases e4 : c = 45
    · omega
    have e5 : (c == 45) = false := beq_eq_false_iff_ne.mpr e4
    clear e4
    go_enter Tryd.func38, Tryd.ntmps38
    go_wp2_with fail
    refine (here_any g s _ _ _ hs ((H.out.alloc _).alloc _)).mono ?_
    rw [show hd (c :: t) = c from rfl]
    rintro e w' ⟨rfl, n0, rfl⟩
    go_wp2_with fail
    replace HT := Lib.hid ((HT.out.drewN n0).kind 3)
    have H2 := Lib.hid (((H.out.alloc _).alloc _).drew n0 |>.setFar (p := ⟨w.heap.size + 1, 0, none⟩) (by show g ≠ w.heap.size + 1; omega) (.int .i64 3) : Rd ((((w.alloc (.cells #[.int .i64 0, .int .i64 0, .int .i64 0, .slice none 0 0, .slice none 0 0] tPl)).alloc (.cells #[.int .i64 0, .int .i64 a, .int .i64 0, .slice none 0 0, .slice none 0 0] tPl)).drewN n0).setCell ⟨w.heap.size + 1, 0, none⟩ (.int .i64 3)) g s a (c :: t))
    clear H c1
    refine (number_any g s a (c :: t) _ hs H2.out).mono ?_
    cases F : num (c :: t) with
    | none =>
      rintro e w' ⟨b, l', hr, hb, rfl, hu⟩
      replace HT := Lib.hid (HT.out.then hb hg)
      replace H := Lib.hid hr
      clear H2 hr hb hu
      have HZ := Lib.hid (HE.out.trans (by rw [F] <;> rfl))
      clear F
      obtain ⟨⟨p0, p1, p2, p3, p4⟩, q0, q1, q2, q3, q4⟩ := HT.out.cells0
      obtain ⟨⟨r0, r1, r2, r3, r4⟩, s0, s1, s2, s3, s4⟩ := HT.out.cells1
      have c1 := H.out.cell1
      go_wp2
      refine bodyPost_ret (v := .tuple #[.agg #[.int .i64 3, .int .i64 a, .int .i64 b, .slice none 0 0, .slice none 0 0], .bool false]) ?_ rfl ?_
      · simp [results, Tryd.results38, go_sem, p0, p1, p2, p3, p4, q0, q1, q2, q3, q4]
      · rw [HZ.out]
        refine leaf_no H.out hg HT.out.but _ ?_; repeat (first | with_reducible exact Sets.refl _ _ | with_reducible apply Sets.set0 | with_reducible apply Sets.set1)
    | some u =>
      rintro e w' ⟨b, l', hr, hb, rfl, hu⟩
      obtain rfl := hu u rfl
      replace HT := Lib.hid (HT.out.then hb hg)
      replace H := Lib.hid hr
      clear H2 hr hb hu
      have HZ := Lib.hid (HE.out.trans (show _ = some (⟨3, (a : Int), (b : Int), [], []⟩, l') by rw [F, HP0.out]; show some (_, _) = _; rw [H.out.pos]))
      clear F
      obtain ⟨⟨p0, p1, p2, p3, p4⟩, q0, q1, q2, q3, q4⟩ := HT.out.cells0
      obtain ⟨⟨r0, r1, r2, r3, r4⟩, s0, s1, s2, s3, s4⟩ := HT.out.cells1
      have c1 := H.out.cell1
      go_wp2
      refine bodyPost_ret (v := .tuple #[.agg #[.int .i64 3, .int .i64 a, .int .i64 b, .slice none 0 0, .slice none 0 0], .bool true]) ?_ rfl ?_
      · simp [results, Tryd.results38, go_sem, p0, p1, p2, p3, p4, q0, q1, q2, q3, q4]
      · rw [HZ.out]
        refine leaf_yes H.out hg HT.out.but _ ?_; repeat (first | with_reducible exact Sets.refl _ _ | with_reducible apply Sets.set0 | with_reducible apply Sets.set1)

set_option maxHeartbeats 8000000 in
set_option maxRecDepth 100000 in
theorem value_word (s : ByteArray) (hs : s.size ≤ 2147483647) (n : Nat) (g a : Nat) (c : Int) (t : L) (w : World) (h1 : c ≠ 123) (h2 : c ≠ 91) (h3 : c ≠ 34) (h4 : c ≠ 45) (h5 : ¬ dig c = true) (h : Rd w g s a (c :: t)) :
    Calls Tryd.prog 38 #[.pointer (some ⟨g, 0, none⟩)] w (VPost g s w (val s.size (n + 1) (c :: t))) := by
  have c1 := h.cell1
  have hg := h.lt
  have H := Lib.hid h
  have HP0 := Lib.hid h.pos
  clear h
  have HT := Lib.hid (Two.start (g := g) (s := s) (w := w) (a := a) (l := c :: t))
  have HE := Lib.hid (show val s.size (n + 1) (c :: t) = (match word nullW (c :: t) with | some r => some (⟨0, pos s.size (c :: t), pos s.size r, [], []⟩, r) | none => match word falseW (c :: t) with | some r => some (⟨1, pos s.size (c :: t), pos s.size r, [], []⟩, r) | none => match word trueW (c :: t) with | some r => some (⟨2, pos s.size (c :: t), pos s.size r, [], []⟩, r) | none => none) by simp only [val]; rw [if_neg h1, if_neg h2, if_neg h3, if_neg (by simp only [not_or]; exact ⟨h4, h5⟩)] <;> rfl)
  have e1 : (c == 123) = false := beq_eq_false_iff_ne.mpr h1
  have e2 : (c == 91) = false := beq_eq_false_iff_ne.mpr h2
  have e3 : (c == 34) = false := beq_eq_false_iff_ne.mpr h3
  have e4 : (c == 45) = false := beq_eq_false_iff_ne.mpr h4
  replace h5 : c < 48 ∨ 57 < c := by simp [dig] at h5; omega
  clear h1 h2 h3 h4
  rcases h5 with h5 | h5
  all_goals
    go_enter Tryd.func38, Tryd.ntmps38
    go_wp2_with fail
    refine (here_any g s _ _ _ hs ((H.out.alloc _).alloc _)).mono ?_
    rw [show hd (c :: t) = c from rfl]
    rintro e w' ⟨rfl, n0, rfl⟩
    go_wp2_with fail
    replace HT := Lib.hid (HT.out.drewN n0)
    have H2 := Lib.hid (((H.out.alloc _).alloc _).drew n0 : Rd (((w.alloc (.cells #[.int .i64 0, .int .i64 0, .int .i64 0, .slice none 0 0, .slice none 0 0] tPl)).alloc (.cells #[.int .i64 0, .int .i64 a, .int .i64 0, .slice none 0 0, .slice none 0 0] tPl)).drewN n0) g s a (c :: t))
    clear H c1
    refine (word_any g s { data := #[110, 117, 108, 108] } a (c :: t) _ hs (by decide) H2.out).mono ?_
    rw [show bytesOf { data := #[110, 117, 108, 108] } = nullW from rfl]
    cases F0 : word nullW (c :: t) with
    | some u =>
      rintro e w' ⟨b, hr, hb, rfl⟩
      replace HT := Lib.hid (HT.out.then hb hg)
      have H := Lib.hid (show Rd _ g s b u from hr)
      clear H2 hr hb
      have HZ := Lib.hid (HE.out.trans (show _ = some (⟨0, (a : Int), (b : Int), [], []⟩, u) by rw [F0, HP0.out]; show some (Pl.mk _ _ _ _ _, _) = _; rw [H.out.pos]))
      clear F0
      obtain ⟨⟨p0, p1, p2, p3, p4⟩, q0, q1, q2, q3, q4⟩ := HT.out.cells0
      obtain ⟨⟨r0, r1, r2, r3, r4⟩, s0, s1, s2, s3, s4⟩ := HT.out.cells1
      have c1 := H.out.cell1
      go_wp2
      refine bodyPost_ret (v := .tuple #[.agg #[.int .i64 0, .int .i64 a, .int .i64 b, .slice none 0 0, .slice none 0 0], .bool true]) ?_ rfl ?_
      · simp [results, Tryd.results38, go_sem, p0, p1, p2, p3, p4, q0, q1, q2, q3, q4]
      · rw [HZ.out]
        refine leaf_yes H.out hg HT.out.but _ ?_; repeat (first | with_reducible exact Sets.refl _ _ | with_reducible apply Sets.set0 | with_reducible apply Sets.set1)
    | none =>
      rintro e w' ⟨b0, hr, hb, rfl⟩
      replace HT := Lib.hid (HT.out.then hb hg)
      have ha := (show Rd _ g s b0 (c :: t) from hr).len
      have ha' := H2.out.len
      obtain rfl : a = b0 := by omega
      clear H2
      have H2 := Lib.hid (show Rd _ g s a (c :: t) from hr)
      clear hr hb ha ha'
      replace F0 := Lib.hid F0
      go_wp2_with fail
      refine (word_any g s { data := #[102, 97, 108, 115, 101] } a (c :: t) _ hs (by decide) H2.out).mono ?_
      rw [show bytesOf { data := #[102, 97, 108, 115, 101] } = falseW from rfl]
      cases F1 : word falseW (c :: t) with
      | some u =>
        rintro e w' ⟨b, hr, hb, rfl⟩
        replace HT := Lib.hid (HT.out.then hb hg)
        have H := Lib.hid (show Rd _ g s b u from hr)
        clear H2 hr hb
        have HZ := Lib.hid (HE.out.trans (show _ = some (⟨1, (a : Int), (b : Int), [], []⟩, u) by rw [F0.out, F1, HP0.out]; show some (Pl.mk _ _ _ _ _, _) = _; rw [H.out.pos]))
        clear F1
        obtain ⟨⟨p0, p1, p2, p3, p4⟩, q0, q1, q2, q3, q4⟩ := HT.out.cells0
        obtain ⟨⟨r0, r1, r2, r3, r4⟩, s0, s1, s2, s3, s4⟩ := HT.out.cells1
        have c1 := H.out.cell1
        go_wp2
        refine bodyPost_ret (v := .tuple #[.agg #[.int .i64 1, .int .i64 a, .int .i64 b, .slice none 0 0, .slice none 0 0], .bool true]) ?_ rfl ?_
        · simp [results, Tryd.results38, go_sem, p0, p1, p2, p3, p4, q0, q1, q2, q3, q4]
        · rw [HZ.out]
          refine leaf_yes H.out hg HT.out.but _ ?_; repeat (first | with_reducible exact Sets.refl _ _ | with_reducible apply Sets.set0 | with_reducible apply Sets.set1)
      | none =>
        rintro e w' ⟨b1, hr, hb, rfl⟩
        replace HT := Lib.hid (HT.out.then hb hg)
        have ha := (show Rd _ g s b1 (c :: t) from hr).len
        have ha' := H2.out.len
        obtain rfl : a = b1 := by omega
        clear H2
        have H2 := Lib.hid (show Rd _ g s a (c :: t) from hr)
        clear hr hb ha ha'
        replace F1 := Lib.hid F1
        go_wp2_with fail
        refine (word_any g s { data := #[116, 114, 117, 101] } a (c :: t) _ hs (by decide) H2.out).mono ?_
        rw [show bytesOf { data := #[116, 114, 117, 101] } = trueW from rfl]
        cases F2 : word trueW (c :: t) with
        | some u =>
          rintro e w' ⟨b, hr, hb, rfl⟩
          replace HT := Lib.hid (HT.out.then hb hg)
          have H := Lib.hid (show Rd _ g s b u from hr)
          clear H2 hr hb
          have HZ := Lib.hid (HE.out.trans (show _ = some (⟨2, (a : Int), (b : Int), [], []⟩, u) by rw [F0.out, F1.out, F2, HP0.out]; show some (Pl.mk _ _ _ _ _, _) = _; rw [H.out.pos]))
          clear F2
          obtain ⟨⟨p0, p1, p2, p3, p4⟩, q0, q1, q2, q3, q4⟩ := HT.out.cells0
          obtain ⟨⟨r0, r1, r2, r3, r4⟩, s0, s1, s2, s3, s4⟩ := HT.out.cells1
          have c1 := H.out.cell1
          go_wp2
          refine bodyPost_ret (v := .tuple #[.agg #[.int .i64 2, .int .i64 a, .int .i64 b, .slice none 0 0, .slice none 0 0], .bool true]) ?_ rfl ?_
          · simp [results, Tryd.results38, go_sem, p0, p1, p2, p3, p4, q0, q1, q2, q3, q4]
          · rw [HZ.out]
            refine leaf_yes H.out hg HT.out.but _ ?_; repeat (first | with_reducible exact Sets.refl _ _ | with_reducible apply Sets.set0 | with_reducible apply Sets.set1)
        | none =>
          rintro e w' ⟨b2, hr, hb, rfl⟩
          replace HT := Lib.hid (HT.out.then hb hg)
          have ha := (show Rd _ g s b2 (c :: t) from hr).len
          have ha' := H2.out.len
          obtain rfl : a = b2 := by omega
          clear H2
          have H2 := Lib.hid (show Rd _ g s a (c :: t) from hr)
          clear hr hb ha ha'
          replace F2 := Lib.hid F2
          have HZ := Lib.hid (HE.out.trans (show _ = none by rw [F0.out, F1.out, F2.out]))
          have H := H2
          clear H2
          obtain ⟨b, hbb⟩ : ∃ b, b = a := ⟨a, rfl⟩
          obtain ⟨⟨p0, p1, p2, p3, p4⟩, q0, q1, q2, q3, q4⟩ := HT.out.cells0
          obtain ⟨⟨r0, r1, r2, r3, r4⟩, s0, s1, s2, s3, s4⟩ := HT.out.cells1
          have c1 := H.out.cell1
          go_wp2
          refine bodyPost_ret (v := .tuple #[.agg #[.int .i64 0, .int .i64 a, .int .i64 a, .slice none 0 0, .slice none 0 0], .bool false]) ?_ rfl ?_
          · simp [results, Tryd.results38, go_sem, p0, p1, p2, p3, p4, q0, q1, q2, q3, q4]
          · rw [HZ.out]
            refine leaf_no H.out hg HT.out.but _ ?_; repeat (first | with_reducible exact Sets.refl _ _ | with_reducible apply Sets.set0 | with_reducible apply Sets.set1)

set_option maxHeartbeats 8000000 in
set_option maxRecDepth 100000 in
theorem value_nil (s : ByteArray) (hs : s.size ≤ 2147483647) (n : Nat) (g a : Nat) (w : World) (h : Rd w g s a ([])) :
    Calls Tryd.prog 38 #[.pointer (some ⟨g, 0, none⟩)] w (VPost g s w (val s.size (n + 1) ([]))) := by
  have c1 := h.cell1
  have hg := h.lt
  have H := Lib.hid h
  have HP0 := Lib.hid h.pos
  clear h
  have HT := Lib.hid (Two.start (g := g) (s := s) (w := w) (a := a) (l := []))
  have HE := Lib.hid (show val s.size (n + 1) [] = (match word nullW (([] : L)) with | some r => some (⟨0, pos s.size (([] : L)), pos s.size r, [], []⟩, r) | none => match word falseW (([] : L)) with | some r => some (⟨1, pos s.size (([] : L)), pos s.size r, [], []⟩, r) | none => match word trueW (([] : L)) with | some r => some (⟨2, pos s.size (([] : L)), pos s.size r, [], []⟩, r) | none => none) from rfl)
  go_enter Tryd.func38, Tryd.ntmps38
  go_wp2_with fail
  refine (here_any g s _ _ _ hs ((H.out.alloc _).alloc _)).mono ?_
  rw [show hd ([]) = 0 from rfl]
  rintro e w' ⟨rfl, n0, rfl⟩
  go_wp2_with fail
  replace HT := Lib.hid (HT.out.drewN n0)
  have H2 := Lib.hid (((H.out.alloc _).alloc _).drew n0 : Rd (((w.alloc (.cells #[.int .i64 0, .int .i64 0, .int .i64 0, .slice none 0 0, .slice none 0 0] tPl)).alloc (.cells #[.int .i64 0, .int .i64 a, .int .i64 0, .slice none 0 0, .slice none 0 0] tPl)).drewN n0) g s a ([]))
  clear H c1
  refine (word_any g s { data := #[110, 117, 108, 108] } a ([]) _ hs (by decide) H2.out).mono ?_
  rw [show bytesOf { data := #[110, 117, 108, 108] } = nullW from rfl]
  cases F0 : word nullW ([]) with
  | some u =>
    rintro e w' ⟨b, hr, hb, rfl⟩
    replace HT := Lib.hid (HT.out.then hb hg)
    have H := Lib.hid (show Rd _ g s b u from hr)
    clear H2 hr hb
    have HZ := Lib.hid (HE.out.trans (show _ = some (⟨0, (a : Int), (b : Int), [], []⟩, u) by rw [F0, HP0.out]; show some (Pl.mk _ _ _ _ _, _) = _; rw [H.out.pos]))
    clear F0
    obtain ⟨⟨p0, p1, p2, p3, p4⟩, q0, q1, q2, q3, q4⟩ := HT.out.cells0
    obtain ⟨⟨r0, r1, r2, r3, r4⟩, s0, s1, s2, s3, s4⟩ := HT.out.cells1
    have c1 := H.out.cell1
    go_wp2
    refine bodyPost_ret (v := .tuple #[.agg #[.int .i64 0, .int .i64 a, .int .i64 b, .slice none 0 0, .slice none 0 0], .bool true]) ?_ rfl ?_
    · simp [results, Tryd.results38, go_sem, p0, p1, p2, p3, p4, q0, q1, q2, q3, q4]
    · rw [HZ.out]
      refine leaf_yes H.out hg HT.out.but _ ?_; repeat (first | with_reducible exact Sets.refl _ _ | with_reducible apply Sets.set0 | with_reducible apply Sets.set1)
  | none =>
    rintro e w' ⟨b0, hr, hb, rfl⟩
    replace HT := Lib.hid (HT.out.then hb hg)
    have ha := (show Rd _ g s b0 ([]) from hr).len
    have ha' := H2.out.len
    obtain rfl : a = b0 := by omega
    clear H2
    have H2 := Lib.hid (show Rd _ g s a ([]) from hr)
    clear hr hb ha ha'
    replace F0 := Lib.hid F0
    go_wp2_with fail
    refine (word_any g s { data := #[102, 97, 108, 115, 101] } a ([]) _ hs (by decide) H2.out).mono ?_
    rw [show bytesOf { data := #[102, 97, 108, 115, 101] } = falseW from rfl]
    cases F1 : word falseW ([]) with
    | some u =>
      rintro e w' ⟨b, hr, hb, rfl⟩
      replace HT := Lib.hid (HT.out.then hb hg)
      have H := Lib.hid (show Rd _ g s b u from hr)
      clear H2 hr hb
      have HZ := Lib.hid (HE.out.trans (show _ = some (⟨1, (a : Int), (b : Int), [], []⟩, u) by rw [F0.out, F1, HP0.out]; show some (Pl.mk _ _ _ _ _, _) = _; rw [H.out.pos]))
      clear F1
      obtain ⟨⟨p0, p1, p2, p3, p4⟩, q0, q1, q2, q3, q4⟩ := HT.out.cells0
      obtain ⟨⟨r0, r1, r2, r3, r4⟩, s0, s1, s2, s3, s4⟩ := HT.out.cells1
      have c1 := H.out.cell1
      go_wp2
      refine bodyPost_ret (v := .tuple #[.agg #[.int .i64 1, .int .i64 a, .int .i64 b, .slice none 0 0, .slice none 0 0], .bool true]) ?_ rfl ?_
      · simp [results, Tryd.results38, go_sem, p0, p1, p2, p3, p4, q0, q1, q2, q3, q4]
      · rw [HZ.out]
        refine leaf_yes H.out hg HT.out.but _ ?_; repeat (first | with_reducible exact Sets.refl _ _ | with_reducible apply Sets.set0 | with_reducible apply Sets.set1)
    | none =>
      rintro e w' ⟨b1, hr, hb, rfl⟩
      replace HT := Lib.hid (HT.out.then hb hg)
      have ha := (show Rd _ g s b1 ([]) from hr).len
      have ha' := H2.out.len
      obtain rfl : a = b1 := by omega
      clear H2
      have H2 := Lib.hid (show Rd _ g s a ([]) from hr)
      clear hr hb ha ha'
      replace F1 := Lib.hid F1
      go_wp2_with fail
      refine (word_any g s { data := #[116, 114, 117, 101] } a ([]) _ hs (by decide) H2.out).mono ?_
      rw [show bytesOf { data := #[116, 114, 117, 101] } = trueW from rfl]
      cases F2 : word trueW ([]) with
      | some u =>
        rintro e w' ⟨b, hr, hb, rfl⟩
        replace HT := Lib.hid (HT.out.then hb hg)
        have H := Lib.hid (show Rd _ g s b u from hr)
        clear H2 hr hb
        have HZ := Lib.hid (HE.out.trans (show _ = some (⟨2, (a : Int), (b : Int), [], []⟩, u) by rw [F0.out, F1.out, F2, HP0.out]; show some (Pl.mk _ _ _ _ _, _) = _; rw [H.out.pos]))
        clear F2
        obtain ⟨⟨p0, p1, p2, p3, p4⟩, q0, q1, q2, q3, q4⟩ := HT.out.cells0
        obtain ⟨⟨r0, r1, r2, r3, r4⟩, s0, s1, s2, s3, s4⟩ := HT.out.cells1
        have c1 := H.out.cell1
        go_wp2
        refine bodyPost_ret (v := .tuple #[.agg #[.int .i64 2, .int .i64 a, .int .i64 b, .slice none 0 0, .slice none 0 0], .bool true]) ?_ rfl ?_
        · simp [results, Tryd.results38, go_sem, p0, p1, p2, p3, p4, q0, q1, q2, q3, q4]
        · rw [HZ.out]
          refine leaf_yes H.out hg HT.out.but _ ?_; repeat (first | with_reducible exact Sets.refl _ _ | with_reducible apply Sets.set0 | with_reducible apply Sets.set1)
      | none =>
        rintro e w' ⟨b2, hr, hb, rfl⟩
        replace HT := Lib.hid (HT.out.then hb hg)
        have ha := (show Rd _ g s b2 ([]) from hr).len
        have ha' := H2.out.len
        obtain rfl : a = b2 := by omega
        clear H2
        have H2 := Lib.hid (show Rd _ g s a ([]) from hr)
        clear hr hb ha ha'
        replace F2 := Lib.hid F2
        have HZ := Lib.hid (HE.out.trans (show _ = none by rw [F0.out, F1.out, F2.out]))
        have H := H2
        clear H2
        obtain ⟨b, hbb⟩ : ∃ b, b = a := ⟨a, rfl⟩
        obtain ⟨⟨p0, p1, p2, p3, p4⟩, q0, q1, q2, q3, q4⟩ := HT.out.cells0
        obtain ⟨⟨r0, r1, r2, r3, r4⟩, s0, s1, s2, s3, s4⟩ := HT.out.cells1
        have c1 := H.out.cell1
        go_wp2
        refine bodyPost_ret (v := .tuple #[.agg #[.int .i64 0, .int .i64 a, .int .i64 a, .slice none 0 0, .slice none 0 0], .bool false]) ?_ rfl ?_
        · simp [results, Tryd.results38, go_sem, p0, p1, p2, p3, p4, q0, q1, q2, q3, q4]
        · rw [HZ.out]
          refine leaf_no H.out hg HT.out.but _ ?_; repeat (first | with_reducible exact Sets.refl _ _ | with_reducible apply Sets.set0 | with_reducible apply Sets.set1)
end Go.Proofs.YtjpbjbcdobibbaaDoor.J

/- spec.Places: the place of the value that a text holds. -/
set_option linter.unusedVariables false
set_option linter.unusedSimpArgs false
namespace Go.Proofs.YtjpbjbcdobibbaaDoor.J
open Go.RowKit Go.Proofs.YtjpbjbcdobibbaaDoorW.PrintWords Go.Proofs.YtjpbjbcdobibbaaDoorW.PrintLast Go.Proofs.YtjpbjbcdobibbaaDoorW.PrintMore Go.Proofs.YtjpbjbcdobibbaaDoor.Aid

theorem value_any (s : ByteArray) (hs : s.size ≤ 2147483647) : ∀ n, ValC s n
  | 0 => fun g a l w hl h => absurd hl (Nat.not_lt_zero _)
  | n + 1 => fun g a l w hl h => by
    have hv := value_any s hs n
    cases l with
    | nil => exact value_nil s hs n g a w h
    | cons c t =>
      have hn : t.length < n := by simp only [List.length_cons] at hl; omega
      by_cases h1 : c = 123
      · subst h1; exact value_obj s hs n hv g a t w hn h
      by_cases h2 : c = 91
      · subst h2; exact value_arr s hs n hv g a t w hn h
      by_cases h3 : c = 34
      · subst h3; exact value_str s hs n g a t w h
      by_cases h4 : c = 45 ∨ dig c = true
      · exact value_num s hs n g a c t w h4 h
      · simp only [not_or] at h4
        exact value_word s hs n g a c t w h1 h2 h3 h4.1 h4.2 h

def PlPost (w : World) : Option Pl → Ending → World → Prop
  | some p, e, w' => ∃ A3 c3 A4 c4, Below w.heap.size w w' ∧ kSp.R tSp w' w.heap.size (fun _ => True) (.slice A3 p.names.length c3) p.names ∧ kPl.R tPl w' w.heap.size (fun _ => True) (.slice A4 p.kids.length c4) p.kids ∧
      e = .returned (.tuple #[.agg #[.int .i64 p.kind, .int .i64 p.b, .int .i64 p.e, .slice A3 p.names.length c3, .slice A4 p.kids.length c4], .bool true])
  | none, e, w' => Below w.heap.size w w' ∧ e = .returned (.tuple #[.agg #[.int .i64 0, .int .i64 0, .int .i64 0, .slice none 0 0, .slice none 0 0], .bool false])
theorem Rd.start (w : World) (s : ByteArray) : Rd (w.alloc (.cells #[.string s, .int .i64 0] tRd)) w.heap.size s 0 (bytesOf s) := ⟨blk_new _ _, Nat.zero_le _, rfl⟩

/-- Behind the reader's making: the result's block is as it was made. -/
structure Pw (w W : World) : Prop where
  b0 : W.heap[w.heap.size]? = some (.cells #[.int .i64 0, .int .i64 0, .int .i64 0, .slice none 0 0, .slice none 0 0] tPl (0, 0))
  sz : w.heap.size + 2 ≤ W.heap.size
  bel : Below w.heap.size w W
theorem Pw.start (w : World) (s : ByteArray) : Pw w ((w.alloc (.cells #[.int .i64 0, .int .i64 0, .int .i64 0, .slice none 0 0, .slice none 0 0] tPl)).alloc (.cells #[.string s, .int .i64 0] tRd)) where
  b0 := blk_alloc (blk_new _ _) _
  sz := by simp
  bel := ((Below.refl _ _).alloc (Nat.le_refl _) _).alloc (by simp) _
theorem Pw.then {w W W' : World} (h : Pw w W) (hb : But (w.heap.size + 1) W W') : Pw w W' where
  b0 := (hb.block _ (by have := h.sz; omega) (by omega)).trans h.b0
  sz := Nat.le_trans h.sz hb.size
  bel := h.bel.trans (hb.to_below (by omega) (by have := h.sz; omega))
theorem Pw.alloc {w W : World} (h : Pw w W) (o : Obj) : Pw w (W.alloc o) where
  b0 := blk_alloc h.b0 _
  sz := by have := h.sz; simp; omega
  bel := h.bel.alloc (by have := h.sz; omega) _
theorem Pw.cells0 {w W : World} (h : Pw w W) :
    (W.cell? ⟨w.heap.size, 0, none⟩ = some (.int .i64 0) ∧ W.cell? ⟨w.heap.size, 1, none⟩ = some (.int .i64 0) ∧ W.cell? ⟨w.heap.size, 2, none⟩ = some (.int .i64 0) ∧ W.cell? ⟨w.heap.size, 3, none⟩ = some (.slice none 0 0) ∧ W.cell? ⟨w.heap.size, 4, none⟩ = some (.slice none 0 0)) ∧
    W.frozen? ⟨w.heap.size, 0, none⟩ = false ∧ W.frozen? ⟨w.heap.size, 1, none⟩ = false ∧ W.frozen? ⟨w.heap.size, 2, none⟩ = false ∧ W.frozen? ⟨w.heap.size, 3, none⟩ = false ∧ W.frozen? ⟨w.heap.size, 4, none⟩ = false :=
  ⟨⟨(blk_cell h.b0 0).trans rfl, (blk_cell h.b0 1).trans rfl, (blk_cell h.b0 2).trans rfl, (blk_cell h.b0 3).trans rfl, (blk_cell h.b0 4).trans rfl⟩, blk_frozen h.b0 0, blk_frozen h.b0 1, blk_frozen h.b0 2, blk_frozen h.b0 3, blk_frozen h.b0 4⟩
theorem pl_no {w W : World} (h : Pw w W) (W' : World) (hS : Sets w.heap.size W W') : PlPost w none (.returned (.tuple #[.agg #[.int .i64 0, .int .i64 0, .int .i64 0, .slice none 0 0, .slice none 0 0], .bool false])) W' :=
  ⟨⟨hS.os.trans h.bel.os, hS.tape.trans h.bel.tape, hS.output.trans h.bel.output, by rw [hS.size]; exact h.bel.size, fun k hk => (hS.block k (by omega) (by omega)).trans (h.bel.block k hk)⟩, rfl⟩
theorem pl_yes {w W : World} {p : Pl} {A3 A4 : Option Addr} {c3 c4 B : Nat} (h : Pw w W) (h3 : kSp.R tSp W B (fun _ => True) (.slice A3 p.names.length c3) p.names) (h4 : kPl.R tPl W B (fun _ => True) (.slice A4 p.kids.length c4) p.kids) (hB : w.heap.size + 2 ≤ B) (W' : World) (hS : Sets w.heap.size W W') :
    PlPost w (some p) (.returned (.tuple #[.agg #[.int .i64 p.kind, .int .i64 p.b, .int .i64 p.e, .slice A3 p.names.length c3, .slice A4 p.kids.length c4], .bool true])) W' :=
  ⟨A3, c3, A4, c4, ⟨hS.os.trans h.bel.os, hS.tape.trans h.bel.tape, hS.output.trans h.bel.output, by rw [hS.size]; exact h.bel.size, fun k hk => (hS.block k (by omega) (by omega)).trans (h.bel.block k hk)⟩, hS.R h3 hB, hS.R h4 hB, rfl⟩

set_option maxHeartbeats 4000000 in
set_option maxRecDepth 100000 in
theorem Places_any (s : ByteArray) (hs : s.size ≤ 2147483647) (w : World) :
    Calls Tryd.prog 24 #[.string s] w (PlPost w (text (bytesOf s))) := by
  have hlen := bytesOf_length s
  have HE := Lib.hid (show text (bytesOf s) = (val s.size (s.size + 1) (skip (bytesOf s))).bind fun x => if skip x.2 = [] then some x.1 else none by unfold text; rw [hlen])
  go_enter Tryd.func24, Tryd.ntmps24
  go_wp2_with fail
  have H := Rd.start (w.alloc (.cells #[.int .i64 0, .int .i64 0, .int .i64 0, .slice none 0 0, .slice none 0 0] tPl)) s
  rw [show (w.alloc (.cells #[.int .i64 0, .int .i64 0, .int .i64 0, .slice none 0 0, .slice none 0 0] tPl)).heap.size = w.heap.size + 1 by simp] at H
  replace H := Lib.hid H
  have HT := Lib.hid (Pw.start w s)
  have hsk := skip_le (bytesOf s)
  refine (blanks_any (w.heap.size + 1) s _ _ _ hs H.out).mono ?_
  rintro e w' ⟨b, hr, hb, rfl⟩
  replace HT := Lib.hid (HT.out.then hb)
  replace H := Lib.hid hr
  clear hr hb
  go_wp2_with fail
  refine (value_any s hs (s.size + 1) (w.heap.size + 1) b _ _ (by omega) H.out).mono ?_
  cases F : val s.size (s.size + 1) (skip (bytesOf s)) with
  | none =>
    rintro e w' ⟨b1, t, k, b0, e0, hr, hb, rfl⟩
    replace HT := Lib.hid (HT.out.then hb)
    have HZ := Lib.hid (HE.out.trans (by rw [F] <;> rfl))
    clear hr hb F H
    replace HT := Lib.hid (HT.out.alloc (.cells #[.int .i64 k, .int .i64 b0, .int .i64 e0, .slice none 0 0, .slice none 0 0] tPl))
    obtain ⟨⟨p0, p1, p2, p3, p4⟩, q0, q1, q2, q3, q4⟩ := HT.out.cells0
    go_wp2
    refine bodyPost_ret (v := .tuple #[.agg #[.int .i64 0, .int .i64 0, .int .i64 0, .slice none 0 0, .slice none 0 0], .bool false]) ?_ rfl ?_
    · simp [results, Tryd.results24, go_sem, p0, p1, p2, p3, p4, q0, q1, q2, q3, q4]
    · rw [HZ.out]
      refine pl_no HT.out _ ?_; repeat (first | with_reducible exact Sets.refl _ _ | with_reducible apply Sets.set0 | with_reducible apply Sets.set1)
  | some x =>
    obtain ⟨p, t⟩ := x
    rintro e w' ⟨b1, A3, c3, A4, c4, hr, hb, h3, h4, rfl⟩
    have hB := HT.out.sz
    replace HT := Lib.hid (HT.out.then hb)
    replace H := Lib.hid hr
    replace F := Lib.hid F
    have H3 := Lib.hid h3
    have H4 := Lib.hid h4
    clear hr hb h3 h4
    go_wp2_with fail
    have hB2 := HT.out.sz
    have HP := Lib.hid (blk_new w' (.cells #[.int .i64 p.kind, .int .i64 p.b, .int .i64 p.e, .slice A3 p.names.length c3, .slice A4 p.kids.length c4] tPl))
    replace HT := Lib.hid (HT.out.alloc (.cells #[.int .i64 p.kind, .int .i64 p.b, .int .i64 p.e, .slice A3 p.names.length c3, .slice A4 p.kids.length c4] tPl))
    replace H := Lib.hid (H.out.alloc (.cells #[.int .i64 p.kind, .int .i64 p.b, .int .i64 p.e, .slice A3 p.names.length c3, .slice A4 p.kids.length c4] tPl))
    replace H3 := Lib.hid (Kd.R_below H3.out (below_alloc (Below.refl _ _) (.cells #[.int .i64 p.kind, .int .i64 p.b, .int .i64 p.e, .slice A3 p.names.length c3, .slice A4 p.kids.length c4] tPl)))
    replace H4 := Lib.hid (Kd.R_below H4.out (below_alloc (Below.refl _ _) (.cells #[.int .i64 p.kind, .int .i64 p.b, .int .i64 p.e, .slice A3 p.names.length c3, .slice A4 p.kids.length c4] tPl)))
    refine (blanks_any (w.heap.size + 1) s _ _ _ hs H.out).mono ?_
    rintro e w2 ⟨b2, hr, hb, rfl⟩
    replace HT := Lib.hid (HT.out.then hb)
    replace HP := Lib.hid ((hb.block _ (by simp) (by omega)).trans HP.out)
    replace H := Lib.hid hr
    replace H3 := Lib.hid (R_but H3.out hb (by omega))
    replace H4 := Lib.hid (R_but H4.out hb (by omega))
    clear hr hb
    obtain ⟨⟨p0, p1, p2, p3, p4⟩, q0, q1, q2, q3, q4⟩ := HT.out.cells0
    have r0 := (blk_cell HP.out 0).trans rfl
    have r1 := (blk_cell HP.out 1).trans rfl
    have r2 := (blk_cell HP.out 2).trans rfl
    have r3 := (blk_cell HP.out 3).trans rfl
    have r4 := (blk_cell HP.out 4).trans rfl
    have c1 := H.out.cell1
    have hl := H.out.len
    by_cases he : skip t = []
    · have HZ := Lib.hid (HE.out.trans (show _ = some p by rw [F.out]; show (if _ then _ else _) = _; rw [if_pos he]))
      rw [he, List.length_nil] at hl
      obtain rfl : b2 = s.size := by omega
      clear he hl
      go_wp2
      refine bodyPost_ret (v := .tuple #[.agg #[.int .i64 p.kind, .int .i64 p.b, .int .i64 p.e, .slice A3 p.names.length c3, .slice A4 p.kids.length c4], .bool true]) ?_ rfl ?_
      · simp [results, Tryd.results24, go_sem, p0, p1, p2, p3, p4, q0, q1, q2, q3, q4]
      · rw [HZ.out]
        refine pl_yes HT.out H3.out H4.out hB _ ?_; repeat (first | with_reducible exact Sets.refl _ _ | with_reducible apply Sets.set0 | with_reducible apply Sets.set1)
    · have HZ := Lib.hid (HE.out.trans (show _ = none by rw [F.out]; show (if _ then _ else _) = _; rw [if_neg he]))
      have hne : b2 ≠ s.size := by
        intro e
        exact he (List.eq_nil_of_length_eq_zero (by omega))
      have b1' : ((b2 : Int) != s.size) = true := bne_iff_ne.mpr (by omega)
      clear he hl hne
      go_wp2
      refine bodyPost_ret (v := .tuple #[.agg #[.int .i64 0, .int .i64 0, .int .i64 0, .slice none 0 0, .slice none 0 0], .bool false]) ?_ rfl ?_
      · simp [results, Tryd.results24, go_sem, p0, p1, p2, p3, p4, q0, q1, q2, q3, q4]
      · rw [HZ.out]
        refine pl_no HT.out _ ?_; repeat (first | with_reducible exact Sets.refl _ _ | with_reducible apply Sets.set0 | with_reducible apply Sets.set1)
end Go.Proofs.YtjpbjbcdobibbaaDoor.J

/- The walks of spec.Tree at a string, spec.Read. -/
set_option linter.unusedVariables false
set_option linter.unusedSimpArgs false
namespace Go.Proofs.YtjpbjbcdobibbaaDoor.J
open Go.RowKit Go.Proofs.YtjpbjbcdobibbaaDoorW.PrintWords Go.Proofs.YtjpbjbcdobibbaaDoorW.PrintLast Go.Proofs.YtjpbjbcdobibbaaDoorW.PrintMore Go.Proofs.YtjpbjbcdobibbaaDoor.Aid

structure Tw (w W : World) (N : Array Value) (P : Array Value) : Prop where
  p : W.heap[w.heap.size]? = some (.cells P tPl (0, 0))
  r : W.heap[w.heap.size + 1]? = some (.cells #[.int .i64 0, .string { data := #[] }, .slice none 0 0, .slice none 0 0] 27 (0, 0))
  n : W.heap[w.heap.size + 1 + 1]? = some (.cells N 27 (0, 0))
  b : Below w.heap.size w W
theorem Tw.start (w : World) (N P : Array Value) : Tw w (((w.alloc (.cells P tPl)).alloc (.cells #[.int .i64 0, .string { data := #[] }, .slice none 0 0, .slice none 0 0] 27)).alloc (.cells N 27)) N P where
  p := blk_alloc (blk_alloc (blk_new _ _) _) _
  r := by have := blk_alloc (blk_new (w.alloc (.cells P tPl)) (.cells #[.int .i64 0, .string { data := #[] }, .slice none 0 0, .slice none 0 0] 27)) (.cells N 27); simpa using this
  n := by have := blk_new ((w.alloc (.cells P tPl)).alloc (.cells #[.int .i64 0, .string { data := #[] }, .slice none 0 0, .slice none 0 0] 27)) (.cells N 27); simpa using this
  b := (((Below.refl _ _).alloc (Nat.le_refl _) _).alloc (by simp) _).alloc (by simp; omega) _
theorem Tw.below {w W W' : World} {N P : Array Value} (h : Tw w W N P) (k : Below W.heap.size W W') : Tw w W' N P := ⟨blk_below h.p k, blk_below h.r k, blk_below h.n k, below_then h.b h.b.size k⟩
theorem Tw.set {w W : World} {N P : Array Value} (h : Tw w W N P) (i : Nat) (u : Value) : Tw w (W.setCell ⟨w.heap.size + 1 + 1, i, none⟩ u) (N.setIfInBounds i u) P :=
  ⟨blk_far h.p (by simp; omega) u, blk_far h.r (by simp) u, blk_set h.n i u, h.b.setCell (by simp; omega) u⟩
set_option maxHeartbeats 8000000 in
set_option maxRecDepth 100000 in
theorem Tree_leaf (s : ByteArray) (w : World) (A3 A4 : Option Addr) (c3 c4 : Nat) (q : L) (h2 : 2 ≤ s.size) (hs : s.size ≤ 2147483647) (hw : wellE (((bytesOf s).drop 1).take (s.size - 2)) = true) (hq : unq (((bytesOf s).drop 1).take (s.size - 2)) = q) :
    Calls Tryd.prog 25 #[.string s, .agg #[.int .i64 4, .int .i64 0, .int .i64 (s.size : Int), .slice A3 0 c3, .slice A4 0 c4]] w fun e w' => e = .returned (.agg #[.int .i64 4, .string (strOfNums q), .slice none 0 0, .slice none 0 0]) ∧ Below w.heap.size w w' := by
  have K := Lib.hid (fun W => Unquote_any s W h2 hs hw)
  rw [hq] at K
  have ks : ∀ W : World, (Instr.slice 9 (.string s) (some (.int .i64 0)) (some (.int .i64 (s.size : Int))) none).run Tryd.prog W = .ok (.string s) W := by
    intro W
    have := slice_strI s 0 (s.size : Int) (by omega) (by omega) (by omega) W
    rwa [show ((s.size : Int)).toNat = s.size by omega, show (0 : Int).toNat = 0 from rfl, ByteArray.extract_zero_size] at this
  clear hw hq h2
  go_enter Tryd.func25, Tryd.ntmps25
  go_wp2_with (go_at_call 28; refine (K.out _).mono ?_; rintro e w1 ⟨rfl, hb⟩; have HT := Lib.hid ((Tw.start w _ _).below hb); clear hb; have n0 := blk_cell HT.out.n 0; have n1 := blk_cell HT.out.n 1; have f1 := blk_frozen HT.out.n 1)
  have HT2 := Lib.hid (HT.out.set 1 (.string (strOfNums q)))
  clear HT n0 n1 f1
  go_loopg [6] 0 (fun kq v6 w' => Hid (v6 = .int .i64 0 ∧ Tw w w' #[.int .i64 4, .string (strOfNums q), .slice none 0 0, .slice none 0 0] #[.int .i64 4, .int .i64 0, .int .i64 (s.size : Int), .slice A3 0 c3, .slice A4 0 c4]))
  case atStart => exact Lib.hid ⟨rfl, HT2.out⟩
  case round =>
    obtain ⟨rfl, HT⟩ := hrel.out
    clear hrel HT2
    have p3 := blk_cell HT.p 3
    have p4 := blk_cell HT.p 4
    replace HT := Lib.hid HT
    go_wp2
    go_loopg [7] 0 (fun kq v7 w' => Hid (v7 = .int .i64 0 ∧ Tw w w' #[.int .i64 4, .string (strOfNums q), .slice none 0 0, .slice none 0 0] #[.int .i64 4, .int .i64 0, .int .i64 (s.size : Int), .slice A3 0 c3, .slice A4 0 c4]))
    case atStart => exact Lib.hid ⟨rfl, HT.out⟩
    case round =>
      obtain ⟨rfl, HT⟩ := hrel.out
      have p4 := blk_cell HT.p 4
      have n0 := blk_cell HT.n 0
      have n1 := blk_cell HT.n 1
      have n2 := blk_cell HT.n 2
      have n3 := blk_cell HT.n 3
      have r0 := blk_cell HT.r 0
      have r1 := blk_cell HT.r 1
      have r2 := blk_cell HT.r 2
      have r3 := blk_cell HT.r 3
      have g0 := blk_frozen HT.r 0
      have g1 := blk_frozen HT.r 1
      have g2 := blk_frozen HT.r 2
      have g3 := blk_frozen HT.r 3
      replace HT := Lib.hid HT
      clear hrel
      go_wp2
      refine bodyPost_ret (v := .agg #[.int .i64 4, .string (strOfNums q), .slice none 0 0, .slice none 0 0]) ?_ rfl ?_
      · simp [results, Tryd.results25, go_sem, r0, r1, r2, r3, g0, g1, g2, g3]
      · exact ⟨rfl, (((HT.out.b.setCell (by simp) _).setCell (by simp) _).setCell (by simp) _).setCell (by simp) _⟩
structure Rw (w W : World) : Prop where
  r : W.heap[w.heap.size]? = some (.cells #[.int .i64 0, .string { data := #[] }, .slice none 0 0, .slice none 0 0] 27 (0, 0))
  b : Below w.heap.size w W
theorem Rw.start (w : World) : Rw w (w.alloc (.cells #[.int .i64 0, .string { data := #[] }, .slice none 0 0, .slice none 0 0] 27)) := ⟨blk_new _ _, (Below.refl _ _).alloc (Nat.le_refl _) _⟩
theorem Rw.below {w W W' : World} (h : Rw w W) (k : Below W.heap.size W W') : Rw w W' := ⟨blk_below h.r k, below_then h.b h.b.size k⟩
set_option maxHeartbeats 4000000 in
set_option maxRecDepth 100000 in
theorem Read_str (s : ByteArray) (w : World) (acc d : L) (hs : s.size ≤ 2147483647) (hb : bytesOf s = 34 :: (acc ++ [34])) (hS : St acc d) :
    Calls Tryd.prog 10 #[.string s] w fun e w' => e = .returned (.tuple #[.agg #[.int .i64 4, .string (strOfNums d), .slice none 0 0, .slice none 0 0], .bool true]) ∧ Below w.heap.size w w' := by
  have hz : acc.length + 2 = s.size := by have := bytesOf_length s; rw [hb] at this; simp at this; omega
  have hin : ((bytesOf s).drop 1).take (s.size - 2) = acc := by rw [hb, ← hz]; simp
  have P : ∀ W, Calls Tryd.prog 24 #[.string s] W fun e w' => ∃ A3 c3 A4 c4, e = .returned (.tuple #[.agg #[.int .i64 4, .int .i64 0, .int .i64 (s.size : Int), .slice A3 0 c3, .slice A4 0 c4], .bool true]) ∧ Below W.heap.size W w' := fun W => by
    have := Places_any s hs W
    rw [hb, hS.text, hz] at this
    refine this.mono ?_
    rintro e w' ⟨A3, c3, A4, c4, hb, _, _, rfl⟩
    exact ⟨A3, c3, A4, c4, rfl, hb⟩
  have T := Lib.hid (fun W A3 A4 c3 c4 => Tree_leaf s W A3 A4 c3 c4 d (by omega) hs (by rw [hin]; exact hS.well) (by rw [hin]; exact hS.unq))
  replace P := Lib.hid P
  clear hin hS hb hz
  go_enter Tryd.func10, Tryd.ntmps10
  go_wp2_with (first | (go_at_call 24; refine (P.out _).mono ?_; rintro e w1 ⟨A3, c3, A4, c4, rfl, hb⟩; have HT := Lib.hid ((Rw.start w).below hb); clear hb) | (go_at_call 25; refine (T.out _ _ _ _ _).mono ?_; rintro e w2 ⟨rfl, hb2⟩; replace HT := (HT.out.below (below_alloc (Below.refl _ _) _)).below hb2; clear hb2; have r0 := blk_cell HT.r 0; have r1 := blk_cell HT.r 1; have r2 := blk_cell HT.r 2; have r3 := blk_cell HT.r 3; have g0 := blk_frozen HT.r 0; have g1 := blk_frozen HT.r 1; have g2 := blk_frozen HT.r 2; have g3 := blk_frozen HT.r 3; replace HT := Lib.hid HT))
  refine bodyPost_ret (v := .tuple #[.agg #[.int .i64 4, .string (strOfNums d), .slice none 0 0, .slice none 0 0], .bool true]) ?_ rfl ?_
  · simp [results, Tryd.results10, go_sem, r0, r1, r2, r3, g0, g1, g2, g3]
  · exact ⟨rfl, (((HT.out.b.setCell (by simp) _).setCell (by simp) _).setCell (by simp) _).setCell (by simp) _⟩
end Go.Proofs.YtjpbjbcdobibbaaDoor.J

/- The law FnSjStringText. -/
set_option linter.unusedVariables false
set_option linter.unusedSimpArgs false
namespace Go.Proofs.YtjpbjbcdobibbaaDoor.J
open Go.RowKit Go.Proofs.YtjpbjbcdobibbaaDoorW.PrintWords Go.Proofs.YtjpbjbcdobibbaaDoorW.PrintLast Go.Proofs.YtjpbjbcdobibbaaDoorW.PrintMore Go.Proofs.YtjpbjbcdobibbaaDoor.Aid

def plB (x : Int) : Bool := decide (x < 32) || decide (126 < x) || x == 34 || x == 92
def SsI (w W : World) (s : ByteArray) (kq : Nat) (v : Value) : Prop := ∃ a : Nat, v = .int .i64 ((a : Nat) : Int) ∧ a + kq = s.size ∧ ((bytesOf s).take a).any plB = false ∧ Below w.heap.size w W
theorem out_read (s o : ByteArray) (acc : L) (hs : s.size ≤ 4096) (hO : o = strOfNums (34 :: (acc ++ [34]))) (h : Wr s acc) (W : World) :
    Calls Tryd.prog 10 #[.string o] W fun e w' => e = .returned (.tuple #[.agg #[.int .i64 4, .string s, .slice none 0 0, .slice none 0 0], .bool true]) ∧ Below W.heap.size W w' := by
  have hb : bytesOf o = 34 :: (acc ++ [34]) := by
    rw [hO]
    refine bytes_of_str _ (fun x hx => ?_)
    simp only [List.mem_cons, List.mem_append, List.not_mem_nil, or_false] at hx
    rcases hx with rfl | hx | rfl
    · decide
    · exact h.1.by_ x hx
    · decide
  have hz : o.size ≤ 2147483647 := by
    have := bytesOf_length o
    have h2 := h.2.1
    rw [hb] at this
    simp at this
    omega
  have := Read_str o W acc (bytesOf s) hz hb h.1
  rwa [str_of_bytes] at this
theorem out_plain (s o : ByteArray) (acc : L) (hO : o = strOfNums (34 :: (acc ++ [34]))) (h : Wr s acc) (hp : (bytesOf s).any plB = false) : o = strOfNums (34 :: (bytesOf s ++ [34])) := by
  rw [hO, h.2.2]
  rw [List.any_eq_false] at hp ⊢
  intro x hx
  have := hp x hx
  unfold plB at this
  unfold badB
  simp at this ⊢
  omega
set_option maxHeartbeats 4000000 in
set_option maxRecDepth 100000 in
theorem lawSjStringText_any (s : ByteArray) (w : World) (hT : Lib.Utf8Tabs gF gA w) (hs : s.size ≤ 140737488351232) :
    Calls Tryd.prog 3 #[.string s] w fun e w' => e = .returned (.bool true) ∧ Below w.heap.size w w' := by
  by_cases c1 : 2147483647 < (s.size : Int)
  · have hd : decide (2147483647 < (s.size : Int)) = true := decide_eq_true c1
    clear hT
    go_enter Tryd.func3, Tryd.ntmps3
    go_wp2
    go_ret
    exact ⟨rfl, Below.refl _ _⟩
  have hd1 : decide (2147483647 < (s.size : Int)) = false := decide_eq_false c1
  by_cases c3 : 4096 < (s.size : Int)
  · have hd : decide (4096 < (s.size : Int)) = true := decide_eq_true c3
    clear hT
    go_enter Tryd.func3, Tryd.ntmps3
    go_wp2
    go_ret
    exact ⟨rfl, Below.refl _ _⟩
  have hd3 : decide (4096 < (s.size : Int)) = false := decide_eq_false c3
  have us : Hid (∀ W, Calls Tryd.prog 8 #[.string s] W fun e w' => e = .returned (.bool (valid (bytesOf s))) ∧ Drawn0 W w') := Lib.hid (fun W => UTF8_any s W (by omega))
  cases hvs : valid (bytesOf s) with
  | false =>
    rw [hvs] at us
    clear hT hvs
    go_enter Tryd.func3, Tryd.ntmps3
    go_wp2_with (go_at_call 8; refine (us.out _).mono ?_; rintro e w1 ⟨rfl, hb⟩; replace hb := Lib.hid hb.below)
    go_ret
    exact ⟨rfl, hb.out⟩
  | true =>
  rw [hvs] at us
  have K := Lib.hid (fun W (h : Lib.Utf8Tabs gF gA W) => SjString_any s W (by omega) hvs h)
  have hb := Lib.hid (Below.refl w.heap.size w)
  have HT := Lib.hid hT
  have hsz : s.size ≤ 4096 := by omega
  clear hT hvs
  go_enter Tryd.func3, Tryd.ntmps3
  go_wp2_with (first
    | (go_at_call 8; refine (us.out _).mono ?_; rintro e w1 ⟨rfl, hb1⟩; replace HT := Lib.hid (tabs_below HT.out hb1.below); replace hb := Lib.hid (below_then hb.out hb.out.size hb1.below); clear hb1)
    | (go_at_call 9; refine (K.out _ HT.out).mono ?_; rintro e w2 ⟨acc, rfl, hb1, hW⟩; replace hb := Lib.hid (below_then hb.out hb.out.size hb1); clear hb1; obtain ⟨o, hO⟩ : ∃ o, o = strOfNums (34 :: (acc ++ [34])) := ⟨_, rfl⟩; rw [← hO]; have R := Lib.hid (out_read s o acc hsz hO hW); have Q := Lib.hid (out_plain s o acc hO hW); clear hO hW)
    | (go_at_call 10; refine (R.out _).mono ?_; rintro e w3 ⟨rfl, hb1⟩; replace hb := Lib.hid (below_then hb.out hb.out.size hb1); clear hb1))
  go_loopg [6] s.size (fun kq v6 w' => Hid (SsI w w' s kq v6))
  case atStart => exact Lib.hid ⟨0, rfl, by omega, by simp, hb.out.alloc hb.out.size _⟩
  case round =>
    obtain ⟨a, rfl, hak, hP, hB⟩ := hrel.out
    clear hrel hb
    have hb := Lib.hid hB
    have HP := Lib.hid hP
    have HK := Lib.hid hak
    clear hB hP
    rcases Nat.lt_or_ge a s.size with hlt | hge
    · by_cases hx : plB ((s[a]'hlt).toNat : Int) = true
      · unfold plB at hx
        simp only [Bool.or_eq_true] at hx
        rcases Bool.eq_false_or_eq_true (decide (((s[a]'hlt).toNat : Int) < 32)) with d1 | d1
        · clear hx
          go_wp2
          go_ret
          exact ⟨rfl, hb.out⟩
        rcases Bool.eq_false_or_eq_true (decide (((s[a]'hlt).toNat : Int) > 126)) with d2 | d2
        · clear hx
          go_wp2
          go_ret
          exact ⟨rfl, hb.out⟩
        rcases Bool.eq_false_or_eq_true (((s[a]'hlt).toNat : Int) == 34) with d3 | d3
        · clear hx
          go_wp2
          go_ret
          exact ⟨rfl, hb.out⟩
        have d4 : (((s[a]'hlt).toNat : Int) == 92) = true := by
          have d2' : decide (126 < ((s[a]'hlt).toNat : Int)) = false := d2
          rw [d1, d2', d3] at hx
          simpa using hx
        clear hx
        go_wp2
        go_ret
        exact ⟨rfl, hb.out⟩
      · have hx' : plB ((s[a]'hlt).toNat : Int) = false := by simpa using hx
        have fin : Hid (∀ W, Below w.heap.size w W → SsI w W s (s.size - (a + 1)) (.int .i64 ((a + 1 : Nat) : Int))) := Lib.hid (fun W h => ⟨a + 1, rfl, by omega, by rw [take_snoc' s a hlt, List.any_append, HP.out, Bool.false_or]; simpa using hx', h⟩)
        unfold plB at hx'
        simp only [Bool.or_eq_false_iff] at hx'
        obtain ⟨⟨⟨d1, d2⟩, d3⟩, d4⟩ := hx'
        have d2' : decide (((s[a]'hlt).toNat : Int) > 126) = false := d2
        clear hx
        go_wp2
        go_roundg (s.size - (a + 1))
        case rel => exact Lib.hid (fin.out _ hb.out)
        case measure => have := HK.out; omega
    · obtain rfl : a = s.size := by omega
      have Q2 := Lib.hid (Q.out (by have := HP.out; rwa [List.take_of_length_le (by rw [bytesOf_length]; exact Nat.le_refl _)] at this))
      have E : Hid ((o.toList == ({ data := #[34] } ++ s ++ { data := #[34] }).toList) = true) := Lib.hid (by
        rw [beq_iff_eq]
        congr 1
        rw [Q2.out, ← str_of_bytes ({ data := #[34] } ++ s ++ { data := #[34] })]
        congr 1
        unfold bytesOf
        simp)
      go_wp2
      go_ret
      exact ⟨by rw [E.out]; rfl, hb.out⟩
end Go.Proofs.YtjpbjbcdobibbaaDoor.J

/- The two tables of unicode/utf8, out of a row's list. -/
set_option linter.unusedVariables false
namespace Go.Proofs.YtjpbjbcdobibbaaDoor.J
open Go.RowKit Go.Lib

theorem first_data : (Rows.laid_unicode_utf8_first : DataW Unit) = Lib.firstData := by kernel_rfl
theorem accept_data : (Rows.laid_unicode_utf8_acceptRanges : DataW Unit) = Lib.acceptData := by kernel_rfl
theorem tabs_of {W : World} (h1 : VarReads Tryd.prog W "unicode/utf8.acceptRanges" Rows.laid_unicode_utf8_acceptRanges) (h2 : VarReads Tryd.prog W "unicode/utf8.first" Rows.laid_unicode_utf8_first) : Lib.Utf8Tabs gF gA W := by
  rw [first_data] at h2
  rw [accept_data] at h1
  exact Go.Proofs.utf8Tabs_of_reads (ρ := Tryd.lays260_ren) Tryd.lays260 ⟨by kernel_rfl, by kernel_rfl, by kernel_rfl, by kernel_rfl, by kernel_rfl, by kernel_rfl, by kernel_rfl⟩ h2 h1
end Go.Proofs.YtjpbjbcdobibbaaDoor.J

