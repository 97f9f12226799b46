/- The walk of the reader's values. -/
import Derived.Test.YtiehnomfckbnhaaJ6
set_option linter.unusedVariables false
set_option linter.unusedSimpArgs false
namespace Go.Proofs.Ytiehnomfckbnhaa.J
open Go.RowKit Go.Proofs.YtiehnomfckbnhaaW.PrintWords Go.Proofs.YtiehnomfckbnhaaW.PrintLast Go.Proofs.YtiehnomfckbnhaaW.PrintMore Go.Proofs.Ytiehnomfckbnhaa.Aid

/-- Stores into the blocks B and B + 1 alone. -/
structure Sets (B : Nat) (W W' : World) : Prop where
  os : W'.os = W.os
  tape : W'.tape = W.tape
  output : W'.output = W.output
  size : W'.heap.size = W.heap.size
  block : ∀ k, k ≠ B → k ≠ B + 1 → W'.heap[k]? = W.heap[k]?
theorem Sets.refl (B : Nat) (W : World) : Sets B W W := ⟨rfl, rfl, rfl, rfl, fun _ _ _ => rfl⟩
theorem Sets.set0 {B : Nat} {W W' : World} (h : Sets B W W') (j : Nat) (u : Value) : Sets B W (W'.setCell ⟨B, j, none⟩ u) :=
  ⟨h.os, h.tape, h.output, by simpa using h.size, fun k h0 h1 => (Below.heap_setCell W' ⟨B, j, none⟩ u k h0).trans (h.block k h0 h1)⟩
theorem Sets.set1 {B : Nat} {W W' : World} (h : Sets B W W') (j : Nat) (u : Value) : Sets B W (W'.setCell ⟨B + 1, j, none⟩ u) :=
  ⟨h.os, h.tape, h.output, by simpa using h.size, fun k h0 h1 => (Below.heap_setCell W' ⟨B + 1, j, none⟩ u k h1).trans (h.block k h0 h1)⟩
theorem Sets.but {g : Nat} {w W W' : World} (h : Sets w.heap.size W W') (hb : But g w W) : But g w W' :=
  ⟨h.os.trans hb.os, h.tape.trans hb.tape, h.output.trans hb.output, by rw [h.size]; exact hb.size, fun i hi hg => (h.block i (by omega) (by omega)).trans (hb.block i hi hg)⟩
theorem Sets.rd {B g a : Nat} {s : ByteArray} {l : L} {W W' : World} (h : Sets B W W') (hr : Rd W g s a l) (hg : g < B) : Rd W' g s a l := hr.of_block (h.block g (by omega) (by omega))
theorem Sets.R {α : Type} {d : Kd α} {e : Nat} {base : Nat} {ok : Nat → Prop} {v : Value} {xs : List α} {B : Nat} {W W' : World} (h : Sets B W W') (hr : d.R e W base ok v xs) (hB : B + 2 ≤ base) : d.R e W' B ok v xs :=
  Kd.R_lower (R_from hr fun k hk _ => h.block k (by omega) (by omega)) (by omega)

def zeroPl : Array Value := #[.int .i64 0, .int .i64 0, .int .i64 0, .slice none 0 0, .slice none 0 0]
/-- The two blocks of a call of value: the result's, the place's. -/
structure Two (g : Nat) (s : ByteArray) (w : World) (a : Nat) (l : L) (k : Int) (W : World) : Prop where
  b0 : W.heap[w.heap.size]? = some (.cells #[.int .i64 0, .int .i64 0, .int .i64 0, .slice none 0 0, .slice none 0 0] tPl (0, 0))
  b1 : W.heap[w.heap.size + 1]? = some (.cells #[.int .i64 k, .int .i64 a, .int .i64 0, .slice none 0 0, .slice none 0 0] tPl (0, 0))
  sz : w.heap.size + 2 ≤ W.heap.size
  but : But g w W
theorem Two.start {g : Nat} {s : ByteArray} {w : World} {a : Nat} {l : L} : Two g s w a l 0 ((w.alloc (.cells #[.int .i64 0, .int .i64 0, .int .i64 0, .slice none 0 0, .slice none 0 0] tPl)).alloc (.cells #[.int .i64 0, .int .i64 a, .int .i64 0, .slice none 0 0, .slice none 0 0] tPl)) where
  b0 := blk_alloc (blk_new _ _) _
  b1 := by have := blk_new (w.alloc (.cells #[.int .i64 0, .int .i64 0, .int .i64 0, .slice none 0 0, .slice none 0 0] tPl)) (.cells #[.int .i64 0, .int .i64 a, .int .i64 0, .slice none 0 0, .slice none 0 0] tPl); simpa using this
  sz := by simp
  but := ((But.refl g w).alloc _).alloc _
theorem Two.drewN {g : Nat} {s : ByteArray} {w : World} {a : Nat} {l : L} {k : Int} {W : World} (h : Two g s w a l k W) (n : Nat) : Two g s w a l k (W.drewN n) := ⟨h.b0, h.b1, h.sz, h.but.drewN n⟩
theorem Two.kind {g : Nat} {s : ByteArray} {w : World} {a : Nat} {l : L} {k : Int} {W : World} (h : Two g s w a l k W) (k' : Int) : Two g s w a l k' (W.setCell ⟨w.heap.size + 1, 0, none⟩ (.int .i64 k')) where
  b0 := blk_far h.b0 (by simp) _
  b1 := blk_set h.b1 0 _
  sz := by simpa using h.sz
  but := h.but.setNew _ (by simp) _
theorem Two.then {g : Nat} {s : ByteArray} {w : World} {a : Nat} {l : L} {k : Int} {W W' : World} (h : Two g s w a l k W) (hb : But g W W') (hg : g < w.heap.size) : Two g s w a l k W' where
  b0 := (hb.block _ (by have := h.sz; omega) (by omega)).trans h.b0
  b1 := (hb.block _ (by have := h.sz; omega) (by omega)).trans h.b1
  sz := Nat.le_trans h.sz hb.size
  but := h.but.trans hb
theorem Two.cells0 {g : Nat} {s : ByteArray} {w : World} {a : Nat} {l : L} {k : Int} {W : World} (h : Two g s w a l k W) :
    (W.cell? ⟨w.heap.size, 0, none⟩ = some (.int .i64 0) ∧ W.cell? ⟨w.heap.size, 1, none⟩ = some (.int .i64 0) ∧ W.cell? ⟨w.heap.size, 2, none⟩ = some (.int .i64 0) ∧ W.cell? ⟨w.heap.size, 3, none⟩ = some (.slice none 0 0) ∧ W.cell? ⟨w.heap.size, 4, none⟩ = some (.slice none 0 0)) ∧
    W.frozen? ⟨w.heap.size, 0, none⟩ = false ∧ W.frozen? ⟨w.heap.size, 1, none⟩ = false ∧ W.frozen? ⟨w.heap.size, 2, none⟩ = false ∧ W.frozen? ⟨w.heap.size, 3, none⟩ = false ∧ W.frozen? ⟨w.heap.size, 4, none⟩ = false :=
  ⟨⟨(blk_cell h.b0 0).trans rfl, (blk_cell h.b0 1).trans rfl, (blk_cell h.b0 2).trans rfl, (blk_cell h.b0 3).trans rfl, (blk_cell h.b0 4).trans rfl⟩, blk_frozen h.b0 0, blk_frozen h.b0 1, blk_frozen h.b0 2, blk_frozen h.b0 3, blk_frozen h.b0 4⟩
theorem Two.cells1 {g : Nat} {s : ByteArray} {w : World} {a : Nat} {l : L} {k : Int} {W : World} (h : Two g s w a l k W) :
    (W.cell? ⟨w.heap.size + 1, 0, none⟩ = some (.int .i64 k) ∧ W.cell? ⟨w.heap.size + 1, 1, none⟩ = some (.int .i64 a) ∧ W.cell? ⟨w.heap.size + 1, 2, none⟩ = some (.int .i64 0) ∧ W.cell? ⟨w.heap.size + 1, 3, none⟩ = some (.slice none 0 0) ∧ W.cell? ⟨w.heap.size + 1, 4, none⟩ = some (.slice none 0 0)) ∧
    W.frozen? ⟨w.heap.size + 1, 0, none⟩ = false ∧ W.frozen? ⟨w.heap.size + 1, 1, none⟩ = false ∧ W.frozen? ⟨w.heap.size + 1, 2, none⟩ = false ∧ W.frozen? ⟨w.heap.size + 1, 3, none⟩ = false ∧ W.frozen? ⟨w.heap.size + 1, 4, none⟩ = false :=
  ⟨⟨(blk_cell h.b1 0).trans rfl, (blk_cell h.b1 1).trans rfl, (blk_cell h.b1 2).trans rfl, (blk_cell h.b1 3).trans rfl, (blk_cell h.b1 4).trans rfl⟩, blk_frozen h.b1 0, blk_frozen h.b1 1, blk_frozen h.b1 2, blk_frozen h.b1 3, blk_frozen h.b1 4⟩

theorem leaf_no {g b : Nat} {s : ByteArray} {l : L} {w W : World} {k b0 e0 : Int} (hr : Rd W g s b l) (hg : g < w.heap.size) (hT : But g w W) (W' : World) (hS : Sets w.heap.size W W') :
    VPost g s w none (.returned (.tuple #[.agg #[.int .i64 k, .int .i64 b0, .int .i64 e0, .slice none 0 0, .slice none 0 0], .bool false])) W' := ⟨b, l, k, b0, e0, hS.rd hr hg, hS.but hT, rfl⟩
theorem leaf_yes {g b : Nat} {s : ByteArray} {l : L} {w W : World} {k b0 e0 : Int} (hr : Rd W g s b l) (hg : g < w.heap.size) (hT : But g w W) (W' : World) (hS : Sets w.heap.size W W') :
    VPost g s w (some (⟨k, b0, e0, [], []⟩, l)) (.returned (.tuple #[.agg #[.int .i64 k, .int .i64 b0, .int .i64 e0, .slice none 0 0, .slice none 0 0], .bool true])) W' :=
  ⟨b, none, 0, none, 0, hS.rd hr hg, hS.but hT, Kd.R_nil _ _ _ _ _, Kd.R_nil _ _ _ _ _, rfl⟩
theorem leaf_kids {g b : Nat} {s : ByteArray} {l : L} {w W : World} {k b0 e0 : Int} {ns : List Sp} {ks : List Pl} {A3 A4 : Option Addr} {c3 c4 B : Nat} (hr : Rd W g s b l) (hg : g < w.heap.size) (hT : But g w W)
    (h3 : kSp.R tSp W B (fun _ => True) (.slice A3 ns.length c3) ns) (h4 : kPl.R tPl W B (fun _ => True) (.slice A4 ks.length c4) ks) (hB : w.heap.size + 2 ≤ B) (W' : World) (hS : Sets w.heap.size W W') :
    VPost g s w (some (⟨k, b0, e0, ns, ks⟩, l)) (.returned (.tuple #[.agg #[.int .i64 k, .int .i64 b0, .int .i64 e0, .slice A3 ns.length c3, .slice A4 ks.length c4], .bool true])) W' :=
  ⟨b, A3, c3, A4, c4, hS.rd hr hg, hS.but hT, hS.R h3 hB, hS.R h4 hB, rfl⟩

set_option maxHeartbeats 8000000 in
set_option maxRecDepth 100000 in
theorem value_obj (s : ByteArray) (hs : s.size ≤ 2147483647) (n : Nat) (hv : ValC s n) (g a : Nat) (t : L) (w : World) (hn : t.length < n) (h : Rd w g s a (123 :: t)) :
    Calls Try.prog 9 #[.pointer (some ⟨g, 0, none⟩)] w (VPost g s w (val s.size (n + 1) (123 :: t))) := by
  have c1 := h.cell1
  have hg := h.lt
  have H := Lib.hid h
  have HP0 := Lib.hid h.pos
  have HV := Lib.hid hv
  clear h hv
  have HE := Lib.hid (show val s.size (n + 1) (123 :: t) = (obj s.size (val s.size n) t).map fun x => (⟨6, pos s.size (123 :: t), pos s.size x.2, x.1.1, x.1.2⟩, x.2) from rfl)
  have HT := Lib.hid (Two.start (g := g) (s := s) (w := w) (a := a) (l := 123 :: t))
  go_enter Try.func9, Try.ntmps9
  go_wp2_with fail
  refine (here_any g s _ _ _ hs ((H.out.alloc _).alloc _)).mono ?_
  rw [show hd ((123 : Int) :: t) = 123 from rfl]
  rintro e w' ⟨rfl, n0, rfl⟩
  go_wp2_with fail
  replace HT := Lib.hid ((HT.out.drewN n0).kind 6)
  have H2 := Lib.hid (((H.out.alloc _).alloc _).drew n0 |>.setFar (p := ⟨w.heap.size + 1, 0, none⟩) (by show g ≠ w.heap.size + 1; omega) (.int .i64 6) : Rd ((((w.alloc (.cells #[.int .i64 0, .int .i64 0, .int .i64 0, .slice none 0 0, .slice none 0 0] tPl)).alloc (.cells #[.int .i64 0, .int .i64 a, .int .i64 0, .slice none 0 0, .slice none 0 0] tPl)).drewN n0).setCell ⟨w.heap.size + 1, 0, none⟩ (.int .i64 6)) g s a (123 :: t))
  clear H c1
  refine (members_any s hs n HV.out g a 123 t _ hn H2.out).mono ?_
  cases F : obj s.size (val s.size n) t with
  | none =>
    rintro e w' ⟨b, l', hr, hb, rfl⟩
    replace HT := Lib.hid (HT.out.then hb hg)
    replace H := Lib.hid hr
    clear H2 hr hb
    have HZ := Lib.hid (HE.out.trans (by rw [F] <;> rfl))
    clear F
    obtain ⟨⟨p0, p1, p2, p3, p4⟩, q0, q1, q2, q3, q4⟩ := HT.out.cells0
    obtain ⟨⟨r0, r1, r2, r3, r4⟩, s0, s1, s2, s3, s4⟩ := HT.out.cells1
    have c1 := H.out.cell1
    go_wp2
    refine bodyPost_ret (v := .tuple #[.agg #[.int .i64 6, .int .i64 a, .int .i64 b, .slice none 0 0, .slice none 0 0], .bool false]) ?_ rfl ?_
    · simp [results, Try.results9, go_sem, p0, p1, p2, p3, p4, q0, q1, q2, q3, q4]
    · rw [HZ.out]
      refine leaf_no H.out hg HT.out.but _ ?_; repeat (first | with_reducible exact Sets.refl _ _ | with_reducible apply Sets.set0 | with_reducible apply Sets.set1)
  | some x =>
    obtain ⟨⟨ns, ks⟩, l'⟩ := x
    rintro e w' ⟨b, A3, c3, A4, c4, hr, hb, h3, h4, rfl⟩
    have hsz := HT.out.sz
    replace HT := Lib.hid (HT.out.then hb hg)
    replace H := Lib.hid hr
    have H3 := Lib.hid h3
    have H4 := Lib.hid h4
    clear H2 hr hb h3 h4
    have HZ := Lib.hid (HE.out.trans (show _ = some (⟨6, (a : Int), (b : Int), ns, ks⟩, l') by rw [F, HP0.out]; show some (_, _) = _; rw [H.out.pos]))
    clear F
    obtain ⟨⟨p0, p1, p2, p3, p4⟩, q0, q1, q2, q3, q4⟩ := HT.out.cells0
    obtain ⟨⟨r0, r1, r2, r3, r4⟩, s0, s1, s2, s3, s4⟩ := HT.out.cells1
    have c1 := H.out.cell1
    go_wp2
    refine bodyPost_ret (v := .tuple #[.agg #[.int .i64 6, .int .i64 a, .int .i64 b, .slice A3 ns.length c3, .slice A4 ks.length c4], .bool true]) ?_ rfl ?_
    · simp [results, Try.results9, go_sem, p0, p1, p2, p3, p4, q0, q1, q2, q3, q4]
    · rw [HZ.out]
      refine leaf_kids H.out hg HT.out.but H3.out H4.out hsz _ ?_; repeat (first | with_reducible exact Sets.refl _ _ | with_reducible apply Sets.set0 | with_reducible apply Sets.set1)

-- PRINTED by wip/gen/genj7.py

set_option maxHeartbeats 8000000 in
set_option maxRecDepth 100000 in
theorem value_arr (s : ByteArray) (hs : s.size ≤ 2147483647) (n : Nat) (hv : ValC s n) (g a : Nat) (t : L) (w : World) (hn : t.length < n) (h : Rd w g s a (91 :: t)) :
    Calls Try.prog 9 #[.pointer (some ⟨g, 0, none⟩)] w (VPost g s w (val s.size (n + 1) (91 :: t))) := by
  have c1 := h.cell1
  have hg := h.lt
  have H := Lib.hid h
  have HP0 := Lib.hid h.pos
  clear h
  have HT := Lib.hid (Two.start (g := g) (s := s) (w := w) (a := a) (l := 91 :: t))
  have HV := Lib.hid hv
  clear hv
  have HE := Lib.hid (show val s.size (n + 1) (91 :: t) = (arr (val s.size n) t).map fun x => (⟨5, pos s.size (91 :: t), pos s.size x.2, [], x.1⟩, x.2) from rfl)
  go_enter Try.func9, Try.ntmps9
  go_wp2_with fail
  refine (here_any g s _ _ _ hs ((H.out.alloc _).alloc _)).mono ?_
  rw [show hd (91 :: t) = 91 from rfl]
  rintro e w' ⟨rfl, n0, rfl⟩
  go_wp2_with fail
  replace HT := Lib.hid ((HT.out.drewN n0).kind 5)
  have H2 := Lib.hid (((H.out.alloc _).alloc _).drew n0 |>.setFar (p := ⟨w.heap.size + 1, 0, none⟩) (by show g ≠ w.heap.size + 1; omega) (.int .i64 5) : Rd ((((w.alloc (.cells #[.int .i64 0, .int .i64 0, .int .i64 0, .slice none 0 0, .slice none 0 0] tPl)).alloc (.cells #[.int .i64 0, .int .i64 a, .int .i64 0, .slice none 0 0, .slice none 0 0] tPl)).drewN n0).setCell ⟨w.heap.size + 1, 0, none⟩ (.int .i64 5)) g s a (91 :: t))
  clear H c1
  refine (elements_any s hs n HV.out g a 91 t _ hn H2.out).mono ?_
  cases F : arr (val s.size n) t with
  | none =>
    rintro e w' ⟨b, l', hr, hb, rfl⟩
    replace HT := Lib.hid (HT.out.then hb hg)
    replace H := Lib.hid hr
    clear H2 hr hb
    have HZ := Lib.hid (HE.out.trans (by rw [F] <;> rfl))
    clear F
    obtain ⟨⟨p0, p1, p2, p3, p4⟩, q0, q1, q2, q3, q4⟩ := HT.out.cells0
    obtain ⟨⟨r0, r1, r2, r3, r4⟩, s0, s1, s2, s3, s4⟩ := HT.out.cells1
    have c1 := H.out.cell1
    go_wp2
    refine bodyPost_ret (v := .tuple #[.agg #[.int .i64 5, .int .i64 a, .int .i64 b, .slice none 0 0, .slice none 0 0], .bool false]) ?_ rfl ?_
    · simp [results, Try.results9, go_sem, p0, p1, p2, p3, p4, q0, q1, q2, q3, q4]
    · rw [HZ.out]
      refine leaf_no H.out hg HT.out.but _ ?_; repeat (first | with_reducible exact Sets.refl _ _ | with_reducible apply Sets.set0 | with_reducible apply Sets.set1)
  | some x =>
    obtain ⟨ks, l'⟩ := x
    rintro e w' ⟨b, A4, c4, hr, hb, h4, rfl⟩
    have hsz := HT.out.sz
    replace HT := Lib.hid (HT.out.then hb hg)
    replace H := Lib.hid hr
    have H4 := Lib.hid h4
    clear H2 hr hb h4
    have HZ := Lib.hid (HE.out.trans (show _ = some (⟨5, (a : Int), (b : Int), [], ks⟩, l') by rw [F, HP0.out]; show some (_, _) = _; rw [H.out.pos]))
    clear F
    obtain ⟨⟨p0, p1, p2, p3, p4⟩, q0, q1, q2, q3, q4⟩ := HT.out.cells0
    obtain ⟨⟨r0, r1, r2, r3, r4⟩, s0, s1, s2, s3, s4⟩ := HT.out.cells1
    have c1 := H.out.cell1
    go_wp2
    refine bodyPost_ret (v := .tuple #[.agg #[.int .i64 5, .int .i64 a, .int .i64 b, .slice none 0 0, .slice A4 ks.length c4], .bool true]) ?_ rfl ?_
    · simp [results, Try.results9, go_sem, p0, p1, p2, p3, p4, q0, q1, q2, q3, q4]
    · rw [HZ.out]
      refine leaf_kids (ns := []) (A3 := none) (c3 := 0) H.out hg HT.out.but (Kd.R_nil _ _ _ _ _) H4.out hsz _ ?_; repeat (first | with_reducible exact Sets.refl _ _ | with_reducible apply Sets.set0 | with_reducible apply Sets.set1)

set_option maxHeartbeats 8000000 in
set_option maxRecDepth 100000 in
theorem value_str (s : ByteArray) (hs : s.size ≤ 2147483647) (n : Nat) (g a : Nat) (t : L) (w : World) (h : Rd w g s a (34 :: t)) :
    Calls Try.prog 9 #[.pointer (some ⟨g, 0, none⟩)] w (VPost g s w (val s.size (n + 1) (34 :: t))) := by
  have c1 := h.cell1
  have hg := h.lt
  have H := Lib.hid h
  have HP0 := Lib.hid h.pos
  clear h
  have HT := Lib.hid (Two.start (g := g) (s := s) (w := w) (a := a) (l := 34 :: t))
  have HE := Lib.hid (show val s.size (n + 1) (34 :: t) = (str t).map fun r => (⟨4, pos s.size (34 :: t), pos s.size r, [], []⟩, r) from rfl)
  go_enter Try.func9, Try.ntmps9
  go_wp2_with fail
  refine (here_any g s _ _ _ hs ((H.out.alloc _).alloc _)).mono ?_
  rw [show hd (34 :: t) = 34 from rfl]
  rintro e w' ⟨rfl, n0, rfl⟩
  go_wp2_with fail
  replace HT := Lib.hid ((HT.out.drewN n0).kind 4)
  have H2 := Lib.hid (((H.out.alloc _).alloc _).drew n0 |>.setFar (p := ⟨w.heap.size + 1, 0, none⟩) (by show g ≠ w.heap.size + 1; omega) (.int .i64 4) : Rd ((((w.alloc (.cells #[.int .i64 0, .int .i64 0, .int .i64 0, .slice none 0 0, .slice none 0 0] tPl)).alloc (.cells #[.int .i64 0, .int .i64 a, .int .i64 0, .slice none 0 0, .slice none 0 0] tPl)).drewN n0).setCell ⟨w.heap.size + 1, 0, none⟩ (.int .i64 4)) g s a (34 :: t))
  clear H c1
  refine (quoted_any g s a 34 t _ hs H2.out).mono ?_
  cases F : str t with
  | none =>
    rintro e w' ⟨b, l', hr, hb, rfl, hu⟩
    replace HT := Lib.hid (HT.out.then hb hg)
    replace H := Lib.hid hr
    clear H2 hr hb hu
    have HZ := Lib.hid (HE.out.trans (by rw [F] <;> rfl))
    clear F
    obtain ⟨⟨p0, p1, p2, p3, p4⟩, q0, q1, q2, q3, q4⟩ := HT.out.cells0
    obtain ⟨⟨r0, r1, r2, r3, r4⟩, s0, s1, s2, s3, s4⟩ := HT.out.cells1
    have c1 := H.out.cell1
    go_wp2
    refine bodyPost_ret (v := .tuple #[.agg #[.int .i64 4, .int .i64 a, .int .i64 b, .slice none 0 0, .slice none 0 0], .bool false]) ?_ rfl ?_
    · simp [results, Try.results9, go_sem, p0, p1, p2, p3, p4, q0, q1, q2, q3, q4]
    · rw [HZ.out]
      refine leaf_no H.out hg HT.out.but _ ?_; repeat (first | with_reducible exact Sets.refl _ _ | with_reducible apply Sets.set0 | with_reducible apply Sets.set1)
  | some u =>
    rintro e w' ⟨b, l', hr, hb, rfl, hu⟩
    obtain rfl := hu u rfl
    replace HT := Lib.hid (HT.out.then hb hg)
    replace H := Lib.hid hr
    clear H2 hr hb hu
    have HZ := Lib.hid (HE.out.trans (show _ = some (⟨4, (a : Int), (b : Int), [], []⟩, l') by rw [F, HP0.out]; show some (_, _) = _; rw [H.out.pos]))
    clear F
    obtain ⟨⟨p0, p1, p2, p3, p4⟩, q0, q1, q2, q3, q4⟩ := HT.out.cells0
    obtain ⟨⟨r0, r1, r2, r3, r4⟩, s0, s1, s2, s3, s4⟩ := HT.out.cells1
    have c1 := H.out.cell1
    go_wp2
    refine bodyPost_ret (v := .tuple #[.agg #[.int .i64 4, .int .i64 a, .int .i64 b, .slice none 0 0, .slice none 0 0], .bool true]) ?_ rfl ?_
    · simp [results, Try.results9, go_sem, p0, p1, p2, p3, p4, q0, q1, q2, q3, q4]
    · rw [HZ.out]
      refine leaf_yes H.out hg HT.out.but _ ?_; repeat (first | with_reducible exact Sets.refl _ _ | with_reducible apply Sets.set0 | with_reducible apply Sets.set1)

set_option maxHeartbeats 8000000 in
set_option maxRecDepth 100000 in
theorem value_num (s : ByteArray) (hs : s.size ≤ 2147483647) (n : Nat) (g a : Nat) (c : Int) (t : L) (w : World) (hc : c = 45 ∨ dig c = true) (h : Rd w g s a (c :: t)) :
    Calls Try.prog 9 #[.pointer (some ⟨g, 0, none⟩)] w (VPost g s w (val s.size (n + 1) (c :: t))) := by
  have c1 := h.cell1
  have hg := h.lt
  have H := Lib.hid h
  have HP0 := Lib.hid h.pos
  clear h
  have HT := Lib.hid (Two.start (g := g) (s := s) (w := w) (a := a) (l := c :: t))
  have hc' : c = 45 ∨ (48 ≤ c ∧ c ≤ 57) := hc.imp id (fun h => by simpa [dig] using h)
  have e1 : (c == 123) = false := beq_eq_false_iff_ne.mpr (by omega)
  have e2 : (c == 91) = false := beq_eq_false_iff_ne.mpr (by omega)
  have e3 : (c == 34) = false := beq_eq_false_iff_ne.mpr (by omega)
  have HE := Lib.hid (show val s.size (n + 1) (c :: t) = (num (c :: t)).map fun r => (⟨3, pos s.size (c :: t), pos s.size r, [], []⟩, r) by simp only [val]; rw [if_neg (by omega), if_neg (by omega), if_neg (by omega), if_pos hc])
  clear hc
  rcases hc' with rfl | ⟨d1, d2⟩
  · go_enter Try.func9, Try.ntmps9
    go_wp2_with fail
    refine (here_any g s _ _ _ hs ((H.out.alloc _).alloc _)).mono ?_
    rw [show hd ((45 : Int) :: t) = 45 from rfl]
    rintro e w' ⟨rfl, n0, rfl⟩
    go_wp2_with fail
    replace HT := Lib.hid ((HT.out.drewN n0).kind 3)
    have H2 := Lib.hid (((H.out.alloc _).alloc _).drew n0 |>.setFar (p := ⟨w.heap.size + 1, 0, none⟩) (by show g ≠ w.heap.size + 1; omega) (.int .i64 3) : Rd ((((w.alloc (.cells #[.int .i64 0, .int .i64 0, .int .i64 0, .slice none 0 0, .slice none 0 0] tPl)).alloc (.cells #[.int .i64 0, .int .i64 a, .int .i64 0, .slice none 0 0, .slice none 0 0] tPl)).drewN n0).setCell ⟨w.heap.size + 1, 0, none⟩ (.int .i64 3)) g s a ((45 : Int) :: t))
    clear H c1
    refine (number_any g s a (45 :: t) _ hs H2.out).mono ?_
    cases F : num (45 :: t) with
    | none =>
      rintro e w' ⟨b, l', hr, hb, rfl, hu⟩
      replace HT := Lib.hid (HT.out.then hb hg)
      replace H := Lib.hid hr
      clear H2 hr hb hu
      have HZ := Lib.hid (HE.out.trans (by rw [F] <;> rfl))
      clear F
      obtain ⟨⟨p0, p1, p2, p3, p4⟩, q0, q1, q2, q3, q4⟩ := HT.out.cells0
      obtain ⟨⟨r0, r1, r2, r3, r4⟩, s0, s1, s2, s3, s4⟩ := HT.out.cells1
      have c1 := H.out.cell1
      go_wp2
      refine bodyPost_ret (v := .tuple #[.agg #[.int .i64 3, .int .i64 a, .int .i64 b, .slice none 0 0, .slice none 0 0], .bool false]) ?_ rfl ?_
      · simp [results, Try.results9, go_sem, p0, p1, p2, p3, p4, q0, q1, q2, q3, q4]
      · rw [HZ.out]
        refine leaf_no H.out hg HT.out.but _ ?_; repeat (first | with_reducible exact Sets.refl _ _ | with_reducible apply Sets.set0 | with_reducible apply Sets.set1)
    | some u =>
      rintro e w' ⟨b, l', hr, hb, rfl, hu⟩
      obtain rfl := hu u rfl
      replace HT := Lib.hid (HT.out.then hb hg)
      replace H := Lib.hid hr
      clear H2 hr hb hu
      have HZ := Lib.hid (HE.out.trans (show _ = some (⟨3, (a : Int), (b : Int), [], []⟩, l') by rw [F, HP0.out]; show some (_, _) = _; rw [H.out.pos]))
      clear F
      obtain ⟨⟨p0, p1, p2, p3, p4⟩, q0, q1, q2, q3, q4⟩ := HT.out.cells0
      obtain ⟨⟨r0, r1, r2, r3, r4⟩, s0, s1, s2, s3, s4⟩ := HT.out.cells1
      have c1 := H.out.cell1
      go_wp2
      refine bodyPost_ret (v := .tuple #[.agg #[.int .i64 3, .int .i64 a, .int .i64 b, .slice none 0 0, .slice none 0 0], .bool true]) ?_ rfl ?_
      · simp [results, Try.results9, go_sem, p0, p1, p2, p3, p4, q0, q1, q2, q3, q4]
      · rw [HZ.out]
        refine leaf_yes H.out hg HT.out.but _ ?_; repeat (first | with_reducible exact Sets.refl _ _ | with_reducible apply Sets.set0 | with_reducible apply Sets.set1)
  · by_cases e4 : c = 45
    · omega
    have e5 : (c == 45) = false := beq_eq_false_iff_ne.mpr e4
    clear e4
    go_enter Try.func9, Try.ntmps9
    go_wp2_with fail
    refine (here_any g s _ _ _ hs ((H.out.alloc _).alloc _)).mono ?_
    rw [show hd (c :: t) = c from rfl]
    rintro e w' ⟨rfl, n0, rfl⟩
    go_wp2_with fail
    replace HT := Lib.hid ((HT.out.drewN n0).kind 3)
    have H2 := Lib.hid (((H.out.alloc _).alloc _).drew n0 |>.setFar (p := ⟨w.heap.size + 1, 0, none⟩) (by show g ≠ w.heap.size + 1; omega) (.int .i64 3) : Rd ((((w.alloc (.cells #[.int .i64 0, .int .i64 0, .int .i64 0, .slice none 0 0, .slice none 0 0] tPl)).alloc (.cells #[.int .i64 0, .int .i64 a, .int .i64 0, .slice none 0 0, .slice none 0 0] tPl)).drewN n0).setCell ⟨w.heap.size + 1, 0, none⟩ (.int .i64 3)) g s a (c :: t))
    clear H c1
    refine (number_any g s a (c :: t) _ hs H2.out).mono ?_
    cases F : num (c :: t) with
    | none =>
      rintro e w' ⟨b, l', hr, hb, rfl, hu⟩
      replace HT := Lib.hid (HT.out.then hb hg)
      replace H := Lib.hid hr
      clear H2 hr hb hu
      have HZ := Lib.hid (HE.out.trans (by rw [F] <;> rfl))
      clear F
      obtain ⟨⟨p0, p1, p2, p3, p4⟩, q0, q1, q2, q3, q4⟩ := HT.out.cells0
      obtain ⟨⟨r0, r1, r2, r3, r4⟩, s0, s1, s2, s3, s4⟩ := HT.out.cells1
      have c1 := H.out.cell1
      go_wp2
      refine bodyPost_ret (v := .tuple #[.agg #[.int .i64 3, .int .i64 a, .int .i64 b, .slice none 0 0, .slice none 0 0], .bool false]) ?_ rfl ?_
      · simp [results, Try.results9, go_sem, p0, p1, p2, p3, p4, q0, q1, q2, q3, q4]
      · rw [HZ.out]
        refine leaf_no H.out hg HT.out.but _ ?_; repeat (first | with_reducible exact Sets.refl _ _ | with_reducible apply Sets.set0 | with_reducible apply Sets.set1)
    | some u =>
      rintro e w' ⟨b, l', hr, hb, rfl, hu⟩
      obtain rfl := hu u rfl
      replace HT := Lib.hid (HT.out.then hb hg)
      replace H := Lib.hid hr
      clear H2 hr hb hu
      have HZ := Lib.hid (HE.out.trans (show _ = some (⟨3, (a : Int), (b : Int), [], []⟩, l') by rw [F, HP0.out]; show some (_, _) = _; rw [H.out.pos]))
      clear F
      obtain ⟨⟨p0, p1, p2, p3, p4⟩, q0, q1, q2, q3, q4⟩ := HT.out.cells0
      obtain ⟨⟨r0, r1, r2, r3, r4⟩, s0, s1, s2, s3, s4⟩ := HT.out.cells1
      have c1 := H.out.cell1
      go_wp2
      refine bodyPost_ret (v := .tuple #[.agg #[.int .i64 3, .int .i64 a, .int .i64 b, .slice none 0 0, .slice none 0 0], .bool true]) ?_ rfl ?_
      · simp [results, Try.results9, go_sem, p0, p1, p2, p3, p4, q0, q1, q2, q3, q4]
      · rw [HZ.out]
        refine leaf_yes H.out hg HT.out.but _ ?_; repeat (first | with_reducible exact Sets.refl _ _ | with_reducible apply Sets.set0 | with_reducible apply Sets.set1)

set_option maxHeartbeats 8000000 in
set_option maxRecDepth 100000 in
theorem value_word (s : ByteArray) (hs : s.size ≤ 2147483647) (n : Nat) (g a : Nat) (c : Int) (t : L) (w : World) (h1 : c ≠ 123) (h2 : c ≠ 91) (h3 : c ≠ 34) (h4 : c ≠ 45) (h5 : ¬ dig c = true) (h : Rd w g s a (c :: t)) :
    Calls Try.prog 9 #[.pointer (some ⟨g, 0, none⟩)] w (VPost g s w (val s.size (n + 1) (c :: t))) := by
  have c1 := h.cell1
  have hg := h.lt
  have H := Lib.hid h
  have HP0 := Lib.hid h.pos
  clear h
  have HT := Lib.hid (Two.start (g := g) (s := s) (w := w) (a := a) (l := c :: t))
  have HE := Lib.hid (show val s.size (n + 1) (c :: t) = (match word nullW (c :: t) with | some r => some (⟨0, pos s.size (c :: t), pos s.size r, [], []⟩, r) | none => match word falseW (c :: t) with | some r => some (⟨1, pos s.size (c :: t), pos s.size r, [], []⟩, r) | none => match word trueW (c :: t) with | some r => some (⟨2, pos s.size (c :: t), pos s.size r, [], []⟩, r) | none => none) by simp only [val]; rw [if_neg h1, if_neg h2, if_neg h3, if_neg (by simp only [not_or]; exact ⟨h4, h5⟩)] <;> rfl)
  have e1 : (c == 123) = false := beq_eq_false_iff_ne.mpr h1
  have e2 : (c == 91) = false := beq_eq_false_iff_ne.mpr h2
  have e3 : (c == 34) = false := beq_eq_false_iff_ne.mpr h3
  have e4 : (c == 45) = false := beq_eq_false_iff_ne.mpr h4
  replace h5 : c < 48 ∨ 57 < c := by simp [dig] at h5; omega
  clear h1 h2 h3 h4
  rcases h5 with h5 | h5
  all_goals
    go_enter Try.func9, Try.ntmps9
    go_wp2_with fail
    refine (here_any g s _ _ _ hs ((H.out.alloc _).alloc _)).mono ?_
    rw [show hd (c :: t) = c from rfl]
    rintro e w' ⟨rfl, n0, rfl⟩
    go_wp2_with fail
    replace HT := Lib.hid (HT.out.drewN n0)
    have H2 := Lib.hid (((H.out.alloc _).alloc _).drew n0 : Rd (((w.alloc (.cells #[.int .i64 0, .int .i64 0, .int .i64 0, .slice none 0 0, .slice none 0 0] tPl)).alloc (.cells #[.int .i64 0, .int .i64 a, .int .i64 0, .slice none 0 0, .slice none 0 0] tPl)).drewN n0) g s a (c :: t))
    clear H c1
    refine (word_any g s { data := #[110, 117, 108, 108] } a (c :: t) _ hs (by decide) H2.out).mono ?_
    rw [show bytesOf { data := #[110, 117, 108, 108] } = nullW from rfl]
    cases F0 : word nullW (c :: t) with
    | some u =>
      rintro e w' ⟨b, hr, hb, rfl⟩
      replace HT := Lib.hid (HT.out.then hb hg)
      have H := Lib.hid (show Rd _ g s b u from hr)
      clear H2 hr hb
      have HZ := Lib.hid (HE.out.trans (show _ = some (⟨0, (a : Int), (b : Int), [], []⟩, u) by rw [F0, HP0.out]; show some (Pl.mk _ _ _ _ _, _) = _; rw [H.out.pos]))
      clear F0
      obtain ⟨⟨p0, p1, p2, p3, p4⟩, q0, q1, q2, q3, q4⟩ := HT.out.cells0
      obtain ⟨⟨r0, r1, r2, r3, r4⟩, s0, s1, s2, s3, s4⟩ := HT.out.cells1
      have c1 := H.out.cell1
      go_wp2
      refine bodyPost_ret (v := .tuple #[.agg #[.int .i64 0, .int .i64 a, .int .i64 b, .slice none 0 0, .slice none 0 0], .bool true]) ?_ rfl ?_
      · simp [results, Try.results9, go_sem, p0, p1, p2, p3, p4, q0, q1, q2, q3, q4]
      · rw [HZ.out]
        refine leaf_yes H.out hg HT.out.but _ ?_; repeat (first | with_reducible exact Sets.refl _ _ | with_reducible apply Sets.set0 | with_reducible apply Sets.set1)
    | none =>
      rintro e w' ⟨b0, hr, hb, rfl⟩
      replace HT := Lib.hid (HT.out.then hb hg)
      have ha := (show Rd _ g s b0 (c :: t) from hr).len
      have ha' := H2.out.len
      obtain rfl : a = b0 := by omega
      clear H2
      have H2 := Lib.hid (show Rd _ g s a (c :: t) from hr)
      clear hr hb ha ha'
      replace F0 := Lib.hid F0
      go_wp2_with fail
      refine (word_any g s { data := #[102, 97, 108, 115, 101] } a (c :: t) _ hs (by decide) H2.out).mono ?_
      rw [show bytesOf { data := #[102, 97, 108, 115, 101] } = falseW from rfl]
      cases F1 : word falseW (c :: t) with
      | some u =>
        rintro e w' ⟨b, hr, hb, rfl⟩
        replace HT := Lib.hid (HT.out.then hb hg)
        have H := Lib.hid (show Rd _ g s b u from hr)
        clear H2 hr hb
        have HZ := Lib.hid (HE.out.trans (show _ = some (⟨1, (a : Int), (b : Int), [], []⟩, u) by rw [F0.out, F1, HP0.out]; show some (Pl.mk _ _ _ _ _, _) = _; rw [H.out.pos]))
        clear F1
        obtain ⟨⟨p0, p1, p2, p3, p4⟩, q0, q1, q2, q3, q4⟩ := HT.out.cells0
        obtain ⟨⟨r0, r1, r2, r3, r4⟩, s0, s1, s2, s3, s4⟩ := HT.out.cells1
        have c1 := H.out.cell1
        go_wp2
        refine bodyPost_ret (v := .tuple #[.agg #[.int .i64 1, .int .i64 a, .int .i64 b, .slice none 0 0, .slice none 0 0], .bool true]) ?_ rfl ?_
        · simp [results, Try.results9, go_sem, p0, p1, p2, p3, p4, q0, q1, q2, q3, q4]
        · rw [HZ.out]
          refine leaf_yes H.out hg HT.out.but _ ?_; repeat (first | with_reducible exact Sets.refl _ _ | with_reducible apply Sets.set0 | with_reducible apply Sets.set1)
      | none =>
        rintro e w' ⟨b1, hr, hb, rfl⟩
        replace HT := Lib.hid (HT.out.then hb hg)
        have ha := (show Rd _ g s b1 (c :: t) from hr).len
        have ha' := H2.out.len
        obtain rfl : a = b1 := by omega
        clear H2
        have H2 := Lib.hid (show Rd _ g s a (c :: t) from hr)
        clear hr hb ha ha'
        replace F1 := Lib.hid F1
        go_wp2_with fail
        refine (word_any g s { data := #[116, 114, 117, 101] } a (c :: t) _ hs (by decide) H2.out).mono ?_
        rw [show bytesOf { data := #[116, 114, 117, 101] } = trueW from rfl]
        cases F2 : word trueW (c :: t) with
        | some u =>
          rintro e w' ⟨b, hr, hb, rfl⟩
          replace HT := Lib.hid (HT.out.then hb hg)
          have H := Lib.hid (show Rd _ g s b u from hr)
          clear H2 hr hb
          have HZ := Lib.hid (HE.out.trans (show _ = some (⟨2, (a : Int), (b : Int), [], []⟩, u) by rw [F0.out, F1.out, F2, HP0.out]; show some (Pl.mk _ _ _ _ _, _) = _; rw [H.out.pos]))
          clear F2
          obtain ⟨⟨p0, p1, p2, p3, p4⟩, q0, q1, q2, q3, q4⟩ := HT.out.cells0
          obtain ⟨⟨r0, r1, r2, r3, r4⟩, s0, s1, s2, s3, s4⟩ := HT.out.cells1
          have c1 := H.out.cell1
          go_wp2
          refine bodyPost_ret (v := .tuple #[.agg #[.int .i64 2, .int .i64 a, .int .i64 b, .slice none 0 0, .slice none 0 0], .bool true]) ?_ rfl ?_
          · simp [results, Try.results9, go_sem, p0, p1, p2, p3, p4, q0, q1, q2, q3, q4]
          · rw [HZ.out]
            refine leaf_yes H.out hg HT.out.but _ ?_; repeat (first | with_reducible exact Sets.refl _ _ | with_reducible apply Sets.set0 | with_reducible apply Sets.set1)
        | none =>
          rintro e w' ⟨b2, hr, hb, rfl⟩
          replace HT := Lib.hid (HT.out.then hb hg)
          have ha := (show Rd _ g s b2 (c :: t) from hr).len
          have ha' := H2.out.len
          obtain rfl : a = b2 := by omega
          clear H2
          have H2 := Lib.hid (show Rd _ g s a (c :: t) from hr)
          clear hr hb ha ha'
          replace F2 := Lib.hid F2
          have HZ := Lib.hid (HE.out.trans (show _ = none by rw [F0.out, F1.out, F2.out]))
          have H := H2
          clear H2
          obtain ⟨b, hbb⟩ : ∃ b, b = a := ⟨a, rfl⟩
          obtain ⟨⟨p0, p1, p2, p3, p4⟩, q0, q1, q2, q3, q4⟩ := HT.out.cells0
          obtain ⟨⟨r0, r1, r2, r3, r4⟩, s0, s1, s2, s3, s4⟩ := HT.out.cells1
          have c1 := H.out.cell1
          go_wp2
          refine bodyPost_ret (v := .tuple #[.agg #[.int .i64 0, .int .i64 a, .int .i64 a, .slice none 0 0, .slice none 0 0], .bool false]) ?_ rfl ?_
          · simp [results, Try.results9, go_sem, p0, p1, p2, p3, p4, q0, q1, q2, q3, q4]
          · rw [HZ.out]
            refine leaf_no H.out hg HT.out.but _ ?_; repeat (first | with_reducible exact Sets.refl _ _ | with_reducible apply Sets.set0 | with_reducible apply Sets.set1)

set_option maxHeartbeats 8000000 in
set_option maxRecDepth 100000 in
theorem value_nil (s : ByteArray) (hs : s.size ≤ 2147483647) (n : Nat) (g a : Nat) (w : World) (h : Rd w g s a ([])) :
    Calls Try.prog 9 #[.pointer (some ⟨g, 0, none⟩)] w (VPost g s w (val s.size (n + 1) ([]))) := by
  have c1 := h.cell1
  have hg := h.lt
  have H := Lib.hid h
  have HP0 := Lib.hid h.pos
  clear h
  have HT := Lib.hid (Two.start (g := g) (s := s) (w := w) (a := a) (l := []))
  have HE := Lib.hid (show val s.size (n + 1) [] = (match word nullW (([] : L)) with | some r => some (⟨0, pos s.size (([] : L)), pos s.size r, [], []⟩, r) | none => match word falseW (([] : L)) with | some r => some (⟨1, pos s.size (([] : L)), pos s.size r, [], []⟩, r) | none => match word trueW (([] : L)) with | some r => some (⟨2, pos s.size (([] : L)), pos s.size r, [], []⟩, r) | none => none) from rfl)
  go_enter Try.func9, Try.ntmps9
  go_wp2_with fail
  refine (here_any g s _ _ _ hs ((H.out.alloc _).alloc _)).mono ?_
  rw [show hd ([]) = 0 from rfl]
  rintro e w' ⟨rfl, n0, rfl⟩
  go_wp2_with fail
  replace HT := Lib.hid (HT.out.drewN n0)
  have H2 := Lib.hid (((H.out.alloc _).alloc _).drew n0 : Rd (((w.alloc (.cells #[.int .i64 0, .int .i64 0, .int .i64 0, .slice none 0 0, .slice none 0 0] tPl)).alloc (.cells #[.int .i64 0, .int .i64 a, .int .i64 0, .slice none 0 0, .slice none 0 0] tPl)).drewN n0) g s a ([]))
  clear H c1
  refine (word_any g s { data := #[110, 117, 108, 108] } a ([]) _ hs (by decide) H2.out).mono ?_
  rw [show bytesOf { data := #[110, 117, 108, 108] } = nullW from rfl]
  cases F0 : word nullW ([]) with
  | some u =>
    rintro e w' ⟨b, hr, hb, rfl⟩
    replace HT := Lib.hid (HT.out.then hb hg)
    have H := Lib.hid (show Rd _ g s b u from hr)
    clear H2 hr hb
    have HZ := Lib.hid (HE.out.trans (show _ = some (⟨0, (a : Int), (b : Int), [], []⟩, u) by rw [F0, HP0.out]; show some (Pl.mk _ _ _ _ _, _) = _; rw [H.out.pos]))
    clear F0
    obtain ⟨⟨p0, p1, p2, p3, p4⟩, q0, q1, q2, q3, q4⟩ := HT.out.cells0
    obtain ⟨⟨r0, r1, r2, r3, r4⟩, s0, s1, s2, s3, s4⟩ := HT.out.cells1
    have c1 := H.out.cell1
    go_wp2
    refine bodyPost_ret (v := .tuple #[.agg #[.int .i64 0, .int .i64 a, .int .i64 b, .slice none 0 0, .slice none 0 0], .bool true]) ?_ rfl ?_
    · simp [results, Try.results9, go_sem, p0, p1, p2, p3, p4, q0, q1, q2, q3, q4]
    · rw [HZ.out]
      refine leaf_yes H.out hg HT.out.but _ ?_; repeat (first | with_reducible exact Sets.refl _ _ | with_reducible apply Sets.set0 | with_reducible apply Sets.set1)
  | none =>
    rintro e w' ⟨b0, hr, hb, rfl⟩
    replace HT := Lib.hid (HT.out.then hb hg)
    have ha := (show Rd _ g s b0 ([]) from hr).len
    have ha' := H2.out.len
    obtain rfl : a = b0 := by omega
    clear H2
    have H2 := Lib.hid (show Rd _ g s a ([]) from hr)
    clear hr hb ha ha'
    replace F0 := Lib.hid F0
    go_wp2_with fail
    refine (word_any g s { data := #[102, 97, 108, 115, 101] } a ([]) _ hs (by decide) H2.out).mono ?_
    rw [show bytesOf { data := #[102, 97, 108, 115, 101] } = falseW from rfl]
    cases F1 : word falseW ([]) with
    | some u =>
      rintro e w' ⟨b, hr, hb, rfl⟩
      replace HT := Lib.hid (HT.out.then hb hg)
      have H := Lib.hid (show Rd _ g s b u from hr)
      clear H2 hr hb
      have HZ := Lib.hid (HE.out.trans (show _ = some (⟨1, (a : Int), (b : Int), [], []⟩, u) by rw [F0.out, F1, HP0.out]; show some (Pl.mk _ _ _ _ _, _) = _; rw [H.out.pos]))
      clear F1
      obtain ⟨⟨p0, p1, p2, p3, p4⟩, q0, q1, q2, q3, q4⟩ := HT.out.cells0
      obtain ⟨⟨r0, r1, r2, r3, r4⟩, s0, s1, s2, s3, s4⟩ := HT.out.cells1
      have c1 := H.out.cell1
      go_wp2
      refine bodyPost_ret (v := .tuple #[.agg #[.int .i64 1, .int .i64 a, .int .i64 b, .slice none 0 0, .slice none 0 0], .bool true]) ?_ rfl ?_
      · simp [results, Try.results9, go_sem, p0, p1, p2, p3, p4, q0, q1, q2, q3, q4]
      · rw [HZ.out]
        refine leaf_yes H.out hg HT.out.but _ ?_; repeat (first | with_reducible exact Sets.refl _ _ | with_reducible apply Sets.set0 | with_reducible apply Sets.set1)
    | none =>
      rintro e w' ⟨b1, hr, hb, rfl⟩
      replace HT := Lib.hid (HT.out.then hb hg)
      have ha := (show Rd _ g s b1 ([]) from hr).len
      have ha' := H2.out.len
      obtain rfl : a = b1 := by omega
      clear H2
      have H2 := Lib.hid (show Rd _ g s a ([]) from hr)
      clear hr hb ha ha'
      replace F1 := Lib.hid F1
      go_wp2_with fail
      refine (word_any g s { data := #[116, 114, 117, 101] } a ([]) _ hs (by decide) H2.out).mono ?_
      rw [show bytesOf { data := #[116, 114, 117, 101] } = trueW from rfl]
      cases F2 : word trueW ([]) with
      | some u =>
        rintro e w' ⟨b, hr, hb, rfl⟩
        replace HT := Lib.hid (HT.out.then hb hg)
        have H := Lib.hid (show Rd _ g s b u from hr)
        clear H2 hr hb
        have HZ := Lib.hid (HE.out.trans (show _ = some (⟨2, (a : Int), (b : Int), [], []⟩, u) by rw [F0.out, F1.out, F2, HP0.out]; show some (Pl.mk _ _ _ _ _, _) = _; rw [H.out.pos]))
        clear F2
        obtain ⟨⟨p0, p1, p2, p3, p4⟩, q0, q1, q2, q3, q4⟩ := HT.out.cells0
        obtain ⟨⟨r0, r1, r2, r3, r4⟩, s0, s1, s2, s3, s4⟩ := HT.out.cells1
        have c1 := H.out.cell1
        go_wp2
        refine bodyPost_ret (v := .tuple #[.agg #[.int .i64 2, .int .i64 a, .int .i64 b, .slice none 0 0, .slice none 0 0], .bool true]) ?_ rfl ?_
        · simp [results, Try.results9, go_sem, p0, p1, p2, p3, p4, q0, q1, q2, q3, q4]
        · rw [HZ.out]
          refine leaf_yes H.out hg HT.out.but _ ?_; repeat (first | with_reducible exact Sets.refl _ _ | with_reducible apply Sets.set0 | with_reducible apply Sets.set1)
      | none =>
        rintro e w' ⟨b2, hr, hb, rfl⟩
        replace HT := Lib.hid (HT.out.then hb hg)
        have ha := (show Rd _ g s b2 ([]) from hr).len
        have ha' := H2.out.len
        obtain rfl : a = b2 := by omega
        clear H2
        have H2 := Lib.hid (show Rd _ g s a ([]) from hr)
        clear hr hb ha ha'
        replace F2 := Lib.hid F2
        have HZ := Lib.hid (HE.out.trans (show _ = none by rw [F0.out, F1.out, F2.out]))
        have H := H2
        clear H2
        obtain ⟨b, hbb⟩ : ∃ b, b = a := ⟨a, rfl⟩
        obtain ⟨⟨p0, p1, p2, p3, p4⟩, q0, q1, q2, q3, q4⟩ := HT.out.cells0
        obtain ⟨⟨r0, r1, r2, r3, r4⟩, s0, s1, s2, s3, s4⟩ := HT.out.cells1
        have c1 := H.out.cell1
        go_wp2
        refine bodyPost_ret (v := .tuple #[.agg #[.int .i64 0, .int .i64 a, .int .i64 a, .slice none 0 0, .slice none 0 0], .bool false]) ?_ rfl ?_
        · simp [results, Try.results9, go_sem, p0, p1, p2, p3, p4, q0, q1, q2, q3, q4]
        · rw [HZ.out]
          refine leaf_no H.out hg HT.out.but _ ?_; repeat (first | with_reducible exact Sets.refl _ _ | with_reducible apply Sets.set0 | with_reducible apply Sets.set1)
end Go.Proofs.Ytiehnomfckbnhaa.J
