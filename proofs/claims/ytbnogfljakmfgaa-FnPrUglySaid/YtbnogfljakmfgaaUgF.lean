/- The walk of the laws' prPlaces. -/
import Derived.Test.YtbnogfljakmfgaaUgE
import Derived.Test.YtbnogfljakmfgaaJ8
set_option linter.unusedVariables false
set_option linter.unusedSimpArgs false
namespace Go.Proofs.Ytbnogfljakmfgaa.J
open Go.RowKit Go.Proofs.YtbnogfljakmfgaaW.PrintWords Go.Proofs.YtbnogfljakmfgaaW.PrintLast Go.Proofs.YtbnogfljakmfgaaW.PrintMore Go.Proofs.Ytbnogfljakmfgaa.Aid

def prP (s : ByteArray) : Option Pl := if s.size > 4096 then none else text (bytesOf s)
/-- Nothing but block B has turned. -/
structure Set1 (B : Nat) (W W' : World) : Prop where
  os : W'.os = W.os
  tape : W'.tape = W.tape
  output : W'.output = W.output
  size : W'.heap.size = W.heap.size
  block : ∀ k, k ≠ B → W'.heap[k]? = W.heap[k]?
theorem Set1.refl (B : Nat) (W : World) : Set1 B W W := ⟨rfl, rfl, rfl, rfl, fun _ _ => rfl⟩
theorem Set1.set0 {B : Nat} {W W' : World} (h : Set1 B W W') (j : Nat) (u : Value) : Set1 B W (W'.setCell ⟨B, j, none⟩ u) :=
  ⟨h.os, h.tape, h.output, by simpa using h.size, fun k h0 => (Below.heap_setCell W' ⟨B, j, none⟩ u k h0).trans (h.block k h0)⟩
theorem Set1.R {α : Type} {d : Kd α} {e : Nat} {base : Nat} {ok : Nat → Prop} {v : Value} {xs : List α} {B : Nat} {W W' : World} (h : Set1 B W W') (hr : d.R e W base ok v xs) (hB : B + 1 ≤ base) : d.R e W' B ok v xs :=
  Kd.R_lower (R_from hr fun k hk _ => h.block k (by omega)) (by omega)
structure Pz (w W : World) : Prop where
  b0 : W.heap[w.heap.size]? = some (.cells #[.int .i64 0, .int .i64 0, .int .i64 0, .slice none 0 0, .slice none 0 0] tPl (0, 0))
  bel : Below w.heap.size w W
theorem Pz.start (w : World) : Pz w (w.alloc (.cells #[.int .i64 0, .int .i64 0, .int .i64 0, .slice none 0 0, .slice none 0 0] tPl)) := ⟨blk_new _ _, below_alloc (Below.refl _ _) _⟩
theorem Pz.below {w W W' : World} (h : Pz w W) (k : Below W.heap.size W W') : Pz w W' := ⟨blk_below h.b0 k, below_then h.bel h.bel.size k⟩
theorem Pz.cells0 {w W : World} (h : Pz w W) :
    (W.cell? ⟨w.heap.size, 0, none⟩ = some (.int .i64 0) ∧ W.cell? ⟨w.heap.size, 1, none⟩ = some (.int .i64 0) ∧ W.cell? ⟨w.heap.size, 2, none⟩ = some (.int .i64 0) ∧ W.cell? ⟨w.heap.size, 3, none⟩ = some (.slice none 0 0) ∧ W.cell? ⟨w.heap.size, 4, none⟩ = some (.slice none 0 0)) ∧
    W.frozen? ⟨w.heap.size, 0, none⟩ = false ∧ W.frozen? ⟨w.heap.size, 1, none⟩ = false ∧ W.frozen? ⟨w.heap.size, 2, none⟩ = false ∧ W.frozen? ⟨w.heap.size, 3, none⟩ = false ∧ W.frozen? ⟨w.heap.size, 4, none⟩ = false :=
  ⟨⟨(blk_cell h.b0 0).trans rfl, (blk_cell h.b0 1).trans rfl, (blk_cell h.b0 2).trans rfl, (blk_cell h.b0 3).trans rfl, (blk_cell h.b0 4).trans rfl⟩, blk_frozen h.b0 0, blk_frozen h.b0 1, blk_frozen h.b0 2, blk_frozen h.b0 3, blk_frozen h.b0 4⟩
theorem pz_no {w W : World} (h : Pz w W) (W' : World) (hS : Set1 w.heap.size W W') : PlPost w none (.returned (.tuple #[.agg #[.int .i64 0, .int .i64 0, .int .i64 0, .slice none 0 0, .slice none 0 0], .bool false])) W' :=
  ⟨⟨hS.os.trans h.bel.os, hS.tape.trans h.bel.tape, hS.output.trans h.bel.output, by rw [hS.size]; exact h.bel.size, fun k hk => (hS.block k (by omega)).trans (h.bel.block k hk)⟩, rfl⟩
theorem pz_yes {w W : World} {p : Pl} {A3 A4 : Option Addr} {c3 c4 B : Nat} (h : Pz w W) (h3 : kSp.R tSp W B (fun _ => True) (.slice A3 p.names.length c3) p.names) (h4 : kPl.R tPl W B (fun _ => True) (.slice A4 p.kids.length c4) p.kids) (hB : w.heap.size + 1 ≤ B) (W' : World) (hS : Set1 w.heap.size W W') :
    PlPost w (some p) (.returned (.tuple #[.agg #[.int .i64 p.kind, .int .i64 p.b, .int .i64 p.e, .slice A3 p.names.length c3, .slice A4 p.kids.length c4], .bool true])) W' :=
  ⟨A3, c3, A4, c4, ⟨hS.os.trans h.bel.os, hS.tape.trans h.bel.tape, hS.output.trans h.bel.output, by rw [hS.size]; exact h.bel.size, fun k hk => (hS.block k (by omega)).trans (h.bel.block k hk)⟩, hS.R h3 hB, hS.R h4 hB, rfl⟩

set_option maxHeartbeats 4000000 in
set_option maxRecDepth 100000 in
theorem prPlaces_any (s : ByteArray) (hs : s.size ≤ 2147483647) (w : World) :
    Calls Try.prog 11 #[.string s] w (PlPost w (prP s)) := by
  have HP := Lib.hid (Places_any s hs)
  rcases Nat.lt_or_ge 4096 s.size with h | h
  · have HE := Lib.hid (show prP s = none from if_pos h)
    have hb : decide ((s.size : Int) > 4096) = true := decide_eq_true (by omega)
    go_enter Try.func11, Try.ntmps11
    go_wp2
    obtain ⟨⟨p0, p1, p2, p3, p4⟩, q0, q1, q2, q3, q4⟩ := (Pz.start w).cells0
    refine bodyPost_ret (v := .tuple #[.agg #[.int .i64 0, .int .i64 0, .int .i64 0, .slice none 0 0, .slice none 0 0], .bool false]) ?_ rfl ?_
    · simp [results, Try.results11, go_sem, p0, p1, p2, p3, p4, q0, q1, q2, q3, q4]
    · rw [HE.out]
      refine pz_no (Pz.start w) _ ?_; repeat (first | with_reducible exact Set1.refl _ _ | with_reducible apply Set1.set0)
  · have HE := Lib.hid (show prP s = text (bytesOf s) from if_neg (by omega))
    have hb : decide ((s.size : Int) > 4096) = false := decide_eq_false (by omega)
    have HZ := Lib.hid (Pz.start w)
    go_enter Try.func11, Try.ntmps11
    go_wp2_with fail
    refine (HP.out _).mono ?_
    cases F : text (bytesOf s) with
    | none =>
      rintro e w' ⟨hb, rfl⟩
      rw [F] at HE
      replace HZ := Lib.hid (HZ.out.below hb)
      clear hb F
      obtain ⟨⟨p0, p1, p2, p3, p4⟩, q0, q1, q2, q3, q4⟩ := HZ.out.cells0
      go_wp2
      refine bodyPost_ret (v := .tuple #[.agg #[.int .i64 0, .int .i64 0, .int .i64 0, .slice none 0 0, .slice none 0 0], .bool false]) ?_ rfl ?_
      · simp [results, Try.results11, go_sem, p0, p1, p2, p3, p4, q0, q1, q2, q3, q4]
      · rw [HE.out]
        refine pz_no HZ.out _ ?_; repeat (first | with_reducible exact Set1.refl _ _ | with_reducible apply Set1.set0)
    | some p =>
      rintro e w' ⟨A3, c3, A4, c4, hb, h3, h4, rfl⟩
      rw [F] at HE
      replace HZ := Lib.hid (HZ.out.below hb)
      have H3 := Lib.hid h3
      have H4 := Lib.hid h4
      clear hb F h3 h4
      obtain ⟨⟨p0, p1, p2, p3, p4⟩, q0, q1, q2, q3, q4⟩ := HZ.out.cells0
      go_wp2
      refine bodyPost_ret (v := .tuple #[.agg #[.int .i64 p.kind, .int .i64 p.b, .int .i64 p.e, .slice A3 p.names.length c3, .slice A4 p.kids.length c4], .bool true]) ?_ rfl ?_
      · simp [results, Try.results11, go_sem, p0, p1, p2, p3, p4, q0, q1, q2, q3, q4]
      · rw [HE.out]
        refine pz_yes HZ.out H3.out H4.out (by simp) _ ?_; repeat (first | with_reducible exact Set1.refl _ _ | with_reducible apply Set1.set0)
end Go.Proofs.Ytbnogfljakmfgaa.J
