/- spec.Places: the place of the value that a text holds. -/
import Derived.Test.YtiehnomfckbnhaaJ7
set_option linter.unusedVariables false
set_option linter.unusedSimpArgs false
namespace Go.Proofs.Ytiehnomfckbnhaa.J
open Go.RowKit Go.Proofs.YtiehnomfckbnhaaW.PrintWords Go.Proofs.YtiehnomfckbnhaaW.PrintLast Go.Proofs.YtiehnomfckbnhaaW.PrintMore Go.Proofs.Ytiehnomfckbnhaa.Aid

theorem value_any (s : ByteArray) (hs : s.size ≤ 2147483647) : ∀ n, ValC s n
  | 0 => fun g a l w hl h => absurd hl (Nat.not_lt_zero _)
  | n + 1 => fun g a l w hl h => by
    have hv := value_any s hs n
    cases l with
    | nil => exact value_nil s hs n g a w h
    | cons c t =>
      have hn : t.length < n := by simp only [List.length_cons] at hl; omega
      by_cases h1 : c = 123
      · subst h1; exact value_obj s hs n hv g a t w hn h
      by_cases h2 : c = 91
      · subst h2; exact value_arr s hs n hv g a t w hn h
      by_cases h3 : c = 34
      · subst h3; exact value_str s hs n g a t w h
      by_cases h4 : c = 45 ∨ dig c = true
      · exact value_num s hs n g a c t w h4 h
      · simp only [not_or] at h4
        exact value_word s hs n g a c t w h1 h2 h3 h4.1 h4.2 h

def PlPost (w : World) : Option Pl → Ending → World → Prop
  | some p, e, w' => ∃ A3 c3 A4 c4, Below w.heap.size w w' ∧ kSp.R tSp w' w.heap.size (fun _ => True) (.slice A3 p.names.length c3) p.names ∧ kPl.R tPl w' w.heap.size (fun _ => True) (.slice A4 p.kids.length c4) p.kids ∧
      e = .returned (.tuple #[.agg #[.int .i64 p.kind, .int .i64 p.b, .int .i64 p.e, .slice A3 p.names.length c3, .slice A4 p.kids.length c4], .bool true])
  | none, e, w' => Below w.heap.size w w' ∧ e = .returned (.tuple #[.agg #[.int .i64 0, .int .i64 0, .int .i64 0, .slice none 0 0, .slice none 0 0], .bool false])
theorem Rd.start (w : World) (s : ByteArray) : Rd (w.alloc (.cells #[.string s, .int .i64 0] tRd)) w.heap.size s 0 (bytesOf s) := ⟨blk_new _ _, Nat.zero_le _, rfl⟩

/-- Behind the reader's making: the result's block is as it was made. -/
structure Pw (w W : World) : Prop where
  b0 : W.heap[w.heap.size]? = some (.cells #[.int .i64 0, .int .i64 0, .int .i64 0, .slice none 0 0, .slice none 0 0] tPl (0, 0))
  sz : w.heap.size + 2 ≤ W.heap.size
  bel : Below w.heap.size w W
theorem Pw.start (w : World) (s : ByteArray) : Pw w ((w.alloc (.cells #[.int .i64 0, .int .i64 0, .int .i64 0, .slice none 0 0, .slice none 0 0] tPl)).alloc (.cells #[.string s, .int .i64 0] tRd)) where
  b0 := blk_alloc (blk_new _ _) _
  sz := by simp
  bel := ((Below.refl _ _).alloc (Nat.le_refl _) _).alloc (by simp) _
theorem Pw.then {w W W' : World} (h : Pw w W) (hb : But (w.heap.size + 1) W W') : Pw w W' where
  b0 := (hb.block _ (by have := h.sz; omega) (by omega)).trans h.b0
  sz := Nat.le_trans h.sz hb.size
  bel := h.bel.trans (hb.to_below (by omega) (by have := h.sz; omega))
theorem Pw.alloc {w W : World} (h : Pw w W) (o : Obj) : Pw w (W.alloc o) where
  b0 := blk_alloc h.b0 _
  sz := by have := h.sz; simp; omega
  bel := h.bel.alloc (by have := h.sz; omega) _
theorem Pw.cells0 {w W : World} (h : Pw w W) :
    (W.cell? ⟨w.heap.size, 0, none⟩ = some (.int .i64 0) ∧ W.cell? ⟨w.heap.size, 1, none⟩ = some (.int .i64 0) ∧ W.cell? ⟨w.heap.size, 2, none⟩ = some (.int .i64 0) ∧ W.cell? ⟨w.heap.size, 3, none⟩ = some (.slice none 0 0) ∧ W.cell? ⟨w.heap.size, 4, none⟩ = some (.slice none 0 0)) ∧
    W.frozen? ⟨w.heap.size, 0, none⟩ = false ∧ W.frozen? ⟨w.heap.size, 1, none⟩ = false ∧ W.frozen? ⟨w.heap.size, 2, none⟩ = false ∧ W.frozen? ⟨w.heap.size, 3, none⟩ = false ∧ W.frozen? ⟨w.heap.size, 4, none⟩ = false :=
  ⟨⟨(blk_cell h.b0 0).trans rfl, (blk_cell h.b0 1).trans rfl, (blk_cell h.b0 2).trans rfl, (blk_cell h.b0 3).trans rfl, (blk_cell h.b0 4).trans rfl⟩, blk_frozen h.b0 0, blk_frozen h.b0 1, blk_frozen h.b0 2, blk_frozen h.b0 3, blk_frozen h.b0 4⟩
theorem pl_no {w W : World} (h : Pw w W) (W' : World) (hS : Sets w.heap.size W W') : PlPost w none (.returned (.tuple #[.agg #[.int .i64 0, .int .i64 0, .int .i64 0, .slice none 0 0, .slice none 0 0], .bool false])) W' :=
  ⟨⟨hS.os.trans h.bel.os, hS.tape.trans h.bel.tape, hS.output.trans h.bel.output, by rw [hS.size]; exact h.bel.size, fun k hk => (hS.block k (by omega) (by omega)).trans (h.bel.block k hk)⟩, rfl⟩
theorem pl_yes {w W : World} {p : Pl} {A3 A4 : Option Addr} {c3 c4 B : Nat} (h : Pw w W) (h3 : kSp.R tSp W B (fun _ => True) (.slice A3 p.names.length c3) p.names) (h4 : kPl.R tPl W B (fun _ => True) (.slice A4 p.kids.length c4) p.kids) (hB : w.heap.size + 2 ≤ B) (W' : World) (hS : Sets w.heap.size W W') :
    PlPost w (some p) (.returned (.tuple #[.agg #[.int .i64 p.kind, .int .i64 p.b, .int .i64 p.e, .slice A3 p.names.length c3, .slice A4 p.kids.length c4], .bool true])) W' :=
  ⟨A3, c3, A4, c4, ⟨hS.os.trans h.bel.os, hS.tape.trans h.bel.tape, hS.output.trans h.bel.output, by rw [hS.size]; exact h.bel.size, fun k hk => (hS.block k (by omega) (by omega)).trans (h.bel.block k hk)⟩, hS.R h3 hB, hS.R h4 hB, rfl⟩

set_option maxHeartbeats 4000000 in
set_option maxRecDepth 100000 in
theorem Places_any (s : ByteArray) (hs : s.size ≤ 2147483647) (w : World) :
    Calls Try.prog 5 #[.string s] w (PlPost w (text (bytesOf s))) := by
  have hlen := bytesOf_length s
  have HE := Lib.hid (show text (bytesOf s) = (val s.size (s.size + 1) (skip (bytesOf s))).bind fun x => if skip x.2 = [] then some x.1 else none by unfold text; rw [hlen])
  go_enter Try.func5, Try.ntmps5
  go_wp2_with fail
  have H := Rd.start (w.alloc (.cells #[.int .i64 0, .int .i64 0, .int .i64 0, .slice none 0 0, .slice none 0 0] tPl)) s
  rw [show (w.alloc (.cells #[.int .i64 0, .int .i64 0, .int .i64 0, .slice none 0 0, .slice none 0 0] tPl)).heap.size = w.heap.size + 1 by simp] at H
  replace H := Lib.hid H
  have HT := Lib.hid (Pw.start w s)
  have hsk := skip_le (bytesOf s)
  refine (blanks_any (w.heap.size + 1) s _ _ _ hs H.out).mono ?_
  rintro e w' ⟨b, hr, hb, rfl⟩
  replace HT := Lib.hid (HT.out.then hb)
  replace H := Lib.hid hr
  clear hr hb
  go_wp2_with fail
  refine (value_any s hs (s.size + 1) (w.heap.size + 1) b _ _ (by omega) H.out).mono ?_
  cases F : val s.size (s.size + 1) (skip (bytesOf s)) with
  | none =>
    rintro e w' ⟨b1, t, k, b0, e0, hr, hb, rfl⟩
    replace HT := Lib.hid (HT.out.then hb)
    have HZ := Lib.hid (HE.out.trans (by rw [F] <;> rfl))
    clear hr hb F H
    replace HT := Lib.hid (HT.out.alloc (.cells #[.int .i64 k, .int .i64 b0, .int .i64 e0, .slice none 0 0, .slice none 0 0] tPl))
    obtain ⟨⟨p0, p1, p2, p3, p4⟩, q0, q1, q2, q3, q4⟩ := HT.out.cells0
    go_wp2
    refine bodyPost_ret (v := .tuple #[.agg #[.int .i64 0, .int .i64 0, .int .i64 0, .slice none 0 0, .slice none 0 0], .bool false]) ?_ rfl ?_
    · simp [results, Try.results5, go_sem, p0, p1, p2, p3, p4, q0, q1, q2, q3, q4]
    · rw [HZ.out]
      refine pl_no HT.out _ ?_; repeat (first | with_reducible exact Sets.refl _ _ | with_reducible apply Sets.set0 | with_reducible apply Sets.set1)
  | some x =>
    obtain ⟨p, t⟩ := x
    rintro e w' ⟨b1, A3, c3, A4, c4, hr, hb, h3, h4, rfl⟩
    have hB := HT.out.sz
    replace HT := Lib.hid (HT.out.then hb)
    replace H := Lib.hid hr
    replace F := Lib.hid F
    have H3 := Lib.hid h3
    have H4 := Lib.hid h4
    clear hr hb h3 h4
    go_wp2_with fail
    have hB2 := HT.out.sz
    have HP := Lib.hid (blk_new w' (.cells #[.int .i64 p.kind, .int .i64 p.b, .int .i64 p.e, .slice A3 p.names.length c3, .slice A4 p.kids.length c4] tPl))
    replace HT := Lib.hid (HT.out.alloc (.cells #[.int .i64 p.kind, .int .i64 p.b, .int .i64 p.e, .slice A3 p.names.length c3, .slice A4 p.kids.length c4] tPl))
    replace H := Lib.hid (H.out.alloc (.cells #[.int .i64 p.kind, .int .i64 p.b, .int .i64 p.e, .slice A3 p.names.length c3, .slice A4 p.kids.length c4] tPl))
    replace H3 := Lib.hid (Kd.R_below H3.out (below_alloc (Below.refl _ _) (.cells #[.int .i64 p.kind, .int .i64 p.b, .int .i64 p.e, .slice A3 p.names.length c3, .slice A4 p.kids.length c4] tPl)))
    replace H4 := Lib.hid (Kd.R_below H4.out (below_alloc (Below.refl _ _) (.cells #[.int .i64 p.kind, .int .i64 p.b, .int .i64 p.e, .slice A3 p.names.length c3, .slice A4 p.kids.length c4] tPl)))
    refine (blanks_any (w.heap.size + 1) s _ _ _ hs H.out).mono ?_
    rintro e w2 ⟨b2, hr, hb, rfl⟩
    replace HT := Lib.hid (HT.out.then hb)
    replace HP := Lib.hid ((hb.block _ (by simp) (by omega)).trans HP.out)
    replace H := Lib.hid hr
    replace H3 := Lib.hid (R_but H3.out hb (by omega))
    replace H4 := Lib.hid (R_but H4.out hb (by omega))
    clear hr hb
    obtain ⟨⟨p0, p1, p2, p3, p4⟩, q0, q1, q2, q3, q4⟩ := HT.out.cells0
    have r0 := (blk_cell HP.out 0).trans rfl
    have r1 := (blk_cell HP.out 1).trans rfl
    have r2 := (blk_cell HP.out 2).trans rfl
    have r3 := (blk_cell HP.out 3).trans rfl
    have r4 := (blk_cell HP.out 4).trans rfl
    have c1 := H.out.cell1
    have hl := H.out.len
    by_cases he : skip t = []
    · have HZ := Lib.hid (HE.out.trans (show _ = some p by rw [F.out]; show (if _ then _ else _) = _; rw [if_pos he]))
      rw [he, List.length_nil] at hl
      obtain rfl : b2 = s.size := by omega
      clear he hl
      go_wp2
      refine bodyPost_ret (v := .tuple #[.agg #[.int .i64 p.kind, .int .i64 p.b, .int .i64 p.e, .slice A3 p.names.length c3, .slice A4 p.kids.length c4], .bool true]) ?_ rfl ?_
      · simp [results, Try.results5, go_sem, p0, p1, p2, p3, p4, q0, q1, q2, q3, q4]
      · rw [HZ.out]
        refine pl_yes HT.out H3.out H4.out hB _ ?_; repeat (first | with_reducible exact Sets.refl _ _ | with_reducible apply Sets.set0 | with_reducible apply Sets.set1)
    · have HZ := Lib.hid (HE.out.trans (show _ = none by rw [F.out]; show (if _ then _ else _) = _; rw [if_neg he]))
      have hne : b2 ≠ s.size := by
        intro e
        exact he (List.eq_nil_of_length_eq_zero (by omega))
      have b1' : ((b2 : Int) != s.size) = true := bne_iff_ne.mpr (by omega)
      clear he hl hne
      go_wp2
      refine bodyPost_ret (v := .tuple #[.agg #[.int .i64 0, .int .i64 0, .int .i64 0, .slice none 0 0, .slice none 0 0], .bool false]) ?_ rfl ?_
      · simp [results, Try.results5, go_sem, p0, p1, p2, p3, p4, q0, q1, q2, q3, q4]
      · rw [HZ.out]
        refine pl_no HT.out _ ?_; repeat (first | with_reducible exact Sets.refl _ _ | with_reducible apply Sets.set0 | with_reducible apply Sets.set1)
end Go.Proofs.Ytiehnomfckbnhaa.J
