/- A row of bytes that a call writes, wherever it lies (an array variable's cells, too): append. -/
import Derived.Test.YtjpbjbcdobibbaaDoorUnC
import Derived.Deep.AppendSrc
set_option linter.unusedVariables false
set_option linter.unusedSimpArgs false
namespace Go.Proofs.YtjpbjbcdobibbaaDoor.J
open Go.RowKit Go.Proofs.YtjpbjbcdobibbaaDoorW.PrintWords Go.Proofs.YtjpbjbcdobibbaaDoorW.PrintLast Go.Proofs.YtjpbjbcdobibbaaDoorW.PrintMore Go.Proofs.YtjpbjbcdobibbaaDoor.Aid

def OutT (w0 W : World) (v : Value) (xs : L) : Prop := Below w0.heap.size w0 W ∧ ∃ g cap cur, v = .slice (some ⟨g, 0, none⟩) xs.length cap ∧ w0.heap.size ≤ g ∧ Row W g cur ∧ xs.length ≤ cap ∧ cap = cur.length ∧ cap ≤ 9223372036854775807 ∧ cur.take xs.length = nums .u8 xs
theorem OutT.alloc {w0 W : World} {v : Value} {xs : L} (h : OutT w0 W v xs) (o : Obj) : OutT w0 (W.alloc o) v xs := by
  obtain ⟨hB, g, cap, cur, e, hg, hR, hl, hc, hm, ht⟩ := h
  exact ⟨hB.alloc hB.size o, g, cap, cur, e, hg, hR.alloc o, hl, hc, hm, ht⟩
theorem OutT.drewN {w0 W : World} {v : Value} {xs : L} (h : OutT w0 W v xs) (n : Nat) : OutT w0 (W.drewN n) v xs := by
  obtain ⟨hB, g, cap, cur, e, hg, hR, hl, hc, hm, ht⟩ := h
  exact ⟨pw_below_drewN hB n, g, cap, cur, e, hg, hR, hl, hc, hm, ht⟩
theorem OutT.drew {w0 W : World} {v : Value} {xs : L} (h : OutT w0 W v xs) : OutT w0 W.drew v xs := by
  have := h.drewN 1
  rwa [← World.drew_drewN, World.drewN_zero] at this
section
variable {ops : Array Oper} {rest : List Oper} {o : Oper} {a : Act} {Q : Exit → Act → World → Prop}
theorem wp_outT_src {K : Act → World → Prop} {w0 W : World} (s x : Operand) (tx : TypeId) (ho : o.op = .call { callee := .builtin .append, args := #[s, x], argTypes := #[tBs, tx] }) (v vx : Value) (ys xs : L)
    (hs : a.eval s = v) (hx : a.eval x = vx) (H : OutT w0 W v xs) (hsrc : Src Tryd.prog 1 tx vx ys.length (nums .u8 ys) W) (hl : xs.length + ys.length ≤ 4294967296)
    (h : ∀ v1 w1, OutT w0 w1 v1 (xs ++ ys) → K (a.put o.dst v1) w1) : o.wp Tryd.prog a W K Q := by
  obtain ⟨i, hi, hz0, hz1, hz2⟩ := info_parts infoB
  obtain ⟨hB, g, cap, cur, rfl, hg, hR, hlc, hc, hm, ht⟩ := H
  have hln : (nums .u8 ys).length = ys.length := by simp [nums]
  have hsrc' : Src Tryd.prog i.size tx vx ys.length (nums .u8 ys) W := by rw [hz1]; exact hsrc
  rcases Nat.lt_or_ge cap (xs.length + ys.length) with hgrow | hroom
  · have hold : (Builtin.firstCells i.size xs.length (.slice (some ⟨g, 0, none⟩) xs.length cap)).run Tryd.prog W.drew = .ok (nums .u8 xs).toArray W.drew := by
      rw [hz1]
      refine run_firstCells_some W.drew 1 xs.length ⟨g, 0, none⟩ xs.length cap (nums .u8 xs) (by simp [nums]) ?_
      intro j u hj
      have hjl : j < xs.length := by have := (List.getElem?_eq_some_iff.1 hj).1; simpa [nums] using this
      rw [add_plain, show W.drew.cell? ⟨g, j, none⟩ = W.cell? ⟨g, j, none⟩ from rfl, hR.cell, ← hj, ← ht, List.getElem?_take_of_lt hjl]
    have hrun := run_append_grow_src (P := Tryd.prog) W tBs tx o.type tB i (.int .u8 0) Tryd.underlying56 hi hz0 (some ⟨g, 0, none⟩) xs.length cap (nums .u8 xs) hold vx ys.length (nums .u8 ys) hsrc' hgrow (by omega) (growslice_fits hgrow (by rw [hz2]; omega))
    unfold Oper.wp execOp
    simp only [ho, resolve, invoke, builtin, Sem.run_bind, Sem.run_pure, Result.andThen_ok, List.map_toArray, List.map_cons, List.map_nil, hs, hx, hrun]
    refine h _ _ ?_
    have hge := grownCap_ge W (xs.length + ys.length) cap tB
    have hle : grownCap W (xs.length + ys.length) cap tB ≤ 9223372036854775807 := by
      have := grownCap_le_maxLen W (xs.length + ys.length) cap tB (by simp only [maxLen]; omega)
      simpa [maxLen] using this
    refine ⟨(hB.drew).alloc hB.size _, W.heap.size, grownCap W (xs.length + ys.length) cap tB, nums .u8 (xs ++ ys) ++ (Builtin.zeroCells (Value.int .u8 0).cells (grownCap W (xs.length + ys.length) cap tB - (xs.length + ys.length))).toList, ?_, hB.size, ⟨tB, ?_⟩, ?_, ?_, hle, ?_⟩
    · rw [List.length_append]
    · have := heap_alloc_new W.drew (.cells ((nums .u8 xs ++ nums .u8 ys).toArray ++ Builtin.zeroCells (Value.int .u8 0).cells (grownCap W (xs.length + ys.length) cap tB - (xs.length + ys.length))) tB)
      rw [show nums .u8 (xs ++ ys) = nums .u8 xs ++ nums .u8 ys by simp [nums]]
      have e : ((nums .u8 xs ++ nums .u8 ys) ++ (Builtin.zeroCells (Value.int .u8 0).cells (grownCap W (xs.length + ys.length) cap tB - (xs.length + ys.length))).toList).toArray = (nums .u8 xs ++ nums .u8 ys).toArray ++ Builtin.zeroCells (Value.int .u8 0).cells (grownCap W (xs.length + ys.length) cap tB - (xs.length + ys.length)) := by
        apply Array.ext'; simp
      rw [e]
      exact this
    · rw [List.length_append]; exact hge
    · have e1 : (nums .u8 (xs ++ ys)).length = xs.length + ys.length := by simp [nums]
      have e2 : (Builtin.zeroCells (Value.int .u8 0).cells (grownCap W (xs.length + ys.length) cap tB - (xs.length + ys.length))).toList.length = grownCap W (xs.length + ys.length) cap tB - (xs.length + ys.length) := by
        rw [Array.length_toList, size_zeroCells]; show _ * 1 = _; omega
      rw [List.length_append, e1, e2]; omega
    · have h1 : (nums .u8 (xs ++ ys)).length = (xs ++ ys).length := by simp [nums]
      rw [List.take_left' h1]
  · have hrun := run_append_room_src (P := Tryd.prog) W tBs tx o.type tB i Tryd.underlying56 hi g 0 xs.length cap vx ys.length (nums .u8 ys) hsrc' hroom
      (fun j hj => by rw [hz1, Nat.mul_one, Nat.zero_add, hR.cell, List.getElem?_eq_getElem (by rw [hln] at hj; omega)]; rfl) (fun j hj => by rw [hz1, Nat.mul_one, Nat.zero_add]; exact hR.frozen _)
    rw [hz1, Nat.mul_one, Nat.zero_add] at hrun
    unfold Oper.wp execOp
    simp only [ho, resolve, invoke, builtin, Sem.run_bind, Sem.run_pure, Result.andThen_ok, List.map_toArray, List.map_cons, List.map_nil, hs, hx, hrun]
    have hlt := hR.lt
    refine h _ _ ⟨Below.but hB (But.setCells _ _ _ _ (But.refl g W)) hg (by have := hB.size; omega), g, cap, splice cur xs.length (nums .u8 ys), by rw [List.length_append], hg, Row.setCells _ _ _ _ hR (by rw [hln]; omega), by rw [List.length_append]; exact hroom, ?_, hm, take_splice' cur xs ys ht (by omega)⟩
    rw [length_splice _ _ _ (by rw [hln]; omega)]; exact hc
theorem outT_src {w0 W : World} (hgd : o.guard = none) (s x : Operand) (tx : TypeId) (ho : o.op = .call { callee := .builtin .append, args := #[s, x], argTypes := #[tBs, tx] }) (v vx : Value) (ys xs : L)
    (hs : a.eval s = v) (hx : a.eval x = vx) (H : OutT w0 W v xs) (hsrc : Src Tryd.prog 1 tx vx ys.length (nums .u8 ys) W) (hl : xs.length + ys.length ≤ 4294967296)
    (h : ∀ v1 w1, OutT w0 w1 v1 (xs ++ ys) → wpList Tryd.prog ops Q rest (a.put o.dst v1) w1) : wpList Tryd.prog ops Q (o :: rest) a W :=
  wpList_plain hgd fun K hK => wp_outT_src s x tx ho v vx ys xs hs hx H hsrc hl (fun v1 w1 h1 => hK _ _ (h v1 w1 h1))
theorem lit_src (W : World) (ys : L) (c : Nat) : Src Tryd.prog 1 tBs (.slice (some ⟨W.heap.size, 0, none⟩) ys.length c) ys.length (nums .u8 ys) (W.alloc (.cells (nums .u8 ys).toArray tB)) := by
  refine Src.ofSlice _ Tryd.underlying56 _ ys.length c _ (by simp [nums]) ?_ (by simp [nums, Value.oneCell'])
  intro j u hj
  rw [add_plain]
  have h2 := heap_alloc_new W (.cells (nums .u8 ys).toArray tB)
  rw [cell_of_row (W.alloc (.cells (nums .u8 ys).toArray tB)) W.heap.size j (nums .u8 ys).toArray tB (0, 0) h2]
  simpa using hj
/-- append(s, lit..), the literal row just laid. -/
theorem outT_row {w0 W : World} (hgd : o.guard = none) (s x : Operand) (ho : o.op = .call { callee := .builtin .append, args := #[s, x], argTypes := #[tBs, tBs] }) (v : Value) (ys xs : L) (m c : Nat)
    (hs : a.eval s = v) (hx : a.eval x = .slice (some ⟨W.heap.size, 0, none⟩) m c) (hm : ys.length = m) (H : OutT w0 W v xs) (hl : xs.length + ys.length ≤ 4294967296)
    (h : ∀ v1 w1, OutT w0 w1 v1 (xs ++ ys) → wpList Tryd.prog ops Q rest (a.put o.dst v1) w1) : wpList Tryd.prog ops Q (o :: rest) a (W.alloc (.cells (nums .u8 ys).toArray tB)) :=
  outT_src hgd s x tBs ho v _ ys xs hs hx (H.alloc _) (by rw [← hm]; exact lit_src W ys c) hl h
/-- The same at a step of a region that draws. -/
theorem step_outT {K : Act → World → Prop} {EE : Prop} {w0 W : World} (hgd : o.guard = none) (s x : Operand) (ho : o.op = .call { callee := .builtin .append, args := #[s, x], argTypes := #[tBs, tBs] }) (v : Value) (ys xs : L) (m c : Nat)
    (hs : a.eval s = v) (hx : a.eval x = .slice (some ⟨W.heap.size, 0, none⟩) m c) (hm : ys.length = m) (H : OutT w0 W v xs) (hl : xs.length + ys.length ≤ 4294967296)
    (h : ∀ v1 w1, OutT w0 w1 v1 (xs ++ ys) → K (a.put o.dst v1) w1) :
    if Region.wanted o (yielded ops a.tmps) = true then Oper.wp Tryd.prog o a (W.alloc (.cells (nums .u8 ys).toArray tB)) K Q else EE := by
  have hw : Region.wanted o (yielded ops a.tmps) = true := by simp [Region.wanted, hgd]
  rw [if_pos hw]
  exact wp_outT_src s x tBs ho v _ ys xs hs hx (H.alloc _) (by rw [← hm]; exact lit_src W ys c) hl h
/-- append(s, "..."...) -/
theorem outT_str {w0 W : World} (hgd : o.guard = none) (s x : Operand) (ho : o.op = .call { callee := .builtin .append, args := #[s, x], argTypes := #[tBs, 9] }) (v : Value) (y : ByteArray) (xs : L)
    (hs : a.eval s = v) (hx : a.eval x = .string y) (H : OutT w0 W v xs) (hl : xs.length + y.size ≤ 4294967296)
    (h : ∀ v1 w1, OutT w0 w1 v1 (xs ++ bytesOf y) → wpList Tryd.prog ops Q rest (a.put o.dst v1) w1) : wpList Tryd.prog ops Q (o :: rest) a W := by
  refine outT_src hgd s x 9 ho v _ (bytesOf y) xs hs hx H ?_ (by rw [bytesOf_length]; omega) h
  have := Src.ofString (P := Tryd.prog) W (tx := 9) Tryd.underlying9 y
  rw [bytesOf_length]
  have e : byteCells y = nums .u8 (bytesOf y) := by simp [byteCells, nums, bytesOf]
  rwa [e] at this
end
/-- It reads as a slice. -/
theorem OutT.reads {w0 W : World} {v : Value} {xs : L} (h : OutT w0 W v xs) : ∃ g cap, v = .slice (some ⟨g, 0, none⟩) xs.length cap ∧ In W g 0 xs := by
  obtain ⟨hB, g, cap, cur, rfl, hg, hR, hl, hc, hm, ht⟩ := h
  exact ⟨g, cap, rfl, In.of_row hR ht⟩
end Go.Proofs.YtjpbjbcdobibbaaDoor.J
