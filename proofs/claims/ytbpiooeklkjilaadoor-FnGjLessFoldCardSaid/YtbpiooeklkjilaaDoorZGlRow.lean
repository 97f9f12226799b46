/- Rows of bytes that a call reads and writes; a row that a conversion of a string made, too. -/
import Derived.Test.YtbpiooeklkjilaaDoorZFuPure
import Derived.Test.YtbpiooeklkjilaaDoorZShelf
import Derived.Laws.IdiomCopy
import Derived.Laws.CopyOwn
import Derived.Deep.AppendSrc
import Derived.BigQuiet
set_option linter.unusedVariables false
set_option linter.unusedSimpArgs false
namespace Go.Proofs.YtbpiooeklkjilaaDoor.J
open Go.RowKit Go.Proofs.YtbpiooeklkjilaaDoorW.PrintWords Go.Proofs.YtbpiooeklkjilaaDoorW.PrintLast Go.Proofs.YtbpiooeklkjilaaDoorW.PrintMore Go.Proofs.YtbpiooeklkjilaaDoor.Aid
abbrev tBs : Nat := 35
abbrev tB : Nat := 5

/-- But block g nothing that was there has turned. -/
structure But (g : Nat) (w w' : World) : Prop where
  os : w'.os = w.os
  tape : w'.tape = w.tape
  output : w'.output = w.output
  size : w.heap.size ≤ w'.heap.size
  block : ∀ i, i < w.heap.size → i ≠ g → w'.heap[i]? = w.heap[i]?
theorem But.refl (g : Nat) (w : World) : But g w w := ⟨rfl, rfl, rfl, Nat.le_refl _, fun _ _ _ => rfl⟩
theorem But.trans {g : Nat} {a b c : World} (h : But g a b) (k : But g b c) : But g a c :=
  ⟨k.os.trans h.os, k.tape.trans h.tape, k.output.trans h.output, Nat.le_trans h.size k.size, fun i hi hg => (k.block i (Nat.lt_of_lt_of_le hi h.size) hg).trans (h.block i hi hg)⟩
theorem But.below {g B : Nat} {a b c : World} (h : But g a b) (hB : a.heap.size ≤ B) (k : Below B b c) : But g a c :=
  ⟨k.os.trans h.os, k.tape.trans h.tape, k.output.trans h.output, Nat.le_trans h.size k.size, fun i hi hg => (k.block i (by omega)).trans (h.block i hi hg)⟩
theorem But.of_below {g : Nat} {a b : World} (k : Below a.heap.size a b) : But g a b := (But.refl g a).below (Nat.le_refl _) k
/-- What is new is g, too. -/
theorem But.to_below {g B : Nat} {a b : World} (h : But g a b) (hB : B ≤ g) (hB' : B ≤ a.heap.size) : Below B a b :=
  ⟨h.os, h.tape, h.output, h.size, fun i hi => h.block i (by omega) (by omega)⟩
theorem But.set {g : Nat} {a b : World} (h : But g a b) (j : Nat) (u : Value) : But g a (b.setCell ⟨g, j, none⟩ u) :=
  ⟨h.os, h.tape, h.output, by simpa using h.size, fun i hi hg => (Below.heap_setCell b ⟨g, j, none⟩ u i hg).trans (h.block i hi hg)⟩
theorem But.alloc {g : Nat} {a b : World} (h : But g a b) (o : Obj) : But g a (b.alloc o) := h.below (Nat.le_refl _) ((Below.refl _ _).alloc h.size o)
theorem But.drewN {g : Nat} {a b : World} (h : But g a b) (n : Nat) : But g a (b.drewN n) := ⟨h.os, h.tape, h.output, h.size, h.block⟩
/-- From ⟨b, o⟩ on the cells hold l. -/
def In (w : World) (b o : Nat) (l : L) : Prop := ∀ j, j < l.length → w.cell? ⟨b, o + j, none⟩ = some (.int .u8 (l.getD j 0))
theorem In.drop {w : World} {b o : Nat} {l : L} (h : In w b o l) (k : Nat) : In w b (o + k) (l.drop k) := by
  intro j hj
  rw [List.length_drop] at hj
  rw [getD_drop', Nat.add_assoc]
  exact h (k + j) (by omega)
theorem In.reads {w : World} {b o : Nat} {l : L} (h : In w b o l) (hl : l.length ≤ 9223372036854775807) : ReadsInt w .u8 (some ⟨b, o, none⟩) l.length l :=
  ⟨rfl, hl, fun _ => ⟨_, rfl, fun j hj => by
    have : (⟨b, o, none⟩ : Addr).add j = ⟨b, o + j, none⟩ := by unfold Addr.add; split <;> simp_all
    rw [this]; exact h j hj⟩⟩
theorem In.block {w w' : World} {b o : Nat} {l : L} (h : In w b o l) (e : w'.heap[b]? = w.heap[b]?) : In w' b o l := by
  intro j hj
  rw [← h j hj]
  unfold World.cell?
  simp only [e]
def Row (w : World) (g : Nat) (cur : List Value) : Prop := ∃ t lo hi, w.heap[g]? = some (.cells cur.toArray t (lo, hi)) ∧ (hi ≤ lo ∨ cur.length ≤ lo)
theorem Row.cell {w : World} {g : Nat} {cur : List Value} (h : Row w g cur) (i : Nat) : w.cell? ⟨g, i, none⟩ = cur[i]? := by
  obtain ⟨t, lo, hi, h, _⟩ := h
  simp [World.cell?, h]
theorem Row.frozen {w : World} {g : Nat} {cur : List Value} (h : Row w g cur) (i : Nat) (hi : i < cur.length) : w.frozen? ⟨g, i, none⟩ = false := by
  obtain ⟨t, lo, hi, h, hf⟩ := h
  simp only [World.frozen?, h, Bool.and_eq_false_iff, decide_eq_false_iff_not]
  omega
theorem Row.set {w : World} {g : Nat} {cur : List Value} (h : Row w g cur) (i : Nat) (u : Value) : Row (w.setCell ⟨g, i, none⟩ u) g (cur.set i u) := by
  obtain ⟨t, lo, hi, h, hf⟩ := h
  refine ⟨t, lo, hi, ?_, by rw [List.length_set]; exact hf⟩
  have hg : g < w.heap.size := (Array.getElem?_eq_some_iff.1 h).1
  simp only [World.setCell, Array.getElem?_modify]
  simp [h]
theorem splice_nil {α : Type} (L : List α) (off : Nat) : splice L off [] = L := by simp [splice]
theorem splice_cons {α : Type} (L : List α) (off : Nat) (x : α) (xs : List α) (h : off < L.length) : splice L off (x :: xs) = splice (L.set off x) (off + 1) xs := by
  have e1 : (L.set off x).take (off + 1) = L.take off ++ [x] := by
    rw [List.take_succ_eq_append_getElem (by simpa using h)]
    simp [List.take_set_of_le]
  have e2 : (L.set off x).drop (off + 1 + xs.length) = L.drop (off + (xs.length + 1)) := by
    rw [List.drop_set_of_lt (by omega)]
    congr 1; omega
  unfold splice
  rw [e1, e2]
  simp
theorem Row.setCells {g : Nat} : ∀ (vs : List Value) (off : Nat) (w : World) (cur : List Value), Row w g cur → off + vs.length ≤ cur.length → Row (w.setCells g off vs) g (splice cur off vs)
  | [], off, w, cur, h, _ => by rw [splice_nil]; exact h
  | v :: vs, off, w, cur, h, hl => by
    simp only [List.length_cons] at hl
    rw [splice_cons _ _ _ _ (by omega)]
    exact Row.setCells vs (off + 1) _ _ (h.set off v) (by rw [List.length_set]; omega)
theorem But.setCells {g : Nat} : ∀ (vs : List Value) (off : Nat) (w w' : World), But g w w' → But g w (w'.setCells g off vs)
  | [], off, w, w', h => h
  | v :: vs, off, w, w', h => But.setCells vs (off + 1) w _ (h.set off v)
/-- What stands behind a place is not asked. -/
theorem take_splice {α : Type} (L : List α) (off : Nat) (xs : List α) (h : off + xs.length ≤ L.length) : (splice L off xs).take (off + xs.length) = L.take off ++ xs := by
  unfold splice
  rw [← List.append_assoc, List.take_left' (by simp; omega)]

theorem infoB : (Tryd.prog.info? tB).map (fun i => (i.zero, i.size, i.bytes)) = some (some (.int .u8 0), 1, 1) := by kernel_rfl
theorem In.of_row {w : World} {g : Nat} {cur : List Value} {E : L} (h : Row w g cur) (he : cur.take E.length = nums .u8 E) : In w g 0 E := by
  intro j hj
  rw [Nat.zero_add, h.cell j]
  have : (cur.take E.length)[j]? = (nums .u8 E)[j]? := by rw [he]
  rw [List.getElem?_take_of_lt hj] at this
  rw [this]
  simp [nums, List.getD_eq_getElem?_getD, List.getElem?_eq_getElem hj]

theorem take_splice' (cur : List Value) (E o : L) (hE : cur.take E.length = nums .u8 E) (hl : E.length + o.length ≤ cur.length) : (splice cur E.length (nums .u8 o)).take (E ++ o).length = nums .u8 (E ++ o) := by
  have h1 : (nums .u8 o).length = o.length := by simp [nums]
  have := take_splice cur E.length (nums .u8 o) (by rw [h1]; exact hl)
  rw [h1] at this
  rw [List.length_append, this, hE]
  simp [nums]
theorem Below.but {B g : Nat} {w0 w w' : World} (h : Below B w0 w) (k : But g w w') (hg : B ≤ g) (hs : B ≤ w.heap.size) : Below B w0 w' := h.trans (k.to_below hg hs)
theorem Row.block {g : Nat} {w w' : World} {cur : List Value} (h : Row w g cur) (e : w'.heap[g]? = w.heap[g]?) : Row w' g cur := by
  obtain ⟨t, lo, hi, h, hf⟩ := h
  exact ⟨t, lo, hi, e.trans h, hf⟩
theorem Row.lt {g : Nat} {w : World} {cur : List Value} (h : Row w g cur) : g < w.heap.size := by
  obtain ⟨t, lo, hi, h, hf⟩ := h
  exact (Array.getElem?_eq_some_iff.1 h).1
theorem Row.below {g : Nat} {w w' : World} {cur : List Value} (h : Row w g cur) (k : Below w.heap.size w w') : Row w' g cur := h.block (k.block g h.lt)
theorem Row.alloc {g : Nat} {w : World} {cur : List Value} (h : Row w g cur) (o : Obj) : Row (w.alloc o) g cur := h.below (below_alloc (Below.refl _ _) o)
theorem bytes_in (W : World) (s : ByteArray) : In (Lib.bytesWorld W tB s) W.heap.size 0 (bytesOf s) := by
  intro j hj
  rw [bytesOf_length] at hj
  rw [Nat.zero_add]
  exact bytes_cells W tB s j hj
def OutF (w0 W : World) (v : Value) (xs : L) : Prop := Below w0.heap.size w0 W ∧ ∃ g cap cur, v = .slice (some ⟨g, 0, none⟩) xs.length cap ∧ w0.heap.size ≤ g ∧ Row W g cur ∧ xs.length ≤ cap ∧ cap = cur.length ∧ cap ≤ 9223372036854775807 ∧ cur.take xs.length = nums .u8 xs
theorem OutF.alloc {w0 W : World} {v : Value} {xs : L} (h : OutF w0 W v xs) (o : Obj) : OutF w0 (W.alloc o) v xs := by
  obtain ⟨hB, g, cap, cur, e, hg, hR, hl, hc, hm, ht⟩ := h
  exact ⟨hB.alloc hB.size o, g, cap, cur, e, hg, hR.alloc o, hl, hc, hm, ht⟩
theorem OutF.drewN {w0 W : World} {v : Value} {xs : L} (h : OutF w0 W v xs) (n : Nat) : OutF w0 (W.drewN n) v xs := by
  obtain ⟨hB, g, cap, cur, e, hg, hR, hl, hc, hm, ht⟩ := h
  exact ⟨pw_below_drewN hB n, g, cap, cur, e, hg, hR.block rfl, hl, hc, hm, ht⟩
theorem OutF.drew {w0 W : World} {v : Value} {xs : L} (h : OutF w0 W v xs) : OutF w0 W.drew v xs := by
  have := h.drewN 1
  rwa [← World.drew_drewN, World.drewN_zero] at this
section
variable {ops : Array Oper} {rest : List Oper} {o : Oper} {a : Act} {Q : Exit → Act → World → Prop}
theorem wp_outF_src {K : Act → World → Prop} {w0 W : World} (s x : Operand) (tx : TypeId) (ho : o.op = .call { callee := .builtin .append, args := #[s, x], argTypes := #[tBs, tx] }) (v vx : Value) (ys xs : L)
    (hs : a.eval s = v) (hx : a.eval x = vx) (H : OutF w0 W v xs) (hsrc : Src Tryd.prog 1 tx vx ys.length (nums .u8 ys) W) (hl : xs.length + ys.length ≤ 4294967296)
    (h : ∀ v1 w1, OutF w0 w1 v1 (xs ++ ys) → K (a.put o.dst v1) w1) : o.wp Tryd.prog a W K Q := by
  obtain ⟨i, hi, hz0, hz1, hz2⟩ := info_parts infoB
  obtain ⟨hB, g, cap, cur, rfl, hg, hR, hlc, hc, hm, ht⟩ := H
  have hln : (nums .u8 ys).length = ys.length := by simp [nums]
  have hsrc' : Src Tryd.prog i.size tx vx ys.length (nums .u8 ys) W := by rw [hz1]; exact hsrc
  rcases Nat.lt_or_ge cap (xs.length + ys.length) with hgrow | hroom
  · have hold : (Builtin.firstCells i.size xs.length (.slice (some ⟨g, 0, none⟩) xs.length cap)).run Tryd.prog W.drew = .ok (nums .u8 xs).toArray W.drew := by
      rw [hz1]
      refine run_firstCells_some W.drew 1 xs.length ⟨g, 0, none⟩ xs.length cap (nums .u8 xs) (by simp [nums]) ?_
      intro j u hj
      have hjl : j < xs.length := by have := (List.getElem?_eq_some_iff.1 hj).1; simpa [nums] using this
      rw [add_plain, show W.drew.cell? ⟨g, j, none⟩ = W.cell? ⟨g, j, none⟩ from rfl, hR.cell, ← hj, ← ht, List.getElem?_take_of_lt hjl]
    have hrun := run_append_grow_src (P := Tryd.prog) W tBs tx o.type tB i (.int .u8 0) Tryd.underlying35 hi hz0 (some ⟨g, 0, none⟩) xs.length cap (nums .u8 xs) hold vx ys.length (nums .u8 ys) hsrc' hgrow (by omega) (growslice_fits hgrow (by rw [hz2]; omega))
    unfold Oper.wp execOp
    simp only [ho, resolve, invoke, builtin, Sem.run_bind, Sem.run_pure, Result.andThen_ok, List.map_toArray, List.map_cons, List.map_nil, hs, hx, hrun]
    refine h _ _ ?_
    have hge := grownCap_ge W (xs.length + ys.length) cap tB
    have hle : grownCap W (xs.length + ys.length) cap tB ≤ 9223372036854775807 := by
      have := grownCap_le_maxLen W (xs.length + ys.length) cap tB (by simp only [maxLen]; omega)
      simpa [maxLen] using this
    refine ⟨(hB.drew).alloc hB.size _, W.heap.size, grownCap W (xs.length + ys.length) cap tB, nums .u8 (xs ++ ys) ++ (Builtin.zeroCells (Value.int .u8 0).cells (grownCap W (xs.length + ys.length) cap tB - (xs.length + ys.length))).toList, ?_, hB.size, ⟨tB, 0, 0, ?_, .inl (Nat.le_refl _)⟩, ?_, ?_, hle, ?_⟩
    · rw [List.length_append]
    · have := heap_alloc_new W.drew (.cells ((nums .u8 xs ++ nums .u8 ys).toArray ++ Builtin.zeroCells (Value.int .u8 0).cells (grownCap W (xs.length + ys.length) cap tB - (xs.length + ys.length))) tB)
      rw [show nums .u8 (xs ++ ys) = nums .u8 xs ++ nums .u8 ys by simp [nums]]
      have e : ((nums .u8 xs ++ nums .u8 ys) ++ (Builtin.zeroCells (Value.int .u8 0).cells (grownCap W (xs.length + ys.length) cap tB - (xs.length + ys.length))).toList).toArray = (nums .u8 xs ++ nums .u8 ys).toArray ++ Builtin.zeroCells (Value.int .u8 0).cells (grownCap W (xs.length + ys.length) cap tB - (xs.length + ys.length)) := by
        apply Array.ext'; simp
      rw [e]
      exact this
    · rw [List.length_append]; exact hge
    · have e1 : (nums .u8 (xs ++ ys)).length = xs.length + ys.length := by simp [nums]
      have e2 : (Builtin.zeroCells (Value.int .u8 0).cells (grownCap W (xs.length + ys.length) cap tB - (xs.length + ys.length))).toList.length = grownCap W (xs.length + ys.length) cap tB - (xs.length + ys.length) := by
        rw [Array.length_toList, size_zeroCells]; show _ * 1 = _; omega
      rw [List.length_append, e1, e2]; omega
    · have h1 : (nums .u8 (xs ++ ys)).length = (xs ++ ys).length := by simp [nums]
      rw [List.take_left' h1]
  · have hrun := run_append_room_src (P := Tryd.prog) W tBs tx o.type tB i Tryd.underlying35 hi g 0 xs.length cap vx ys.length (nums .u8 ys) hsrc' hroom
      (fun j hj => by rw [hz1, Nat.mul_one, Nat.zero_add, hR.cell, List.getElem?_eq_getElem (by rw [hln] at hj; omega)]; rfl) (fun j hj => by rw [hz1, Nat.mul_one, Nat.zero_add]; exact hR.frozen _ (by rw [hln] at hj; omega))
    rw [hz1, Nat.mul_one, Nat.zero_add] at hrun
    unfold Oper.wp execOp
    simp only [ho, resolve, invoke, builtin, Sem.run_bind, Sem.run_pure, Result.andThen_ok, List.map_toArray, List.map_cons, List.map_nil, hs, hx, hrun]
    have hlt := hR.lt
    refine h _ _ ⟨Below.but hB (But.setCells _ _ _ _ (But.refl g W)) hg (by have := hB.size; omega), g, cap, splice cur xs.length (nums .u8 ys), by rw [List.length_append], hg, Row.setCells _ _ _ _ hR (by rw [hln]; omega), by rw [List.length_append]; exact hroom, ?_, hm, take_splice' cur xs ys ht (by omega)⟩
    rw [length_splice _ _ _ (by rw [hln]; omega)]; exact hc
theorem outF_src {w0 W : World} (hgd : o.guard = none) (s x : Operand) (tx : TypeId) (ho : o.op = .call { callee := .builtin .append, args := #[s, x], argTypes := #[tBs, tx] }) (v vx : Value) (ys xs : L)
    (hs : a.eval s = v) (hx : a.eval x = vx) (H : OutF w0 W v xs) (hsrc : Src Tryd.prog 1 tx vx ys.length (nums .u8 ys) W) (hl : xs.length + ys.length ≤ 4294967296)
    (h : ∀ v1 w1, OutF w0 w1 v1 (xs ++ ys) → wpList Tryd.prog ops Q rest (a.put o.dst v1) w1) : wpList Tryd.prog ops Q (o :: rest) a W :=
  wpList_plain hgd fun K hK => wp_outF_src s x tx ho v vx ys xs hs hx H hsrc hl (fun v1 w1 h1 => hK _ _ (h v1 w1 h1))
theorem lit_src (W : World) (ys : L) (c : Nat) : Src Tryd.prog 1 tBs (.slice (some ⟨W.heap.size, 0, none⟩) ys.length c) ys.length (nums .u8 ys) (W.alloc (.cells (nums .u8 ys).toArray tB)) := by
  refine Src.ofSlice _ Tryd.underlying35 _ ys.length c _ (by simp [nums]) ?_ (by simp [nums, Value.oneCell'])
  intro j u hj
  rw [add_plain]
  have h2 := heap_alloc_new W (.cells (nums .u8 ys).toArray tB)
  rw [cell_of_row (W.alloc (.cells (nums .u8 ys).toArray tB)) W.heap.size j (nums .u8 ys).toArray tB (0, 0) h2]
  simpa using hj
/-- append(s, lit..), the literal row just laid. -/
theorem outF_row {w0 W : World} (hgd : o.guard = none) (s x : Operand) (ho : o.op = .call { callee := .builtin .append, args := #[s, x], argTypes := #[tBs, tBs] }) (v : Value) (ys xs : L) (m c : Nat)
    (hs : a.eval s = v) (hx : a.eval x = .slice (some ⟨W.heap.size, 0, none⟩) m c) (hm : ys.length = m) (H : OutF w0 W v xs) (hl : xs.length + ys.length ≤ 4294967296)
    (h : ∀ v1 w1, OutF w0 w1 v1 (xs ++ ys) → wpList Tryd.prog ops Q rest (a.put o.dst v1) w1) : wpList Tryd.prog ops Q (o :: rest) a (W.alloc (.cells (nums .u8 ys).toArray tB)) :=
  outF_src hgd s x tBs ho v _ ys xs hs hx (H.alloc _) (by rw [← hm]; exact lit_src W ys c) hl h
end
/-- It reads as a slice. -/
theorem OutF.reads {w0 W : World} {v : Value} {xs : L} (h : OutF w0 W v xs) : ∃ g cap, v = .slice (some ⟨g, 0, none⟩) xs.length cap ∧ In W g 0 xs := by
  obtain ⟨hB, g, cap, cur, rfl, hg, hR, hl, hc, hm, ht⟩ := h
  exact ⟨g, cap, rfl, In.of_row hR ht⟩
theorem OutF.below {w0 W W' : World} {v : Value} {xs : L} (h : OutF w0 W v xs) (k : Below W.heap.size W W') : OutF w0 W' v xs := by
  obtain ⟨hB, g, cap, cur, e, hg, hR, hl, hc, hm, ht⟩ := h
  exact ⟨below_then hB hB.size k, g, cap, cur, e, hg, hR.below k, hl, hc, hm, ht⟩
/-- What a conversion of a string makes, its first n bytes. -/
theorem OutF.conv (w0 W : World) (hb : Below w0.heap.size w0 W) (s : ByteArray) (hs : s.size ≤ 2147483647) (n : Nat) (hn : n ≤ s.size) : OutF w0 (Lib.bytesWorld W tB s) (.slice (some ⟨W.heap.size, 0, none⟩) n (grownCap W s.size 0 tB)) ((bytesOf s).take n) ∧ n ≤ grownCap W s.size 0 tB ∧ s.size ≤ grownCap W s.size 0 tB := by
  have hge : s.size ≤ grownCap W s.size 0 tB := grownCap_ge W s.size 0 tB
  have hle : grownCap W s.size 0 tB ≤ 9223372036854775807 := by
    have := grownCap_le_maxLen W s.size 0 tB (by simp only [maxLen]; omega)
    simpa [maxLen] using this
  have hz : (Lib.bytesCells W tB s).size = grownCap W s.size 0 tB := by
    unfold Lib.bytesCells
    have : s.data.size = s.size := rfl
    rw [Array.size_append, Array.size_map, Array.size_replicate]; omega
  have hl : ((bytesOf s).take n).length = n := by rw [List.length_take, bytesOf_length]; omega
  have hRow : Row (Lib.bytesWorld W tB s) W.heap.size (Lib.bytesCells W tB s).toList := ⟨tB, (Lib.bytesCells W tB s).size, (Lib.bytesCells W tB s).size + 1, by rw [Array.toArray_toList]; exact Lib.bytesWorld_at_new W tB s, .inr (by rw [Array.length_toList]; exact Nat.le_refl _)⟩
  refine ⟨⟨hb.trans (bytes_below (Below.refl _ _) hb.size _ _), W.heap.size, grownCap W s.size 0 tB, (Lib.bytesCells W tB s).toList, by rw [hl], hb.size, hRow, by rw [hl]; omega, by rw [Array.length_toList, hz], hle, ?_⟩, by omega, hge⟩
  · rw [hl]
    unfold Lib.bytesCells nums bytesOf
    rw [Array.toList_append, Array.toList_map, List.take_append_of_le_length (by rw [List.length_map, Array.length_toList]; exact hn), List.map_take, List.map_map]
    rfl
end Go.Proofs.YtbpiooeklkjilaaDoor.J
