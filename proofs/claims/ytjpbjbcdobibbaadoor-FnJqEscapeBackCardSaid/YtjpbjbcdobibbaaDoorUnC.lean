/- The walks of the parser's unescaping: the loop. -/
import Derived.Test.YtjpbjbcdobibbaaDoorUnB
import Derived.Deep.LoopGhost
import Derived.Deep.DeepCutAuto
set_option linter.unusedVariables false
set_option linter.unusedSimpArgs false
namespace Go.Proofs.YtjpbjbcdobibbaaDoor.J
open Go.RowKit Go.Proofs.YtjpbjbcdobibbaaDoorW.PrintWords Go.Proofs.YtjpbjbcdobibbaaDoorW.PrintLast Go.Proofs.YtjpbjbcdobibbaaDoorW.PrintMore Go.Proofs.YtjpbjbcdobibbaaDoor.Aid Go.Proofs.YtjpbjbcdobibbaaDoor.PFnJpUnescape

theorem But.heap_b {g b : Nat} {w w' : World} (h : But g w w') (hb : b < w.heap.size) (hne : b ≠ g) : w'.heap[b]? = w.heap[b]? := h.block b hb hne
theorem but_setRow {g : Nat} (w : World) (cs : Array Value) : But g w (w.setRow g cs) :=
  ⟨rfl, rfl, rfl, by simp [World.setRow], fun k hk hne => setRow_other w g k cs hne⟩
section
variable {ops : Array Oper} {rest : List Oper} {o : Oper} {a : Act} {Q : Exit → Act → World → Prop}
/-- copy(buf, src): src no longer than buf. -/
theorem copy_any {W : World} (hgd : o.guard = none) (d s : Operand) (ho : o.op = .call { callee := .builtin .copy, args := #[d, s], argTypes := #[tBs, tBs] })
    (g oA n cd b ob cs off : Nat) (q : L) (cur : List Value) (hd : a.eval d = .slice (some ⟨g, oA, none⟩) n cd) (hs : a.eval s = .slice (some ⟨b, ob, none⟩) q.length cs)
    (hR : Row W g cur) (hI : In W b ob q) (hq : q.length ≤ n) (hoff : 0 < n → oA = off) (hn : off + n ≤ cur.length)
    (h : ∀ w1, Row w1 g (splice cur off (nums .u8 q)) → But g W w1 → wpList Tryd.prog ops Q rest (a.put o.dst (goInt q.length)) w1) : wpList Tryd.prog ops Q (o :: rest) a W := by
  obtain ⟨i0, hi, _, hz1, _⟩ := info_parts infoB
  have hsz : (Tryd.prog.info? tB).map (·.size) = some 1 := by rw [hi]; simp [hz1]
  by_cases h0 : q.length = 0
  · obtain rfl : q = [] := List.eq_nil_of_length_eq_zero h0
    refine wpList_copy_nothing hgd d s tBs tBs ho tB Tryd.underlying56 hsz _ _ n cd 0 cs hd hs (by simp) ?_
    exact h W (by rw [show nums .u8 ([] : L) = [] from rfl, splice_nil]; exact hR) (But.refl _ _)
  · obtain rfl := hoff (by omega)
    obtain ⟨tt, hR⟩ := hR
    have hl : (nums .u8 q).length = q.length := by simp [nums]
    have hmin : Nat.min q.length n = q.length := Nat.min_eq_left hq
    refine wpList_copy_own hgd d s tBs tBs ho tB Tryd.underlying56 hsz g oA n cd ⟨b, ob, none⟩ q.length cs hd hs cur.toArray tt hR (nums .u8 q) (by rw [hl]; exact hmin.symm) ?_ (by rw [hl]; simpa using (by omega : oA + q.length ≤ cur.length)) (by simp [nums, Value.oneCell']) ?_
    · intro j v hj
      have hjl : j < q.length := by have := (List.getElem?_eq_some_iff.1 hj).1; rwa [hl] at this
      have e : (⟨b, ob, none⟩ : Addr).add j = ⟨b, ob + j, none⟩ := by unfold Addr.add; split <;> simp_all
      rw [e, hI j hjl, ← hj]
      simp [nums, List.getD_eq_getElem?_getD, List.getElem?_eq_getElem hjl]
    · rw [hl]
      refine h _ ?_ (but_setRow W _)
      have := setRow_heap W g cur.toArray (splice cur oA (nums .u8 q)).toArray tt (0, 0) hR
      unfold splice at this
      refine ⟨tt, ?_⟩
      rw [hl] at this
      simpa [splice, hl] using this
end

/-- Cut ahead: a list's name behind it. -/
theorem cut_in (b o c : Nat) (l : L) (k : Nat) (hk : k ≤ l.length) (hc : l.length ≤ c) : ∃ o' r c', r = l.drop k ∧ r.length + k = l.length ∧ r.length ≤ c' ∧
    (∀ W : World, (Instr.slice tBs (.slice (some ⟨b, o, none⟩) l.length c) (some (.int .i64 (k : Int))) none none).run Tryd.prog W = .ok (.slice (some ⟨b, o', none⟩) r.length c') W) ∧ (∀ w, In w b o l → In w b o' r) := by
  obtain ⟨o', h1, h2⟩ := cut_at b o l.length c k hk
  refine ⟨o', l.drop k, c - k, rfl, by rw [List.length_drop]; omega, by rw [List.length_drop]; omega, fun W => by rw [List.length_drop]; exact h1 W, fun w hi => ?_⟩
  by_cases h0 : 0 < l.length - k
  · rw [h2 h0 hc]; exact hi.drop k
  · intro j hj; rw [List.length_drop] at hj; omega
/-- The buffer cut ahead. -/
theorem cut_buf (g oA n c off : Nat) (k : Nat) (hk : k ≤ n) (hc : n ≤ c) (ho : 0 < n → oA = off) : ∃ o' n' c', n' + k = n ∧ n' ≤ c' ∧ (0 < n' → o' = off + k) ∧
    (∀ W : World, (Instr.slice tBs (.slice (some ⟨g, oA, none⟩) n c) (some (.int .i64 (k : Int))) none none).run Tryd.prog W = .ok (.slice (some ⟨g, o', none⟩) n' c') W) := by
  obtain ⟨o', h1, h2⟩ := cut_at g oA n c k hk
  exact ⟨o', n - k, c - k, by omega, by omega, fun h => by rw [h2 h hc, ho (by omega)], h1⟩
/-- Cut behind. -/
theorem cut_to (b o n c : Nat) (k : Nat) (hk : k ≤ n) (hc : n ≤ c) : ∀ W : World, (Instr.slice tBs (.slice (some ⟨b, o, none⟩) n c) none (some (.int .i64 (k : Int))) none).run Tryd.prog W = .ok (.slice (some ⟨b, o, none⟩) k c) W := by
  intro W
  obtain ⟨i, hi, _, hsz, _⟩ := info_parts infoB
  have h := (print_take_int (k := .u8) (P := Tryd.prog) tBs tB Tryd.underlying56 hi hsz (some ⟨b, o, none⟩) c (List.replicate n 0) (k : Int) (by omega) (by simp; omega) (by simp; omega)).1 W
  simp only [List.length_replicate, Int.toNat_natCast, List.length_take, Nat.min_eq_left hk] at h
  exact h

theorem pl_take (l : L) : l.take (pl l).length = pl l := by
  have := List.take_left (l₁ := pl l) (l₂ := rs l)
  rwa [pl_rs] at this
theorem rs_drop (l : L) : l.drop (pl l).length = rs l := by
  have := List.drop_left (l₁ := pl l) (l₂ := rs l)
  rwa [pl_rs] at this
theorem pl_rs_len (l : L) : (pl l).length + (rs l).length = l.length := by
  have := congrArg List.length (pl_rs l)
  rw [List.length_append] at this
  exact this
theorem In.take {w : World} {b o : Nat} {l : L} (h : In w b o l) (k : Nat) (hk : k ≤ l.length) : In w b o (l.take k) := by
  intro j hj
  rw [List.length_take] at hj
  rw [h j (by omega), List.getD_eq_getElem?_getD, List.getD_eq_getElem?_getD, List.getElem?_take_of_lt (by omega)]
theorem In.of_row {w : World} {g : Nat} {cur : List Value} {E : L} (h : Row w g cur) (he : cur.take E.length = nums .u8 E) : In w g 0 E := by
  intro j hj
  rw [Nat.zero_add, h.cell j]
  have : (cur.take E.length)[j]? = (nums .u8 E)[j]? := by rw [he]
  rw [List.getElem?_take_of_lt hj] at this
  rw [this]
  simp [nums, List.getD_eq_getElem?_getD, List.getElem?_eq_getElem hj]

theorem made_arr (n : Nat) (v : Value) : madeCells #[v] n = (List.replicate n v).toArray := by
  simp [madeCells, Nat.mod_one]
  apply Array.ext
  · simp
  · intro i h1 h2; simp
theorem In.but {w w' : World} {b o g : Nat} {l : L} (h : In w b o l) (k : But g w w') (hb : b < w.heap.size) (hne : b ≠ g) : In w' b o l := h.block (k.block b hb hne)
theorem take_splice' (cur : List Value) (E o : L) (hE : cur.take E.length = nums .u8 E) (hl : E.length + o.length ≤ cur.length) : (splice cur E.length (nums .u8 o)).take (E ++ o).length = nums .u8 (E ++ o) := by
  have h1 : (nums .u8 o).length = o.length := by simp [nums]
  have := take_splice cur E.length (nums .u8 o) (by rw [h1]; exact hl)
  rw [h1] at this
  rw [List.length_append, this, hE]
  simp [nums]
theorem Below.but {B g : Nat} {w0 w w' : World} (h : Below B w0 w) (k : But g w w') (hg : B ≤ g) (hs : B ≤ w.heap.size) : Below B w0 w' := h.trans (k.to_below hg hs)
/-- What is handed back: the bytes, or the error. -/
def UPost (B : Nat) (w0 : World) (r : Option L) (eV : Value) (e : Ending) (w' : World) : Prop :=
  Below B w0 w' ∧ match r with
    | none => e = .returned (.tuple #[.slice none 0 0, eV])
    | some q => ∃ b o c, e = .returned (.tuple #[.slice (some ⟨b, o, none⟩) q.length c, .nilIface]) ∧ In w' b o q ∧ q.length ≤ c
/-- At the loop's head: r is left to read, E is written. -/
def ULoop (B : Nat) (w0 wa : World) (b g N : Nat) (l : L) (kq : Nat) (v1 v9 : Value) (W : World) : Prop :=
  ∃ (o1 c1 oA n1 c2 : Nat) (r E : L) (cur : List Value), v1 = .slice (some ⟨b, o1, none⟩) r.length c1 ∧ v9 = .slice (some ⟨g, oA, none⟩) n1 c2 ∧ r.length = kq ∧ 1 ≤ r.length ∧ r.getD 0 0 = 92 ∧ (∀ x ∈ r, byt x) ∧ r.length ≤ c1 ∧ n1 ≤ c2 ∧
    (0 < n1 → oA = E.length) ∧ E.length + n1 = N ∧ r.length ≤ n1 ∧ N ≤ cur.length ∧ In W b o1 r ∧ Row W g cur ∧ cur.take E.length = nums .u8 E ∧ pu l = (pu r).map (E ++ ·) ∧ Below B w0 W ∧ But g wa W
end Go.Proofs.YtjpbjbcdobibbaaDoor.J
