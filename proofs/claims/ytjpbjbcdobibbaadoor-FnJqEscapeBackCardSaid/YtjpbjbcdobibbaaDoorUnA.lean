/- The walks of the parser's unescaping: a byte sought, a character written, one escape. -/
import Derived.Test.YtjpbjbcdobibbaaDoorJMem
import Derived.Test.YtjpbjbcdobibbaaDoorUnDec
import Derived.Test.YtjpbjbcdobibbaaDoorShelf
import Derived.Laws.IdiomCopy
import Derived.Laws.CopyOwn
import Derived.BigQuiet
set_option linter.unusedVariables false
set_option linter.unusedSimpArgs false
namespace Go.Proofs.YtjpbjbcdobibbaaDoor.J
open Go.RowKit Go.Proofs.YtjpbjbcdobibbaaDoorW.PrintWords Go.Proofs.YtjpbjbcdobibbaaDoorW.PrintLast Go.Proofs.YtjpbjbcdobibbaaDoorW.PrintMore Go.Proofs.YtjpbjbcdobibbaaDoor.Aid Go.Proofs.YtjpbjbcdobibbaaDoor.PFnJpUnescape
abbrev tBs : Nat := 56
abbrev tB : Nat := 5

/-! ### a slice that is read; a row that is written -/
/-- From ⟨b, o⟩ on the cells hold l. -/
def In (w : World) (b o : Nat) (l : L) : Prop := ∀ j, j < l.length → w.cell? ⟨b, o + j, none⟩ = some (.int .u8 (l.getD j 0))
theorem In.drop {w : World} {b o : Nat} {l : L} (h : In w b o l) (k : Nat) : In w b (o + k) (l.drop k) := by
  intro j hj
  rw [List.length_drop] at hj
  rw [getD_drop', Nat.add_assoc]
  exact h (k + j) (by omega)
theorem In.reads {w : World} {b o : Nat} {l : L} (h : In w b o l) (hl : l.length ≤ 9223372036854775807) : ReadsInt w .u8 (some ⟨b, o, none⟩) l.length l :=
  ⟨rfl, hl, fun _ => ⟨_, rfl, fun j hj => by
    have : (⟨b, o, none⟩ : Addr).add j = ⟨b, o + j, none⟩ := by unfold Addr.add; split <;> simp_all
    rw [this]; exact h j hj⟩⟩
theorem In.block {w w' : World} {b o : Nat} {l : L} (h : In w b o l) (e : w'.heap[b]? = w.heap[b]?) : In w' b o l := by
  intro j hj
  rw [← h j hj]
  unfold World.cell?
  simp only [e]
def Row (w : World) (g : Nat) (cur : List Value) : Prop := ∃ t, w.heap[g]? = some (.cells cur.toArray t (0, 0))
theorem Row.cell {w : World} {g : Nat} {cur : List Value} (h : Row w g cur) (i : Nat) : w.cell? ⟨g, i, none⟩ = cur[i]? := by
  obtain ⟨t, h⟩ := h
  rw [blk_cell h i]; simp
theorem Row.frozen {w : World} {g : Nat} {cur : List Value} (h : Row w g cur) (i : Nat) : w.frozen? ⟨g, i, none⟩ = false := by
  obtain ⟨t, h⟩ := h
  exact blk_frozen h i
theorem Row.set {w : World} {g : Nat} {cur : List Value} (h : Row w g cur) (i : Nat) (u : Value) : Row (w.setCell ⟨g, i, none⟩ u) g (cur.set i u) := by
  obtain ⟨t, h⟩ := h
  refine ⟨t, ?_⟩
  rw [blk_set h i u]; simp
theorem splice_nil {α : Type} (L : List α) (off : Nat) : splice L off [] = L := by simp [splice]
theorem splice_cons {α : Type} (L : List α) (off : Nat) (x : α) (xs : List α) (h : off < L.length) : splice L off (x :: xs) = splice (L.set off x) (off + 1) xs := by
  have e1 : (L.set off x).take (off + 1) = L.take off ++ [x] := by
    rw [List.take_succ_eq_append_getElem (by simpa using h)]
    simp [List.take_set_of_le]
  have e2 : (L.set off x).drop (off + 1 + xs.length) = L.drop (off + (xs.length + 1)) := by
    rw [List.drop_set_of_lt (by omega)]
    congr 1; omega
  unfold splice
  rw [e1, e2]
  simp
theorem Row.setCells {g : Nat} : ∀ (vs : List Value) (off : Nat) (w : World) (cur : List Value), Row w g cur → off + vs.length ≤ cur.length → Row (w.setCells g off vs) g (splice cur off vs)
  | [], off, w, cur, h, _ => by rw [splice_nil]; exact h
  | v :: vs, off, w, cur, h, hl => by
    simp only [List.length_cons] at hl
    rw [splice_cons _ _ _ _ (by omega)]
    exact Row.setCells vs (off + 1) _ _ (h.set off v) (by rw [List.length_set]; omega)
theorem But.setCells {g : Nat} : ∀ (vs : List Value) (off : Nat) (w w' : World), But g w w' → But g w (w'.setCells g off vs)
  | [], off, w, w', h => h
  | v :: vs, off, w, w', h => But.setCells vs (off + 1) w _ (h.set off v)
theorem splice_snoc {α : Type} (L : List α) (off : Nat) (xs ys : List α) (h : off + xs.length ≤ L.length) : splice (splice L off xs) (off + xs.length) ys = splice L off (xs ++ ys) := by
  have h1 : (L.take off ++ xs).length = off + xs.length := by simp; omega
  unfold splice
  rw [← List.append_assoc (L.take off) xs, List.take_left' h1]
  rw [List.drop_append, h1]
  rw [show (L.take off ++ xs).drop (off + xs.length + ys.length) = [] from List.drop_eq_nil_of_le (by omega)]
  rw [List.nil_append, List.drop_drop, List.length_append, List.append_assoc, List.append_assoc]
  congr 3
  congr 1
  omega
/-- What stands behind a place is not asked. -/
theorem take_splice {α : Type} (L : List α) (off : Nat) (xs : List α) (h : off + xs.length ≤ L.length) : (splice L off xs).take (off + xs.length) = L.take off ++ xs := by
  unfold splice
  rw [← List.append_assoc, List.take_left' (by simp; omega)]

/-- A slice of bytes cut ahead: where its cells lie then. -/
theorem cut_gen {P : Program} (t e : TypeId) {i : TypeInfo} (ht : P.underlying t = some (.slice e)) (hi : P.info? e = some i) (hsz : i.size = 1) (b o n c k : Nat) (hk : k ≤ n) :
    ∃ o', (∀ W : World, (Instr.slice t (.slice (some ⟨b, o, none⟩) n c) (some (.int .i64 (k : Int))) none none).run P W = .ok (.slice (some ⟨b, o', none⟩) (n - k) (c - k)) W) ∧ (0 < n - k → n ≤ c → o' = o + k) := by
  refine ⟨if c = k then o else o + k, fun W => ?_, fun h h2 => by rw [if_neg (by omega)]⟩
  have hel : P.elem t = e := by simp [Program.elem, ht]
  have hu : P.underlying t = some (.slice (P.elem t)) := by rw [hel]; exact ht
  rw [run_slice_l W t _ n c hu .i64 (k : Int) (Int.natCast_nonneg _) (by omega), hel]
  by_cases e : c = k
  · simp [sizeOf, typeInfo, hi, hsz, sliced, Result.andThen, e]
  · simp [sizeOf, typeInfo, hi, hsz, sliced, Result.andThen, e]
    unfold Addr.add
    split <;> simp_all
theorem infoB : (Tryd.prog.info? tB).map (fun i => (i.zero, i.size, i.bytes)) = some (some (.int .u8 0), 1, 1) := by kernel_rfl
theorem cut_at (b o n c : Nat) (k : Nat) (hk : k ≤ n) : ∃ o', (∀ W : World, (Instr.slice tBs (.slice (some ⟨b, o, none⟩) n c) (some (.int .i64 (k : Int))) none none).run Tryd.prog W = .ok (.slice (some ⟨b, o', none⟩) (n - k) (c - k)) W) ∧ (0 < n - k → n ≤ c → o' = o + k) := by
  obtain ⟨i, hi, _, hsz, _⟩ := info_parts infoB
  exact cut_gen tBs tB Tryd.underlying56 hi hsz b o n c k hk

/-! ### a byte sought -/
/-- What is ahead of the first backslash; from it on. -/
def pl : L → L
  | [] => []
  | c :: t => if c = 92 then [] else c :: pl t
def rs : L → L
  | [] => []
  | c :: t => if c = 92 then c :: t else rs t
theorem pl_rs : ∀ l : L, pl l ++ rs l = l
  | [] => rfl
  | c :: t => by
    simp only [pl, rs]
    split
    · rfl
    · rw [List.cons_append, pl_rs t]
theorem rs_cons : ∀ {l : L}, rs l ≠ [] → ∃ t, rs l = 92 :: t
  | [], h => absurd rfl h
  | c :: t, h => by
    simp only [rs] at h ⊢
    split
    · rename_i e; exact ⟨t, by rw [e]⟩
    · rename_i e; rw [if_neg e] at h; exact rs_cons h
def ixB (l : L) : Int := if rs l = [] then -1 else ((pl l).length : Int)
theorem indexByte_ixB : ∀ l : L, (∀ x ∈ l, byt x) → Lib.indexByte (Lib.bytesOf l) (92 : Int).toNat.toUInt8 = ixB l
  | [], _ => rfl
  | c :: t, hb => by
    have ih := indexByte_ixB t (fun x hx => hb x (List.mem_cons_of_mem _ hx))
    obtain ⟨h0, h1⟩ := hb c List.mem_cons_self
    show (if UInt8.ofNat c.toNat == (92 : Int).toNat.toUInt8 then (0 : Int) else if Lib.indexByte (Lib.bytesOf t) _ == -1 then -1 else Lib.indexByte (Lib.bytesOf t) _ + 1) = _
    rw [ih]
    have hc : (UInt8.ofNat c.toNat == (92 : Int).toNat.toUInt8) = (c == 92) := by
      rw [Bool.eq_iff_iff, beq_iff_eq, beq_iff_eq]
      constructor
      · intro h
        have := congrArg UInt8.toNat h
        simp [UInt8.toNat_ofNat'] at this
        omega
      · rintro rfl; rfl
    rw [hc]
    unfold ixB
    by_cases e : c = 92
    · subst e
      have r1 : rs (92 :: t) = 92 :: t := by simp [rs]
      have p1 : pl (92 :: t) = [] := by simp [pl]
      rw [r1, p1]
      simp
    · have e' : (c == 92) = false := beq_eq_false_iff_ne.mpr e
      have r1 : rs (c :: t) = rs t := by simp [rs, e]
      have p1 : pl (c :: t) = c :: pl t := by simp [pl, e]
      rw [e', r1, p1]
      simp only [Bool.false_eq_true, if_false]
      by_cases h : rs t = []
      · rw [if_pos h, if_pos h]; rfl
      · rw [if_neg h, if_neg h]
        have : ¬ (((pl t).length : Int) == -1) = true := by rw [beq_iff_eq]; omega
        rw [if_neg this]; simp
theorem pl_ne : ∀ (l : L), ∀ x ∈ pl l, x ≠ 92
  | [], x, hx => by cases hx
  | c :: t, x, hx => by
    simp only [pl] at hx
    split at hx
    · cases hx
    · rename_i e
      rcases List.mem_cons.1 hx with rfl | hx
      · exact e
      · exact pl_ne t x hx
theorem pu_app : ∀ (p r : L), (∀ x ∈ p, x ≠ 92) → pu (p ++ r) = (pu r).map (p ++ ·)
  | [], r, _ => by simp
  | c :: p, r, h => by
    rw [List.cons_append, pu_plain _ (h c List.mem_cons_self), pu_app p r (fun x hx => h x (List.mem_cons_of_mem _ hx))]
    cases pu r <;> rfl
theorem pu_pl (l : L) : pu l = (pu (rs l)).map (pl l ++ ·) := by
  conv => lhs; rw [← pl_rs l]
  exact pu_app _ _ (pl_ne l)
theorem IndexByte_any (b o c : Nat) (l : L) (w : World) (hb : ∀ x ∈ l, byt x) (hi : In w b o l) :
    Calls Tryd.prog 54 #[.slice (some ⟨b, o, none⟩) l.length c, .int .u8 92] w fun e w' => e = .returned (.int .i64 (ixB l)) ∧ w' = w := by
  have := Tryd.bytes_IndexByte b o l.length c l 92 w rfl hi
  rwa [indexByte_ixB l hb] at this

/-! ### a character written -/
def wasWritten (g off : Nat) (cur : List Value) (o : L) (w : World) (e : Ending) (w' : World) : Prop := e = .returned (.int .i64 o.length) ∧ Row w' g (splice cur off (nums .u8 o)) ∧ But g w w'
theorem wasWritten.mk {g off : Nat} {cur : List Value} {o : L} {w : World} (h : Row w g cur) (hl : off + o.length ≤ cur.length) : wasWritten g off cur o w (.returned (.int .i64 o.length)) (w.setCells g off (nums .u8 o)) :=
  ⟨rfl, Row.setCells _ _ _ _ h (by unfold nums; rw [List.length_map]; exact hl), But.setCells _ _ _ _ (But.refl _ _)⟩
set_option maxHeartbeats 4000000 in
set_option maxRecDepth 100000 in
theorem encN_any (g off n c : Nat) (r : Int) (cur : List Value) (w : World) (h0 : 128 ≤ r) (h1 : r ≤ 1114111) (h : Row w g cur) (hn : off + n ≤ cur.length) (hl : (utf8 r).length ≤ n) :
    Calls Tryd.prog 69 #[.slice (some ⟨g, off, none⟩) n c, .int .i32 r] w (wasWritten g off cur (utf8 r) w) := by
  have H := Lib.hid h
  have hsome : ∀ j, j < n → ∃ v, w.cell? ⟨g, off + j, none⟩ = some v := fun j hj => ⟨_, (h.cell _).trans (List.getElem?_eq_getElem (by omega))⟩
  have hfr : ∀ j, w.frozen? ⟨g, off + j, none⟩ = false := fun j => h.frozen _
  clear h
  by_cases c1 : r ≤ 2047
  · have e : utf8 r = [192 + r / 64, 128 + r % 64] := by unfold utf8; rw [if_neg (by omega), if_pos (by omega)]
    rw [e] at hl ⊢
    simp only [List.length_cons, List.length_nil] at hl
    obtain ⟨v0, hc0⟩ := hsome 0 (by omega); have hf0 := hfr 0
    obtain ⟨v1, hc1⟩ := hsome 1 (by omega); have hf1 := hfr 1
    simp only [Nat.add_zero] at hc0 hf0
    have K := Lib.hid (wasWritten.mk (off := off) (o := [192 + r / 64, 128 + r % 64]) H.out (by simp; omega))
    clear hsome hfr e
    go_enter Tryd.func69, Tryd.ntmps69
    go_wp2
    go_ret
    exact K.out
  by_cases s : 55296 ≤ r ∧ r ≤ 57343
  · obtain ⟨s1, s2⟩ := s
    have e : utf8 r = [239, 191, 189] := utf8_sur (by unfold high low; simp; omega)
    rw [e] at hl ⊢
    simp only [List.length_cons, List.length_nil] at hl
    obtain ⟨v0, hc0⟩ := hsome 0 (by omega); have hf0 := hfr 0
    obtain ⟨v1, hc1⟩ := hsome 1 (by omega); have hf1 := hfr 1
    obtain ⟨v2, hc2⟩ := hsome 2 (by omega); have hf2 := hfr 2
    simp only [Nat.add_zero] at hc0 hf0
    have K := Lib.hid (wasWritten.mk (off := off) (o := [239, 191, 189]) H.out (by simp; omega))
    clear hsome hfr e
    go_enter Tryd.func69, Tryd.ntmps69
    go_wp2
    go_ret
    exact K.out
  have sur : ¬ (high r = true ∨ low r = true) := by unfold high low; simp; omega
  by_cases c2 : r ≤ 65535
  · have e : utf8 r = [224 + r / 4096, 128 + r / 64 % 64, 128 + r % 64] := by unfold utf8; rw [if_neg (by omega), if_neg (by omega), if_neg sur, if_pos (by omega)]
    rw [e] at hl ⊢
    simp only [List.length_cons, List.length_nil] at hl
    obtain ⟨v0, hc0⟩ := hsome 0 (by omega); have hf0 := hfr 0
    obtain ⟨v1, hc1⟩ := hsome 1 (by omega); have hf1 := hfr 1
    obtain ⟨v2, hc2⟩ := hsome 2 (by omega); have hf2 := hfr 2
    simp only [Nat.add_zero] at hc0 hf0
    have K := Lib.hid (wasWritten.mk (off := off) (o := [224 + r / 4096, 128 + r / 64 % 64, 128 + r % 64]) H.out (by simp; omega))
    clear hsome hfr e
    rcases (show r < 55296 ∨ 57343 < r by omega) with hh | hh
    · clear s sur
      go_enter Tryd.func69, Tryd.ntmps69
      go_wp2
      go_ret
      exact K.out
    · clear s sur
      go_enter Tryd.func69, Tryd.ntmps69
      go_wp2
      go_ret
      exact K.out
  · have e : utf8 r = [240 + r / 262144, 128 + r / 4096 % 64, 128 + r / 64 % 64, 128 + r % 64] := by unfold utf8; rw [if_neg (by omega), if_neg (by omega), if_neg sur, if_neg (by omega)]
    rw [e] at hl ⊢
    simp only [List.length_cons, List.length_nil] at hl
    obtain ⟨v0, hc0⟩ := hsome 0 (by omega); have hf0 := hfr 0
    obtain ⟨v1, hc1⟩ := hsome 1 (by omega); have hf1 := hfr 1
    obtain ⟨v2, hc2⟩ := hsome 2 (by omega); have hf2 := hfr 2
    obtain ⟨v3, hc3⟩ := hsome 3 (by omega); have hf3 := hfr 3
    simp only [Nat.add_zero] at hc0 hf0
    have K := Lib.hid (wasWritten.mk (off := off) (o := [240 + r / 262144, 128 + r / 4096 % 64, 128 + r / 64 % 64, 128 + r % 64]) H.out (by simp; omega))
    clear hsome hfr e s sur
    go_enter Tryd.func69, Tryd.ntmps69
    go_wp2
    go_ret
    exact K.out
set_option maxHeartbeats 4000000 in
set_option maxRecDepth 100000 in
theorem enc_any (g off n c : Nat) (r : Int) (cur : List Value) (w : World) (h0 : 0 ≤ r) (h1 : r ≤ 1114111) (h : Row w g cur) (hn : off + n ≤ cur.length) (hl : (utf8 r).length ≤ n) :
    Calls Tryd.prog 62 #[.slice (some ⟨g, off, none⟩) n c, .int .i32 r] w (wasWritten g off cur (utf8 r) w) := by
  by_cases c1 : r ≤ 127
  · have e : utf8 r = [r] := by unfold utf8; rw [if_pos (by omega)]
    rw [e] at hl ⊢
    simp only [List.length_cons, List.length_nil] at hl
    obtain ⟨v0, hc0⟩ : ∃ v, w.cell? ⟨g, off, none⟩ = some v := ⟨_, (h.cell _).trans (List.getElem?_eq_getElem (by omega))⟩
    have hf0 := h.frozen off
    have K := Lib.hid (wasWritten.mk (off := off) (o := [r]) h (by simp; omega))
    clear e h
    go_enter Tryd.func62, Tryd.ntmps62
    go_wp2
    go_ret
    exact K.out
  · have H := Lib.hid h
    clear h
    go_enter Tryd.func62, Tryd.ntmps62
    go_wp2_with (go_at_call 69; refine (encN_any g off n c r cur _ (by omega) h1 H.out hn hl).mono ?_; rintro e w' ⟨rfl, k⟩; replace k := Lib.hid k)
    go_ret
    exact ⟨rfl, k.out⟩
end Go.Proofs.YtjpbjbcdobibbaaDoor.J
