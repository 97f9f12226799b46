/- Several texts in one. -/
import Derived.Test.YtjpbjbcdobibbaaDoorSsM1
import Derived.Test.YtjpbjbcdobibbaaDoorPFnJpUnescapex1
import Derived.Test.YtjpbjbcdobibbaaDoorShelf
import Derived.Laws.IdiomCopy
import Derived.Laws.CopyOwn
import Derived.BigQuiet
import Derived.Deep.LoopGhost
import Derived.Deep.DeepCutAuto
import Derived.Deep.AppendSrc
import Derived.Test.YtjpbjbcdobibbaaDoorPFnMtGuardedx1
import Derived.Test.YtjpbjbcdobibbaaDoorPFnMtGuardedx2
import Derived.Deep.RegionHeld3
/- The parser's reading of \uXXXX, on lists: what the printed functions come to. -/
set_option linter.unusedVariables false
namespace Go.Proofs.YtjpbjbcdobibbaaDoor.J
open Go.RowKit Go.Proofs.YtjpbjbcdobibbaaDoorW.PrintWords Go.Proofs.YtjpbjbcdobibbaaDoor.PFnJpUnescape

theorem rd_getD (l : L) (i : Nat) : rd l (i : Int) = l.getD i 0 := by unfold rd; rw [Int.toNat_natCast]
def byt (c : Int) : Prop := 0 ≤ c ∧ c ≤ 255
theorem h2I_f (k : Nat) (c : Int) (h : byt c) : jsonparser_h2I.f (k + 2) c = some (if hex c = true then hv c else -1) := by
  obtain ⟨h0, h1⟩ := h
  unfold jsonparser_h2I.f jsonparser_h2I.j0 jsonparser_h2I.j1
  unfold hex hv dig
  by_cases a1 : 48 ≤ c
  · by_cases a2 : c ≤ 57
    · simp [a1, a2]; omega
    · by_cases a3 : 65 ≤ c
      · by_cases a4 : c ≤ 70
        · have : ¬ 97 ≤ c := by omega
          simp [a1, a2, a3, a4, this]; omega
        · by_cases a5 : 97 ≤ c
          · by_cases a6 : c ≤ 102
            · simp [a1, a2, a3, a4, a5, a6]; omega
            · simp [a1, a2, a3, a4, a5, a6]
          · simp [a1, a2, a3, a4, a5]
      · have : ¬ 97 ≤ c := by omega
        simp [a1, a2, a3, this]
  · have b1 : ¬ 65 ≤ c := by omega
    have b2 : ¬ 97 ≤ c := by omega
    simp [a1, b1, b2]

/-- The four digits behind two bytes. -/
def hx4 (l : L) : Option Int :=
  if 6 ≤ l.length ∧ hex (l.getD 2 0) = true ∧ hex (l.getD 3 0) = true ∧ hex (l.getD 4 0) = true ∧ hex (l.getD 5 0) = true then
    some (((hv (l.getD 2 0) * 16 + hv (l.getD 3 0)) * 16 + hv (l.getD 4 0)) * 16 + hv (l.getD 5 0)) else none
theorem unit_hx4 {l : L} (h0 : l.getD 0 0 = 92) (h1 : l.getD 1 0 = 117) : unit l = hx4 l := by
  unfold unit hx4
  simp only [h0, h1, true_and]
theorem hx4_range {l : L} {n : Int} (h : hx4 l = some n) : 0 ≤ n ∧ n ≤ 65535 := by
  unfold hx4 at h
  split at h
  · rename_i hh
    obtain ⟨_, h2, h3, h4, h5⟩ := hh
    have := hv_range h2; have := hv_range h3; have := hv_range h4; have := hv_range h5
    injection h with h; omega
  · cases h
def dec1 (l : L) : Int × Bool := match hx4 l with
  | some n => (n, true)
  | none => (65533, false)
theorem byt_getD {l : L} (hb : ∀ x ∈ l, byt x) (i : Nat) : byt (l.getD i 0) := by
  rw [List.getD_eq_getElem?_getD]
  cases h : l[i]? with
  | none => exact ⟨by simp, by simp⟩
  | some x => exact hb x (List.mem_of_getElem? h)
theorem dec1_f (k : Nat) (l : L) (hb : ∀ x ∈ l, byt x) : jsonparser_decodeSingleUnicodeEscape.f (k + 2) l = some (dec1 l) := by
  unfold jsonparser_decodeSingleUnicodeEscape.f dec1 hx4
  by_cases h6 : (l.length : Int) < 6
  · rw [if_pos h6, if_neg (by omega)]
  · rw [if_neg h6, if_pos (show 2 < (l.length : Int) by omega)]
    have e2 : rd l 2 = l.getD 2 0 := rd_getD l 2
    have e3 : rd l 3 = l.getD 3 0 := rd_getD l 3
    have e4 : rd l 4 = l.getD 4 0 := rd_getD l 4
    have e5 : rd l 5 = l.getD 5 0 := rd_getD l 5
    rw [e2, h2I_f k _ (byt_getD hb 2), Option.bind_some, if_pos (show 3 < (l.length : Int) by omega)]
    rw [e3, h2I_f k _ (byt_getD hb 3), Option.bind_some, if_pos (show 4 < (l.length : Int) by omega)]
    rw [e4, h2I_f k _ (byt_getD hb 4), Option.bind_some, if_pos (show 5 < (l.length : Int) by omega)]
    rw [e5, h2I_f k _ (byt_getD hb 5), Option.bind_some]
    by_cases a2 : hex (l.getD 2 0) = true
    · have r2 := hv_range a2
      rw [if_pos a2, if_neg (show ¬ hv (l.getD 2 0) = -1 by omega)]
      by_cases a3 : hex (l.getD 3 0) = true
      · have r3 := hv_range a3
        rw [if_pos a3, if_neg (show ¬ hv (l.getD 3 0) = -1 by omega)]
        by_cases a4 : hex (l.getD 4 0) = true
        · have r4 := hv_range a4
          rw [if_pos a4, if_neg (show ¬ hv (l.getD 4 0) = -1 by omega)]
          by_cases a5 : hex (l.getD 5 0) = true
          · have r5 := hv_range a5
            rw [if_pos a5, if_neg (show ¬ hv (l.getD 5 0) = -1 by omega), if_pos ⟨by omega, a2, a3, a4, a5⟩]
            simp only [Option.some.injEq, Prod.mk.injEq, and_true]
            unfold wrap32 wrap64
            omega
          · rw [if_neg a5, if_pos rfl, if_neg (fun h => a5 h.2.2.2.2)]
        · rw [if_neg a4, if_pos rfl, if_neg (fun h => a4 h.2.2.2.1)]
      · rw [if_neg a3, if_pos rfl, if_neg (fun h => a3 h.2.2.1)]
    · rw [if_neg a2, if_pos rfl, if_neg (fun h => a2 h.2.1)]
/-- An escape behind "\u": its character (U+FFFD for half a pair), and how many bytes it has. -/
def duc (l : L) : Int × Int := match hx4 l with
  | none => (65533, -1)
  | some n => if high n = true then (if l.length < 8 ∨ l.getD 6 0 ≠ 92 ∨ l.getD 7 0 ≠ 117 then (65533, 6) else match hx4 (l.drop 6) with
      | none => (65533, -1)
      | some m => if low m = true then (comb n m, 12) else (65533, 6))
    else if low n = true then (65533, 6) else (n, 6)
theorem j0_true (k : Nat) (l : L) (x : Int) : jsonparser_decodeUnicodeEscape.j0 (k + 1) l x true = some (65533, 6) := by unfold jsonparser_decodeUnicodeEscape.j0; rfl
theorem duc_f (k : Nat) (l : L) (hb : ∀ x ∈ l, byt x) : jsonparser_decodeUnicodeEscape.f (k + 3) l = some (duc l) := by
  unfold jsonparser_decodeUnicodeEscape.f
  rw [dec1_f (k + 1) l hb]
  simp only [Option.bind_some]
  unfold dec1 duc
  cases e : hx4 l with
  | none => rfl
  | some n =>
    have hn := hx4_range e
    simp only [if_true]
    unfold jsonparser_isUTF16EncodedRune.f
    by_cases s1 : 55296 ≤ n
    · rw [if_pos s1]
      simp only [Option.bind_some, decide_eq_true_eq]
      by_cases s2 : n ≤ 57343
      · rw [if_pos s2]
        by_cases s3 : 56320 ≤ n
        · rw [if_pos (show n ≥ 56320 from s3), if_neg (by unfold high; simp; omega), if_pos (by unfold low; simp; omega)]
        · rw [if_neg (show ¬ n ≥ 56320 from s3), if_pos (show high n = true by unfold high; simp; omega)]
          by_cases s4 : (l.length : Int) < 8
          · rw [if_pos s4, j0_true, if_pos (Or.inl (by omega))]
          · have e6 : rd l 6 = l.getD 6 0 := rd_getD l 6
            have e7 : rd l 7 = l.getD 7 0 := rd_getD l 7
            rw [if_neg s4, if_pos (show 6 < (l.length : Int) by omega), e6, e7]
            by_cases s5 : l.getD 6 0 = 92
            · rw [if_pos s5, if_pos (show 7 < (l.length : Int) by omega)]
              by_cases s6 : l.getD 7 0 = 117
              · rw [if_neg (show ¬ (l.length < 8 ∨ l.getD 6 0 ≠ 92 ∨ l.getD 7 0 ≠ 117) by simp only [s5, s6]; omega), s6]
                unfold jsonparser_decodeUnicodeEscape.j0
                simp only [bne_self_eq_false, Bool.false_eq_true, if_false]
                rw [if_pos (show 6 ≤ (l.length : Int) by omega), dec1_f k (l.drop 6) (fun x hx => hb x (List.mem_of_mem_drop hx))]
                simp only [Option.bind_some]
                unfold dec1
                cases e2 : hx4 (l.drop 6) with
                | none => rfl
                | some m =>
                  have hm := hx4_range e2
                  simp only [if_true]
                  by_cases t1 : m < 56320
                  · rw [if_pos t1, if_neg (by unfold low; simp; omega)]
                  · rw [if_neg t1]
                    by_cases t2 : m > 57343
                    · rw [if_pos t2, if_neg (by unfold low; simp; omega)]
                    · rw [if_neg t2, if_pos (show low m = true by unfold low; simp; omega)]
                      unfold jsonparser_combineUTF16Surrogates.f comb
                      simp only [Option.bind_some, Option.some.injEq, Prod.mk.injEq, and_true]
                      unfold wrap32
                      omega
              · rw [if_pos (show (l.length < 8 ∨ l.getD 6 0 ≠ 92 ∨ l.getD 7 0 ≠ 117) from .inr (.inr s6)), show (l.getD 7 0 != 117) = true from bne_iff_ne.mpr s6, j0_true]
            · rw [if_neg s5, j0_true, if_pos (.inr (.inl s5))]
      · rw [if_neg s2, if_neg (by unfold high; simp; omega), if_neg (by unfold low; simp; omega)]
    · rw [if_neg s1]
      simp only [Option.bind_some, Bool.false_eq_true, if_false]
      rw [if_neg (by unfold high; simp; omega), if_neg (by unfold low; simp; omega)]
/-- What it is to the parser. -/
theorem duc_ue {l : L} (h2 : 2 ≤ l.length) (h0 : l.getD 0 0 = 92) (h1 : l.getD 1 0 = 117) :
    (ue l = none ∧ (duc l).2 = -1) ∨ ∃ k o, ue l = some (k, o) ∧ (duc l).2 = (k : Int) ∧ o = utf8 (duc l).1 ∧ 0 ≤ (duc l).1 ∧ (duc l).1 ≤ 1114111 := by
  have r : utf8 65533 = [239, 191, 189] := by decide
  unfold ue duc
  rw [if_neg (by omega), h1, if_neg (by decide), if_pos rfl, unit_hx4 h0 h1]
  cases e : hx4 l with
  | none => exact .inl ⟨rfl, rfl⟩
  | some n =>
    have hn := hx4_range e
    simp only []
    by_cases hh : high n = true
    · rw [if_pos hh, if_pos hh]
      by_cases hc : l.length < 8 ∨ l.getD 6 0 ≠ 92 ∨ l.getD 7 0 ≠ 117
      · rw [if_pos hc, if_pos hc]
        exact .inr ⟨6, _, rfl, rfl, r.symm, by decide, by decide⟩
      · rw [if_neg hc, if_neg hc]
        have d0 : (l.drop 6).getD 0 0 = 92 := by rw [getD_drop']; exact Classical.not_not.1 fun h => hc (.inr (.inl h))
        have d1 : (l.drop 6).getD 1 0 = 117 := by rw [getD_drop']; exact Classical.not_not.1 fun h => hc (.inr (.inr h))
        rw [unit_hx4 d0 d1]
        cases e2 : hx4 (l.drop 6) with
        | none => exact .inl ⟨rfl, rfl⟩
        | some m =>
          have hm := hx4_range e2
          simp only []
          by_cases hl : low m = true
          · rw [if_pos hl, if_pos hl]
            refine .inr ⟨12, _, rfl, rfl, rfl, ?_, ?_⟩
            · unfold high at hh; unfold low at hl; unfold comb; simp at hh hl ⊢; omega
            · unfold high at hh; unfold low at hl; unfold comb; simp at hh hl ⊢; omega
          · rw [if_neg hl, if_neg hl]
            exact .inr ⟨6, _, rfl, rfl, r.symm, by decide, by decide⟩
    · rw [if_neg hh, if_neg hh]
      by_cases hl : low n = true
      · rw [if_pos hl]
        exact .inr ⟨6, _, rfl, rfl, by rw [r, utf8_sur (.inr hl)], by decide, by decide⟩
      · rw [if_neg hl]
        exact .inr ⟨6, _, rfl, rfl, rfl, hn.1, by show n ≤ 1114111; omega⟩
end Go.Proofs.YtjpbjbcdobibbaaDoor.J

/- The walks of the parser's unescaping: a byte sought, a character written, one escape. -/
set_option linter.unusedVariables false
set_option linter.unusedSimpArgs false
namespace Go.Proofs.YtjpbjbcdobibbaaDoor.J
open Go.RowKit Go.Proofs.YtjpbjbcdobibbaaDoorW.PrintWords Go.Proofs.YtjpbjbcdobibbaaDoorW.PrintLast Go.Proofs.YtjpbjbcdobibbaaDoorW.PrintMore Go.Proofs.YtjpbjbcdobibbaaDoor.Aid Go.Proofs.YtjpbjbcdobibbaaDoor.PFnJpUnescape
abbrev tBs : Nat := 56
abbrev tB : Nat := 5

/-! ### a slice that is read; a row that is written -/
/-- From ⟨b, o⟩ on the cells hold l. -/
def In (w : World) (b o : Nat) (l : L) : Prop := ∀ j, j < l.length → w.cell? ⟨b, o + j, none⟩ = some (.int .u8 (l.getD j 0))
theorem In.drop {w : World} {b o : Nat} {l : L} (h : In w b o l) (k : Nat) : In w b (o + k) (l.drop k) := by
  intro j hj
  rw [List.length_drop] at hj
  rw [getD_drop', Nat.add_assoc]
  exact h (k + j) (by omega)
theorem In.reads {w : World} {b o : Nat} {l : L} (h : In w b o l) (hl : l.length ≤ 9223372036854775807) : ReadsInt w .u8 (some ⟨b, o, none⟩) l.length l :=
  ⟨rfl, hl, fun _ => ⟨_, rfl, fun j hj => by
    have : (⟨b, o, none⟩ : Addr).add j = ⟨b, o + j, none⟩ := by unfold Addr.add; split <;> simp_all
    rw [this]; exact h j hj⟩⟩
theorem In.block {w w' : World} {b o : Nat} {l : L} (h : In w b o l) (e : w'.heap[b]? = w.heap[b]?) : In w' b o l := by
  intro j hj
  rw [← h j hj]
  unfold World.cell?
  simp only [e]
def Row (w : World) (g : Nat) (cur : List Value) : Prop := ∃ t, w.heap[g]? = some (.cells cur.toArray t (0, 0))
theorem Row.cell {w : World} {g : Nat} {cur : List Value} (h : Row w g cur) (i : Nat) : w.cell? ⟨g, i, none⟩ = cur[i]? := by
  obtain ⟨t, h⟩ := h
  rw [blk_cell h i]; simp
theorem Row.frozen {w : World} {g : Nat} {cur : List Value} (h : Row w g cur) (i : Nat) : w.frozen? ⟨g, i, none⟩ = false := by
  obtain ⟨t, h⟩ := h
  exact blk_frozen h i
theorem Row.set {w : World} {g : Nat} {cur : List Value} (h : Row w g cur) (i : Nat) (u : Value) : Row (w.setCell ⟨g, i, none⟩ u) g (cur.set i u) := by
  obtain ⟨t, h⟩ := h
  refine ⟨t, ?_⟩
  rw [blk_set h i u]; simp
theorem splice_nil {α : Type} (L : List α) (off : Nat) : splice L off [] = L := by simp [splice]
theorem splice_cons {α : Type} (L : List α) (off : Nat) (x : α) (xs : List α) (h : off < L.length) : splice L off (x :: xs) = splice (L.set off x) (off + 1) xs := by
  have e1 : (L.set off x).take (off + 1) = L.take off ++ [x] := by
    rw [List.take_succ_eq_append_getElem (by simpa using h)]
    simp [List.take_set_of_le]
  have e2 : (L.set off x).drop (off + 1 + xs.length) = L.drop (off + (xs.length + 1)) := by
    rw [List.drop_set_of_lt (by omega)]
    congr 1; omega
  unfold splice
  rw [e1, e2]
  simp
theorem Row.setCells {g : Nat} : ∀ (vs : List Value) (off : Nat) (w : World) (cur : List Value), Row w g cur → off + vs.length ≤ cur.length → Row (w.setCells g off vs) g (splice cur off vs)
  | [], off, w, cur, h, _ => by rw [splice_nil]; exact h
  | v :: vs, off, w, cur, h, hl => by
    simp only [List.length_cons] at hl
    rw [splice_cons _ _ _ _ (by omega)]
    exact Row.setCells vs (off + 1) _ _ (h.set off v) (by rw [List.length_set]; omega)
theorem But.setCells {g : Nat} : ∀ (vs : List Value) (off : Nat) (w w' : World), But g w w' → But g w (w'.setCells g off vs)
  | [], off, w, w', h => h
  | v :: vs, off, w, w', h => But.setCells vs (off + 1) w _ (h.set off v)
theorem splice_snoc {α : Type} (L : List α) (off : Nat) (xs ys : List α) (h : off + xs.length ≤ L.length) : splice (splice L off xs) (off + xs.length) ys = splice L off (xs ++ ys) := by
  have h1 : (L.take off ++ xs).length = off + xs.length := by simp; omega
  unfold splice
  rw [← List.append_assoc (L.take off) xs, List.take_left' h1]
  rw [List.drop_append, h1]
  rw [show (L.take off ++ xs).drop (off + xs.length + ys.length) = [] from List.drop_eq_nil_of_le (by omega)]
  rw [List.nil_append, List.drop_drop, List.length_append, List.append_assoc, List.append_assoc]
  congr 3
  congr 1
  omega
/-- What stands behind a place is not asked. -/
theorem take_splice {α : Type} (L : List α) (off : Nat) (xs : List α) (h : off + xs.length ≤ L.length) : (splice L off xs).take (off + xs.length) = L.take off ++ xs := by
  unfold splice
  rw [← List.append_assoc, List.take_left' (by simp; omega)]

/-- A slice of bytes cut ahead: where its cells lie then. -/
theorem cut_gen {P : Program} (t e : TypeId) {i : TypeInfo} (ht : P.underlying t = some (.slice e)) (hi : P.info? e = some i) (hsz : i.size = 1) (b o n c k : Nat) (hk : k ≤ n) :
    ∃ o', (∀ W : World, (Instr.slice t (.slice (some ⟨b, o, none⟩) n c) (some (.int .i64 (k : Int))) none none).run P W = .ok (.slice (some ⟨b, o', none⟩) (n - k) (c - k)) W) ∧ (0 < n - k → n ≤ c → o' = o + k) := by
  refine ⟨if c = k then o else o + k, fun W => ?_, fun h h2 => by rw [if_neg (by omega)]⟩
  have hel : P.elem t = e := by simp [Program.elem, ht]
  have hu : P.underlying t = some (.slice (P.elem t)) := by rw [hel]; exact ht
  rw [run_slice_l W t _ n c hu .i64 (k : Int) (Int.natCast_nonneg _) (by omega), hel]
  by_cases e : c = k
  · simp [sizeOf, typeInfo, hi, hsz, sliced, Result.andThen, e]
  · simp [sizeOf, typeInfo, hi, hsz, sliced, Result.andThen, e]
    unfold Addr.add
    split <;> simp_all
theorem infoB : (Tryd.prog.info? tB).map (fun i => (i.zero, i.size, i.bytes)) = some (some (.int .u8 0), 1, 1) := by kernel_rfl
theorem cut_at (b o n c : Nat) (k : Nat) (hk : k ≤ n) : ∃ o', (∀ W : World, (Instr.slice tBs (.slice (some ⟨b, o, none⟩) n c) (some (.int .i64 (k : Int))) none none).run Tryd.prog W = .ok (.slice (some ⟨b, o', none⟩) (n - k) (c - k)) W) ∧ (0 < n - k → n ≤ c → o' = o + k) := by
  obtain ⟨i, hi, _, hsz, _⟩ := info_parts infoB
  exact cut_gen tBs tB Tryd.underlying56 hi hsz b o n c k hk

/-! ### a byte sought -/
/-- What is ahead of the first backslash; from it on. -/
def pl : L → L
  | [] => []
  | c :: t => if c = 92 then [] else c :: pl t
def rs : L → L
  | [] => []
  | c :: t => if c = 92 then c :: t else rs t
theorem pl_rs : ∀ l : L, pl l ++ rs l = l
  | [] => rfl
  | c :: t => by
    simp only [pl, rs]
    split
    · rfl
    · rw [List.cons_append, pl_rs t]
theorem rs_cons : ∀ {l : L}, rs l ≠ [] → ∃ t, rs l = 92 :: t
  | [], h => absurd rfl h
  | c :: t, h => by
    simp only [rs] at h ⊢
    split
    · rename_i e; exact ⟨t, by rw [e]⟩
    · rename_i e; rw [if_neg e] at h; exact rs_cons h
def ixB (l : L) : Int := if rs l = [] then -1 else ((pl l).length : Int)
theorem indexByte_ixB : ∀ l : L, (∀ x ∈ l, byt x) → Lib.indexByte (Lib.bytesOf l) (92 : Int).toNat.toUInt8 = ixB l
  | [], _ => rfl
  | c :: t, hb => by
    have ih := indexByte_ixB t (fun x hx => hb x (List.mem_cons_of_mem _ hx))
    obtain ⟨h0, h1⟩ := hb c List.mem_cons_self
    show (if UInt8.ofNat c.toNat == (92 : Int).toNat.toUInt8 then (0 : Int) else if Lib.indexByte (Lib.bytesOf t) _ == -1 then -1 else Lib.indexByte (Lib.bytesOf t) _ + 1) = _
    rw [ih]
    have hc : (UInt8.ofNat c.toNat == (92 : Int).toNat.toUInt8) = (c == 92) := by
      rw [Bool.eq_iff_iff, beq_iff_eq, beq_iff_eq]
      constructor
      · intro h
        have := congrArg UInt8.toNat h
        simp [UInt8.toNat_ofNat'] at this
        omega
      · rintro rfl; rfl
    rw [hc]
    unfold ixB
    by_cases e : c = 92
    · subst e
      have r1 : rs (92 :: t) = 92 :: t := by simp [rs]
      have p1 : pl (92 :: t) = [] := by simp [pl]
      rw [r1, p1]
      simp
    · have e' : (c == 92) = false := beq_eq_false_iff_ne.mpr e
      have r1 : rs (c :: t) = rs t := by simp [rs, e]
      have p1 : pl (c :: t) = c :: pl t := by simp [pl, e]
      rw [e', r1, p1]
      simp only [Bool.false_eq_true, if_false]
      by_cases h : rs t = []
      · rw [if_pos h, if_pos h]; rfl
      · rw [if_neg h, if_neg h]
        have : ¬ (((pl t).length : Int) == -1) = true := by rw [beq_iff_eq]; omega
        rw [if_neg this]; simp
theorem pl_ne : ∀ (l : L), ∀ x ∈ pl l, x ≠ 92
  | [], x, hx => by cases hx
  | c :: t, x, hx => by
    simp only [pl] at hx
    split at hx
    · cases hx
    · rename_i e
      rcases List.mem_cons.1 hx with rfl | hx
      · exact e
      · exact pl_ne t x hx
theorem pu_app : ∀ (p r : L), (∀ x ∈ p, x ≠ 92) → pu (p ++ r) = (pu r).map (p ++ ·)
  | [], r, _ => by simp
  | c :: p, r, h => by
    rw [List.cons_append, pu_plain _ (h c List.mem_cons_self), pu_app p r (fun x hx => h x (List.mem_cons_of_mem _ hx))]
    cases pu r <;> rfl
theorem pu_pl (l : L) : pu l = (pu (rs l)).map (pl l ++ ·) := by
  conv => lhs; rw [← pl_rs l]
  exact pu_app _ _ (pl_ne l)
theorem IndexByte_any (b o c : Nat) (l : L) (w : World) (hb : ∀ x ∈ l, byt x) (hi : In w b o l) :
    Calls Tryd.prog 54 #[.slice (some ⟨b, o, none⟩) l.length c, .int .u8 92] w fun e w' => e = .returned (.int .i64 (ixB l)) ∧ w' = w := by
  have := Tryd.bytes_IndexByte b o l.length c l 92 w rfl hi
  rwa [indexByte_ixB l hb] at this

/-! ### a character written -/
def wasWritten (g off : Nat) (cur : List Value) (o : L) (w : World) (e : Ending) (w' : World) : Prop := e = .returned (.int .i64 o.length) ∧ Row w' g (splice cur off (nums .u8 o)) ∧ But g w w'
theorem wasWritten.mk {g off : Nat} {cur : List Value} {o : L} {w : World} (h : Row w g cur) (hl : off + o.length ≤ cur.length) : wasWritten g off cur o w (.returned (.int .i64 o.length)) (w.setCells g off (nums .u8 o)) :=
  ⟨rfl, Row.setCells _ _ _ _ h (by unfold nums; rw [List.length_map]; exact hl), But.setCells _ _ _ _ (But.refl _ _)⟩
set_option maxHeartbeats 4000000 in
set_option maxRecDepth 100000 in
theorem encN_any (g off n c : Nat) (r : Int) (cur : List Value) (w : World) (h0 : 128 ≤ r) (h1 : r ≤ 1114111) (h : Row w g cur) (hn : off + n ≤ cur.length) (hl : (utf8 r).length ≤ n) :
    Calls Tryd.prog 69 #[.slice (some ⟨g, off, none⟩) n c, .int .i32 r] w (wasWritten g off cur (utf8 r) w) := by
  have H := Lib.hid h
  have hsome : ∀ j, j < n → ∃ v, w.cell? ⟨g, off + j, none⟩ = some v := fun j hj => ⟨_, (h.cell _).trans (List.getElem?_eq_getElem (by omega))⟩
  have hfr : ∀ j, w.frozen? ⟨g, off + j, none⟩ = false := fun j => h.frozen _
  clear h
  by_cases c1 : r ≤ 2047
  · have e : utf8 r = [192 + r / 64, 128 + r % 64] := by unfold utf8; rw [if_neg (by omega), if_pos (by omega)]
    rw [e] at hl ⊢
    simp only [List.length_cons, List.length_nil] at hl
    obtain ⟨v0, hc0⟩ := hsome 0 (by omega); have hf0 := hfr 0
    obtain ⟨v1, hc1⟩ := hsome 1 (by omega); have hf1 := hfr 1
    simp only [Nat.add_zero] at hc0 hf0
    have K := Lib.hid (wasWritten.mk (off := off) (o := [192 + r / 64, 128 + r % 64]) H.out (by simp; omega))
    clear hsome hfr e
    go_enter Tryd.func69, Tryd.ntmps69
    go_wp2
    go_ret
    exact K.out
  by_cases s : 55296 ≤ r ∧ r ≤ 57343
  · obtain ⟨s1, s2⟩ := s
    have e : utf8 r = [239, 191, 189] := utf8_sur (by unfold high low; simp; omega)
    rw [e] at hl ⊢
    simp only [List.length_cons, List.length_nil] at hl
    obtain ⟨v0, hc0⟩ := hsome 0 (by omega); have hf0 := hfr 0
    obtain ⟨v1, hc1⟩ := hsome 1 (by omega); have hf1 := hfr 1
    obtain ⟨v2, hc2⟩ := hsome 2 (by omega); have hf2 := hfr 2
    simp only [Nat.add_zero] at hc0 hf0
    have K := Lib.hid (wasWritten.mk (off := off) (o := [239, 191, 189]) H.out (by simp; omega))
    clear hsome hfr e
    go_enter Tryd.func69, Tryd.ntmps69
    go_wp2
    go_ret
    exact K.out
  have sur : ¬ (high r = true ∨ low r = true) := by unfold high low; simp; omega
  by_cases c2 : r ≤ 65535
  · have e : utf8 r = [224 + r / 4096, 128 + r / 64 % 64, 128 + r % 64] := by unfold utf8; rw [if_neg (by omega), if_neg (by omega), if_neg sur, if_pos (by omega)]
    rw [e] at hl ⊢
    simp only [List.length_cons, List.length_nil] at hl
    obtain ⟨v0, hc0⟩ := hsome 0 (by omega); have hf0 := hfr 0
    obtain ⟨v1, hc1⟩ := hsome 1 (by omega); have hf1 := hfr 1
    obtain ⟨v2, hc2⟩ := hsome 2 (by omega); have hf2 := hfr 2
    simp only [Nat.add_zero] at hc0 hf0
    have K := Lib.hid (wasWritten.mk (off := off) (o := [224 + r / 4096, 128 + r / 64 % 64, 128 + r % 64]) H.out (by simp; omega))
    clear hsome hfr e
    rcases (show r < 55296 ∨ 57343 < r by omega) with hh | hh
    · clear s sur
      go_enter Tryd.func69, Tryd.ntmps69
      go_wp2
      go_ret
      exact K.out
    · clear s sur
      go_enter Tryd.func69, Tryd.ntmps69
      go_wp2
      go_ret
      exact K.out
  · have e : utf8 r = [240 + r / 262144, 128 + r / 4096 % 64, 128 + r / 64 % 64, 128 + r % 64] := by unfold utf8; rw [if_neg (by omega), if_neg (by omega), if_neg sur, if_neg (by omega)]
    rw [e] at hl ⊢
    simp only [List.length_cons, List.length_nil] at hl
    obtain ⟨v0, hc0⟩ := hsome 0 (by omega); have hf0 := hfr 0
    obtain ⟨v1, hc1⟩ := hsome 1 (by omega); have hf1 := hfr 1
    obtain ⟨v2, hc2⟩ := hsome 2 (by omega); have hf2 := hfr 2
    obtain ⟨v3, hc3⟩ := hsome 3 (by omega); have hf3 := hfr 3
    simp only [Nat.add_zero] at hc0 hf0
    have K := Lib.hid (wasWritten.mk (off := off) (o := [240 + r / 262144, 128 + r / 4096 % 64, 128 + r / 64 % 64, 128 + r % 64]) H.out (by simp; omega))
    clear hsome hfr e s sur
    go_enter Tryd.func69, Tryd.ntmps69
    go_wp2
    go_ret
    exact K.out
set_option maxHeartbeats 4000000 in
set_option maxRecDepth 100000 in
theorem enc_any (g off n c : Nat) (r : Int) (cur : List Value) (w : World) (h0 : 0 ≤ r) (h1 : r ≤ 1114111) (h : Row w g cur) (hn : off + n ≤ cur.length) (hl : (utf8 r).length ≤ n) :
    Calls Tryd.prog 62 #[.slice (some ⟨g, off, none⟩) n c, .int .i32 r] w (wasWritten g off cur (utf8 r) w) := by
  by_cases c1 : r ≤ 127
  · have e : utf8 r = [r] := by unfold utf8; rw [if_pos (by omega)]
    rw [e] at hl ⊢
    simp only [List.length_cons, List.length_nil] at hl
    obtain ⟨v0, hc0⟩ : ∃ v, w.cell? ⟨g, off, none⟩ = some v := ⟨_, (h.cell _).trans (List.getElem?_eq_getElem (by omega))⟩
    have hf0 := h.frozen off
    have K := Lib.hid (wasWritten.mk (off := off) (o := [r]) h (by simp; omega))
    clear e h
    go_enter Tryd.func62, Tryd.ntmps62
    go_wp2
    go_ret
    exact K.out
  · have H := Lib.hid h
    clear h
    go_enter Tryd.func62, Tryd.ntmps62
    go_wp2_with (go_at_call 69; refine (encN_any g off n c r cur _ (by omega) h1 H.out hn hl).mono ?_; rintro e w' ⟨rfl, k⟩; replace k := Lib.hid k)
    go_ret
    exact ⟨rfl, k.out⟩
end Go.Proofs.YtjpbjbcdobibbaaDoor.J

/- The walks of the parser's unescaping: one escape. -/
set_option linter.unusedVariables false
set_option linter.unusedSimpArgs false
namespace Go.Proofs.YtjpbjbcdobibbaaDoor.J
open Go.RowKit Go.Proofs.YtjpbjbcdobibbaaDoorW.PrintWords Go.Proofs.YtjpbjbcdobibbaaDoorW.PrintLast Go.Proofs.YtjpbjbcdobibbaaDoorW.PrintMore Go.Proofs.YtjpbjbcdobibbaaDoor.Aid Go.Proofs.YtjpbjbcdobibbaaDoor.PFnJpUnescape

/-- The table of the letters behind a backslash. -/
def Tab (w : World) : Prop := ∀ c : Int, plainEsc c = true → w.cell? ⟨3, c.toNat, none⟩ = some (.int .u8 (short c))
def cfg0 : Value := .agg #[.bool false, .bool false, .int .i64 0]
def UePost (g off : Nat) (cur : List Value) (w : World) (r : Option (Nat × L)) (e : Ending) (w' : World) : Prop :=
  But g w w' ∧ Row w' g (match r with | none => cur | some x => splice cur off (nums .u8 x.2)) ∧
  e = .returned (match r with | none => .tuple #[.int .i64 (-1), .int .i64 (-1)] | some x => .tuple #[.int .i64 (x.1 : Nat), .int .i64 x.2.length])
theorem But.drew0 {g : Nat} {a b c : World} (h : But g a b) (k : Drawn0 b c) : But g a c := by
  obtain ⟨n, rfl⟩ := k.out
  exact h.drewN n
theorem Row.drew0 {g : Nat} {b c : World} {cur : List Value} (h : Row b g cur) (k : Drawn0 b c) : Row c g cur := by
  obtain ⟨n, rfl⟩ := k.out
  exact h
theorem Row.alloc {g : Nat} {w : World} {cur : List Value} (h : Row w g cur) (o : Obj) : Row (w.alloc o) g cur := by
  obtain ⟨t, h⟩ := h
  exact ⟨t, blk_alloc h o⟩
theorem Row.lt {g : Nat} {w : World} {cur : List Value} (h : Row w g cur) : g < w.heap.size := by
  obtain ⟨t, h⟩ := h
  exact blk_lt h
theorem In.alloc {w : World} {b o : Nat} {l : L} (h : In w b o l) (x : Obj) : In (w.alloc x) b o l := fun j hj => pw_cell_below ((Below.refl _ _).alloc (Nat.le_refl _) x) (h j hj)

set_option maxHeartbeats 4000000 in
set_option maxRecDepth 100000 in
theorem ue_plain (b o c g off n cO : Nat) (l : L) (cur : List Value) (w : World) (x : Int) (hx : plainEsc x = true) (hl2 : 2 ≤ l.length) (h0 : l.getD 0 0 = 92) (h1 : l.getD 1 0 = x) (hlm : l.length ≤ 4294967296)
    (hi : In w b o l) (hr : Row w g cur) (hn : off + n ≤ cur.length) (hn1 : 1 ≤ n) (hT : Tab w) :
    Calls Tryd.prog 55 #[cfg0, .slice (some ⟨b, o, none⟩) l.length c, .slice (some ⟨g, off, none⟩) n cO] w (UePost g off cur w (some (2, [short x]))) := by
  have c0 := hi 0 (by omega)
  have c1 := hi 1 (by omega)
  rw [h0] at c0
  rw [h1] at c1
  simp only [Nat.add_zero] at c0
  have t := hT x hx
  have hbw : b < w.heap.size := block_lt_of_cell c1
  have h3w : 3 < w.heap.size := block_lt_of_cell t
  have hgw : g < w.heap.size := hr.lt
  obtain ⟨v0, hc0⟩ : ∃ v, w.cell? ⟨g, off, none⟩ = some v := ⟨_, (hr.cell _).trans (List.getElem?_eq_getElem (by omega))⟩
  have hf0 := hr.frozen off
  have hx' : x = 34 ∨ x = 92 ∨ x = 47 ∨ x = 98 ∨ x = 102 ∨ x = 110 ∨ x = 114 ∨ x = 116 := by unfold plainEsc at hx; simpa [or_assoc] using hx
  have R := Lib.hid hr
  have fin : Hid (∀ ob : Obj, UePost g off cur w (some (2, [short x])) (.returned (.tuple #[.int .i64 2, .int .i64 1])) ((w.setCell ⟨g, off, none⟩ (.int .u8 (short x))).alloc ob)) := Lib.hid (fun ob => ⟨((But.refl g w).set off _).alloc ob, by
    show Row _ g (splice cur off (nums .u8 [short x]))
    rw [show nums .u8 [short x] = [.int .u8 (short x)] from rfl, splice_cons _ _ _ _ (by omega), splice_nil]
    exact (R.out.set off _).alloc ob, rfl⟩)
  have hd0 : decide ((l.length : Int) < 2) = false := decide_eq_false (by omega)
  clear hi hr hT h0 h1 hx
  unfold cfg0
  rcases hx' with rfl | rfl | rfl | rfl | rfl | rfl | rfl | rfl
  all_goals
    simp only [Int.reduceToNat] at t
    go_enter Tryd.func55, Tryd.ntmps55
    go_wp2
    go_ret2
    exact fin.out _

set_option maxHeartbeats 4000000 in
set_option maxRecDepth 100000 in
theorem ue_none (b o c g off n cO : Nat) (l : L) (cur : List Value) (w : World) (hl1 : 1 ≤ l.length) (h0 : l.getD 0 0 = 92) (hu : l.length < 2 ∨ (¬ plainEsc (l.getD 1 0) = true ∧ l.getD 1 0 ≠ 117)) (hlm : l.length ≤ 4294967296)
    (hi : In w b o l) (hr : Row w g cur) :
    Calls Tryd.prog 55 #[cfg0, .slice (some ⟨b, o, none⟩) l.length c, .slice (some ⟨g, off, none⟩) n cO] w (UePost g off cur w none) := by
  have R := Lib.hid hr
  have fin : Hid (∀ w1 : World, But g w w1 → Row w1 g cur → UePost g off cur w none (.returned (.tuple #[.int .i64 (-1), .int .i64 (-1)])) w1) := Lib.hid (fun w1 b1 r1 => ⟨b1, r1, rfl⟩)
  unfold cfg0
  by_cases h2 : l.length < 2
  · have hd0 : decide ((l.length : Int) < 2) = true := decide_eq_true (by omega)
    clear hi hr h0 hu
    go_enter Tryd.func55, Tryd.ntmps55
    go_wp2
    go_ret2
    exact fin.out _ ((But.refl g w).alloc _) (R.out.alloc _)
  · have c0 := hi 0 (by omega)
    have c1 := hi 1 (by omega)
    rw [h0] at c0
    simp only [Nat.add_zero] at c0
    have hbw : b < w.heap.size := block_lt_of_cell c1
    have hgw : g < w.heap.size := hr.lt
    obtain ⟨hp, hne⟩ := hu.resolve_left h2
    obtain ⟨x, hx⟩ : ∃ x, x = l.getD 1 0 := ⟨_, rfl⟩
    rw [← hx] at c1 hp hne
    unfold plainEsc at hp
    simp only [Bool.or_eq_true, not_or, Bool.not_eq_true] at hp
    obtain ⟨⟨⟨⟨⟨⟨⟨p1, p2⟩, p3⟩, p4⟩, p5⟩, p6⟩, p7⟩, p8⟩ := hp
    have hd0 : decide ((l.length : Int) < 2) = false := decide_eq_false (by omega)
    have p9 : (x == 117) = false := beq_eq_false_iff_ne.mpr hne
    clear hi hr h0 hu hx hne
    by_cases e : x = 39
    · subst e
      clear p1 p2 p3 p4 p5 p6 p7 p8 p9
      go_enter Tryd.func55, Tryd.ntmps55
      go_wp2
      go_ret2
      exact fin.out _ ((But.refl g w).alloc _) (R.out.alloc _)
    · have p10 : (x == 39) = false := beq_eq_false_iff_ne.mpr e
      clear e
      go_enter Tryd.func55, Tryd.ntmps55
      go_wp2
      go_ret2
      exact fin.out _ ((But.refl g w).alloc _) (R.out.alloc _)

set_option maxHeartbeats 4000000 in
set_option maxRecDepth 100000 in
theorem ue_u (b o c g off n cO : Nat) (l : L) (cur : List Value) (w : World) (hb : ∀ x ∈ l, byt x) (hl2 : 2 ≤ l.length) (h0 : l.getD 0 0 = 92) (h1 : l.getD 1 0 = 117) (hlm : l.length ≤ 4294967296) (hlc : l.length ≤ c)
    (hi : In w b o l) (hr : Row w g cur) (hn : off + n ≤ cur.length) (hln : l.length ≤ n) :
    Calls Tryd.prog 55 #[cfg0, .slice (some ⟨b, o, none⟩) l.length c, .slice (some ⟨g, off, none⟩) n cO] w (UePost g off cur w (ue l)) := by
  have R := Lib.hid hr
  have c0 := hi 0 (by omega)
  have c1 := hi 1 (by omega)
  rw [h0] at c0
  rw [h1] at c1
  simp only [Nat.add_zero] at c0
  have HD : Hid (∀ W, In W b o l → Calls Tryd.prog 61 #[.slice (some ⟨b, o, none⟩) l.length c] W fun e w' => e = .returned (.tuple #[.int .i32 (duc l).1, .int .i64 (duc l).2]) ∧ Drawn0 W w') :=
    Lib.hid (fun W hW => jsonparser_decodeUnicodeEscape.calls 3 _ c l _ _ W (Kd.C_of_reads (hW.reads (by omega))) hlc (duc_f 0 l hb))
  have HI := Lib.hid hi
  have hbw : b < w.heap.size := block_lt_of_cell c1
  have hgw : g < w.heap.size := hr.lt
  have hd0 : decide ((l.length : Int) < 2) = false := decide_eq_false (by omega)
  unfold cfg0
  rcases duc_ue hl2 h0 h1 with ⟨hu, e2⟩ | ⟨k, oo, hu, e2, eo, r0, r1⟩
  · rw [hu]
    have fin : Hid (∀ w1 : World, But g w w1 → Row w1 g cur → UePost g off cur w none (.returned (.tuple #[.int .i64 (-1), .int .i64 (-1)])) w1) := Lib.hid (fun w1 b1 r1 => ⟨b1, r1, rfl⟩)
    rw [e2] at HD
    clear hi hr h0 h1 hu e2 hb
    go_enter Tryd.func55, Tryd.ntmps55
    go_wp2_with (go_at_call 61; refine (HD.out _ (HI.out.alloc _)).mono ?_; rintro e w1 ⟨rfl, hd⟩; replace hd := Lib.hid hd)
    go_ret2
    exact fin.out _ (((But.refl g w).alloc _).drew0 hd.out) ((R.out.alloc _).drew0 hd.out)
  · rw [hu]
    have pos := ue_pos hu
    have fin : Hid (∀ (w1 w2 : World) (e : Ending), But g w w1 → wasWritten g off cur oo w1 e w2 → e = .returned (.int .i64 oo.length) ∧ UePost g off cur w (some (k, oo)) (.returned (.tuple #[.int .i64 (k : Nat), .int .i64 oo.length])) w2) :=
      Lib.hid (fun w1 w2 e b1 h2 => ⟨h2.1, b1.trans h2.2.2, h2.2.1, rfl⟩)
    have hk : ((k : Int) == -1) = false := beq_eq_false_iff_ne.mpr (by omega)
    rw [e2] at HD
    have hol : (utf8 (duc l).1).length ≤ n := by rw [← eo]; omega
    have EO := Lib.hid eo
    clear hi hr h0 h1 hu e2 hb eo pos
    go_enter Tryd.func55, Tryd.ntmps55
    go_wp2_with (first | (go_at_call 61; refine (HD.out _ (HI.out.alloc _)).mono ?_; rintro e w1 ⟨rfl, hd⟩; replace hd := Lib.hid hd) | (go_at_call 62; refine (enc_any g off n cO (duc l).1 cur _ r0 r1 ((R.out.alloc _).drew0 hd.out) hn hol).mono ?_; rintro e w2 h2; rw [← EO.out] at h2; obtain ⟨rfl, h3⟩ := fin.out _ _ _ (((But.refl g w).alloc _).drew0 hd.out) h2; clear h2; replace h3 := Lib.hid h3))
    go_ret2
    exact h3.out

theorem ue_any (b o c g off n cO : Nat) (l : L) (cur : List Value) (w : World) (hb : ∀ x ∈ l, byt x) (hl1 : 1 ≤ l.length) (h0 : l.getD 0 0 = 92) (hlm : l.length ≤ 4294967296) (hlc : l.length ≤ c)
    (hi : In w b o l) (hr : Row w g cur) (hn : off + n ≤ cur.length) (hln : l.length ≤ n) (hT : Tab w) :
    Calls Tryd.prog 55 #[cfg0, .slice (some ⟨b, o, none⟩) l.length c, .slice (some ⟨g, off, none⟩) n cO] w (UePost g off cur w (ue l)) := by
  by_cases h2 : l.length < 2
  · have e : ue l = none := by unfold ue; rw [if_pos h2]
    rw [e]
    exact ue_none b o c g off n cO l cur w hl1 h0 (.inl h2) hlm hi hr
  by_cases hp : plainEsc (l.getD 1 0) = true
  · have e : ue l = some (2, [short (l.getD 1 0)]) := by unfold ue; rw [if_neg h2, if_pos hp]
    rw [e]
    exact ue_plain b o c g off n cO l cur w _ hp (by omega) h0 rfl hlm hi hr hn (by omega) hT
  by_cases hu : l.getD 1 0 = 117
  · exact ue_u b o c g off n cO l cur w hb (by omega) h0 hu hlm hlc hi hr hn hln
  · have e : ue l = none := by unfold ue; rw [if_neg h2, if_neg hp, if_neg hu]
    rw [e]
    exact ue_none b o c g off n cO l cur w hl1 h0 (.inr ⟨hp, hu⟩) hlm hi hr
end Go.Proofs.YtjpbjbcdobibbaaDoor.J

/- The walks of the parser's unescaping: the loop. -/
set_option linter.unusedVariables false
set_option linter.unusedSimpArgs false
namespace Go.Proofs.YtjpbjbcdobibbaaDoor.J
open Go.RowKit Go.Proofs.YtjpbjbcdobibbaaDoorW.PrintWords Go.Proofs.YtjpbjbcdobibbaaDoorW.PrintLast Go.Proofs.YtjpbjbcdobibbaaDoorW.PrintMore Go.Proofs.YtjpbjbcdobibbaaDoor.Aid Go.Proofs.YtjpbjbcdobibbaaDoor.PFnJpUnescape

theorem But.heap_b {g b : Nat} {w w' : World} (h : But g w w') (hb : b < w.heap.size) (hne : b ≠ g) : w'.heap[b]? = w.heap[b]? := h.block b hb hne
theorem but_setRow {g : Nat} (w : World) (cs : Array Value) : But g w (w.setRow g cs) :=
  ⟨rfl, rfl, rfl, by simp [World.setRow], fun k hk hne => setRow_other w g k cs hne⟩
section
variable {ops : Array Oper} {rest : List Oper} {o : Oper} {a : Act} {Q : Exit → Act → World → Prop}
/-- copy(buf, src): src no longer than buf. -/
theorem copy_any {W : World} (hgd : o.guard = none) (d s : Operand) (ho : o.op = .call { callee := .builtin .copy, args := #[d, s], argTypes := #[tBs, tBs] })
    (g oA n cd b ob cs off : Nat) (q : L) (cur : List Value) (hd : a.eval d = .slice (some ⟨g, oA, none⟩) n cd) (hs : a.eval s = .slice (some ⟨b, ob, none⟩) q.length cs)
    (hR : Row W g cur) (hI : In W b ob q) (hq : q.length ≤ n) (hoff : 0 < n → oA = off) (hn : off + n ≤ cur.length)
    (h : ∀ w1, Row w1 g (splice cur off (nums .u8 q)) → But g W w1 → wpList Tryd.prog ops Q rest (a.put o.dst (goInt q.length)) w1) : wpList Tryd.prog ops Q (o :: rest) a W := by
  obtain ⟨i0, hi, _, hz1, _⟩ := info_parts infoB
  have hsz : (Tryd.prog.info? tB).map (·.size) = some 1 := by rw [hi]; simp [hz1]
  by_cases h0 : q.length = 0
  · obtain rfl : q = [] := List.eq_nil_of_length_eq_zero h0
    refine wpList_copy_nothing hgd d s tBs tBs ho tB Tryd.underlying56 hsz _ _ n cd 0 cs hd hs (by simp) ?_
    exact h W (by rw [show nums .u8 ([] : L) = [] from rfl, splice_nil]; exact hR) (But.refl _ _)
  · obtain rfl := hoff (by omega)
    obtain ⟨tt, hR⟩ := hR
    have hl : (nums .u8 q).length = q.length := by simp [nums]
    have hmin : Nat.min q.length n = q.length := Nat.min_eq_left hq
    refine wpList_copy_own hgd d s tBs tBs ho tB Tryd.underlying56 hsz g oA n cd ⟨b, ob, none⟩ q.length cs hd hs cur.toArray tt hR (nums .u8 q) (by rw [hl]; exact hmin.symm) ?_ (by rw [hl]; simpa using (by omega : oA + q.length ≤ cur.length)) (by simp [nums, Value.oneCell']) ?_
    · intro j v hj
      have hjl : j < q.length := by have := (List.getElem?_eq_some_iff.1 hj).1; rwa [hl] at this
      have e : (⟨b, ob, none⟩ : Addr).add j = ⟨b, ob + j, none⟩ := by unfold Addr.add; split <;> simp_all
      rw [e, hI j hjl, ← hj]
      simp [nums, List.getD_eq_getElem?_getD, List.getElem?_eq_getElem hjl]
    · rw [hl]
      refine h _ ?_ (but_setRow W _)
      have := setRow_heap W g cur.toArray (splice cur oA (nums .u8 q)).toArray tt (0, 0) hR
      unfold splice at this
      refine ⟨tt, ?_⟩
      rw [hl] at this
      simpa [splice, hl] using this
end

/-- Cut ahead: a list's name behind it. -/
theorem cut_in (b o c : Nat) (l : L) (k : Nat) (hk : k ≤ l.length) (hc : l.length ≤ c) : ∃ o' r c', r = l.drop k ∧ r.length + k = l.length ∧ r.length ≤ c' ∧
    (∀ W : World, (Instr.slice tBs (.slice (some ⟨b, o, none⟩) l.length c) (some (.int .i64 (k : Int))) none none).run Tryd.prog W = .ok (.slice (some ⟨b, o', none⟩) r.length c') W) ∧ (∀ w, In w b o l → In w b o' r) := by
  obtain ⟨o', h1, h2⟩ := cut_at b o l.length c k hk
  refine ⟨o', l.drop k, c - k, rfl, by rw [List.length_drop]; omega, by rw [List.length_drop]; omega, fun W => by rw [List.length_drop]; exact h1 W, fun w hi => ?_⟩
  by_cases h0 : 0 < l.length - k
  · rw [h2 h0 hc]; exact hi.drop k
  · intro j hj; rw [List.length_drop] at hj; omega
/-- The buffer cut ahead. -/
theorem cut_buf (g oA n c off : Nat) (k : Nat) (hk : k ≤ n) (hc : n ≤ c) (ho : 0 < n → oA = off) : ∃ o' n' c', n' + k = n ∧ n' ≤ c' ∧ (0 < n' → o' = off + k) ∧
    (∀ W : World, (Instr.slice tBs (.slice (some ⟨g, oA, none⟩) n c) (some (.int .i64 (k : Int))) none none).run Tryd.prog W = .ok (.slice (some ⟨g, o', none⟩) n' c') W) := by
  obtain ⟨o', h1, h2⟩ := cut_at g oA n c k hk
  exact ⟨o', n - k, c - k, by omega, by omega, fun h => by rw [h2 h hc, ho (by omega)], h1⟩
/-- Cut behind. -/
theorem cut_to (b o n c : Nat) (k : Nat) (hk : k ≤ n) (hc : n ≤ c) : ∀ W : World, (Instr.slice tBs (.slice (some ⟨b, o, none⟩) n c) none (some (.int .i64 (k : Int))) none).run Tryd.prog W = .ok (.slice (some ⟨b, o, none⟩) k c) W := by
  intro W
  obtain ⟨i, hi, _, hsz, _⟩ := info_parts infoB
  have h := (print_take_int (k := .u8) (P := Tryd.prog) tBs tB Tryd.underlying56 hi hsz (some ⟨b, o, none⟩) c (List.replicate n 0) (k : Int) (by omega) (by simp; omega) (by simp; omega)).1 W
  simp only [List.length_replicate, Int.toNat_natCast, List.length_take, Nat.min_eq_left hk] at h
  exact h

theorem pl_take (l : L) : l.take (pl l).length = pl l := by
  have := List.take_left (l₁ := pl l) (l₂ := rs l)
  rwa [pl_rs] at this
theorem rs_drop (l : L) : l.drop (pl l).length = rs l := by
  have := List.drop_left (l₁ := pl l) (l₂ := rs l)
  rwa [pl_rs] at this
theorem pl_rs_len (l : L) : (pl l).length + (rs l).length = l.length := by
  have := congrArg List.length (pl_rs l)
  rw [List.length_append] at this
  exact this
theorem In.take {w : World} {b o : Nat} {l : L} (h : In w b o l) (k : Nat) (hk : k ≤ l.length) : In w b o (l.take k) := by
  intro j hj
  rw [List.length_take] at hj
  rw [h j (by omega), List.getD_eq_getElem?_getD, List.getD_eq_getElem?_getD, List.getElem?_take_of_lt (by omega)]
theorem In.of_row {w : World} {g : Nat} {cur : List Value} {E : L} (h : Row w g cur) (he : cur.take E.length = nums .u8 E) : In w g 0 E := by
  intro j hj
  rw [Nat.zero_add, h.cell j]
  have : (cur.take E.length)[j]? = (nums .u8 E)[j]? := by rw [he]
  rw [List.getElem?_take_of_lt hj] at this
  rw [this]
  simp [nums, List.getD_eq_getElem?_getD, List.getElem?_eq_getElem hj]

theorem made_arr (n : Nat) (v : Value) : madeCells #[v] n = (List.replicate n v).toArray := by
  simp [madeCells, Nat.mod_one]
  apply Array.ext
  · simp
  · intro i h1 h2; simp
theorem In.but {w w' : World} {b o g : Nat} {l : L} (h : In w b o l) (k : But g w w') (hb : b < w.heap.size) (hne : b ≠ g) : In w' b o l := h.block (k.block b hb hne)
theorem take_splice' (cur : List Value) (E o : L) (hE : cur.take E.length = nums .u8 E) (hl : E.length + o.length ≤ cur.length) : (splice cur E.length (nums .u8 o)).take (E ++ o).length = nums .u8 (E ++ o) := by
  have h1 : (nums .u8 o).length = o.length := by simp [nums]
  have := take_splice cur E.length (nums .u8 o) (by rw [h1]; exact hl)
  rw [h1] at this
  rw [List.length_append, this, hE]
  simp [nums]
theorem Below.but {B g : Nat} {w0 w w' : World} (h : Below B w0 w) (k : But g w w') (hg : B ≤ g) (hs : B ≤ w.heap.size) : Below B w0 w' := h.trans (k.to_below hg hs)
/-- What is handed back: the bytes, or the error. -/
def UPost (B : Nat) (w0 : World) (r : Option L) (eV : Value) (e : Ending) (w' : World) : Prop :=
  Below B w0 w' ∧ match r with
    | none => e = .returned (.tuple #[.slice none 0 0, eV])
    | some q => ∃ b o c, e = .returned (.tuple #[.slice (some ⟨b, o, none⟩) q.length c, .nilIface]) ∧ In w' b o q ∧ q.length ≤ c
/-- At the loop's head: r is left to read, E is written. -/
def ULoop (B : Nat) (w0 wa : World) (b g N : Nat) (l : L) (kq : Nat) (v1 v9 : Value) (W : World) : Prop :=
  ∃ (o1 c1 oA n1 c2 : Nat) (r E : L) (cur : List Value), v1 = .slice (some ⟨b, o1, none⟩) r.length c1 ∧ v9 = .slice (some ⟨g, oA, none⟩) n1 c2 ∧ r.length = kq ∧ 1 ≤ r.length ∧ r.getD 0 0 = 92 ∧ (∀ x ∈ r, byt x) ∧ r.length ≤ c1 ∧ n1 ≤ c2 ∧
    (0 < n1 → oA = E.length) ∧ E.length + n1 = N ∧ r.length ≤ n1 ∧ N ≤ cur.length ∧ In W b o1 r ∧ Row W g cur ∧ cur.take E.length = nums .u8 E ∧ pu l = (pu r).map (E ++ ·) ∧ Below B w0 W ∧ But g wa W
end Go.Proofs.YtjpbjbcdobibbaaDoor.J

/- A row of bytes that a call writes, wherever it lies (an array variable's cells, too): append. -/
set_option linter.unusedVariables false
set_option linter.unusedSimpArgs false
namespace Go.Proofs.YtjpbjbcdobibbaaDoor.J
open Go.RowKit Go.Proofs.YtjpbjbcdobibbaaDoorW.PrintWords Go.Proofs.YtjpbjbcdobibbaaDoorW.PrintLast Go.Proofs.YtjpbjbcdobibbaaDoorW.PrintMore Go.Proofs.YtjpbjbcdobibbaaDoor.Aid

def OutT (w0 W : World) (v : Value) (xs : L) : Prop := Below w0.heap.size w0 W ∧ ∃ g cap cur, v = .slice (some ⟨g, 0, none⟩) xs.length cap ∧ w0.heap.size ≤ g ∧ Row W g cur ∧ xs.length ≤ cap ∧ cap = cur.length ∧ cap ≤ 9223372036854775807 ∧ cur.take xs.length = nums .u8 xs
theorem OutT.alloc {w0 W : World} {v : Value} {xs : L} (h : OutT w0 W v xs) (o : Obj) : OutT w0 (W.alloc o) v xs := by
  obtain ⟨hB, g, cap, cur, e, hg, hR, hl, hc, hm, ht⟩ := h
  exact ⟨hB.alloc hB.size o, g, cap, cur, e, hg, hR.alloc o, hl, hc, hm, ht⟩
theorem OutT.drewN {w0 W : World} {v : Value} {xs : L} (h : OutT w0 W v xs) (n : Nat) : OutT w0 (W.drewN n) v xs := by
  obtain ⟨hB, g, cap, cur, e, hg, hR, hl, hc, hm, ht⟩ := h
  exact ⟨pw_below_drewN hB n, g, cap, cur, e, hg, hR, hl, hc, hm, ht⟩
theorem OutT.drew {w0 W : World} {v : Value} {xs : L} (h : OutT w0 W v xs) : OutT w0 W.drew v xs := by
  have := h.drewN 1
  rwa [← World.drew_drewN, World.drewN_zero] at this
section
variable {ops : Array Oper} {rest : List Oper} {o : Oper} {a : Act} {Q : Exit → Act → World → Prop}
theorem wp_outT_src {K : Act → World → Prop} {w0 W : World} (s x : Operand) (tx : TypeId) (ho : o.op = .call { callee := .builtin .append, args := #[s, x], argTypes := #[tBs, tx] }) (v vx : Value) (ys xs : L)
    (hs : a.eval s = v) (hx : a.eval x = vx) (H : OutT w0 W v xs) (hsrc : Src Tryd.prog 1 tx vx ys.length (nums .u8 ys) W) (hl : xs.length + ys.length ≤ 4294967296)
    (h : ∀ v1 w1, OutT w0 w1 v1 (xs ++ ys) → K (a.put o.dst v1) w1) : o.wp Tryd.prog a W K Q := by
  obtain ⟨i, hi, hz0, hz1, hz2⟩ := info_parts infoB
  obtain ⟨hB, g, cap, cur, rfl, hg, hR, hlc, hc, hm, ht⟩ := H
  have hln : (nums .u8 ys).length = ys.length := by simp [nums]
  have hsrc' : Src Tryd.prog i.size tx vx ys.length (nums .u8 ys) W := by rw [hz1]; exact hsrc
  rcases Nat.lt_or_ge cap (xs.length + ys.length) with hgrow | hroom
  · have hold : (Builtin.firstCells i.size xs.length (.slice (some ⟨g, 0, none⟩) xs.length cap)).run Tryd.prog W.drew = .ok (nums .u8 xs).toArray W.drew := by
      rw [hz1]
      refine run_firstCells_some W.drew 1 xs.length ⟨g, 0, none⟩ xs.length cap (nums .u8 xs) (by simp [nums]) ?_
      intro j u hj
      have hjl : j < xs.length := by have := (List.getElem?_eq_some_iff.1 hj).1; simpa [nums] using this
      rw [add_plain, show W.drew.cell? ⟨g, j, none⟩ = W.cell? ⟨g, j, none⟩ from rfl, hR.cell, ← hj, ← ht, List.getElem?_take_of_lt hjl]
    have hrun := run_append_grow_src (P := Tryd.prog) W tBs tx o.type tB i (.int .u8 0) Tryd.underlying56 hi hz0 (some ⟨g, 0, none⟩) xs.length cap (nums .u8 xs) hold vx ys.length (nums .u8 ys) hsrc' hgrow (by omega) (growslice_fits hgrow (by rw [hz2]; omega))
    unfold Oper.wp execOp
    simp only [ho, resolve, invoke, builtin, Sem.run_bind, Sem.run_pure, Result.andThen_ok, List.map_toArray, List.map_cons, List.map_nil, hs, hx, hrun]
    refine h _ _ ?_
    have hge := grownCap_ge W (xs.length + ys.length) cap tB
    have hle : grownCap W (xs.length + ys.length) cap tB ≤ 9223372036854775807 := by
      have := grownCap_le_maxLen W (xs.length + ys.length) cap tB (by simp only [maxLen]; omega)
      simpa [maxLen] using this
    refine ⟨(hB.drew).alloc hB.size _, W.heap.size, grownCap W (xs.length + ys.length) cap tB, nums .u8 (xs ++ ys) ++ (Builtin.zeroCells (Value.int .u8 0).cells (grownCap W (xs.length + ys.length) cap tB - (xs.length + ys.length))).toList, ?_, hB.size, ⟨tB, ?_⟩, ?_, ?_, hle, ?_⟩
    · rw [List.length_append]
    · have := heap_alloc_new W.drew (.cells ((nums .u8 xs ++ nums .u8 ys).toArray ++ Builtin.zeroCells (Value.int .u8 0).cells (grownCap W (xs.length + ys.length) cap tB - (xs.length + ys.length))) tB)
      rw [show nums .u8 (xs ++ ys) = nums .u8 xs ++ nums .u8 ys by simp [nums]]
      have e : ((nums .u8 xs ++ nums .u8 ys) ++ (Builtin.zeroCells (Value.int .u8 0).cells (grownCap W (xs.length + ys.length) cap tB - (xs.length + ys.length))).toList).toArray = (nums .u8 xs ++ nums .u8 ys).toArray ++ Builtin.zeroCells (Value.int .u8 0).cells (grownCap W (xs.length + ys.length) cap tB - (xs.length + ys.length)) := by
        apply Array.ext'; simp
      rw [e]
      exact this
    · rw [List.length_append]; exact hge
    · have e1 : (nums .u8 (xs ++ ys)).length = xs.length + ys.length := by simp [nums]
      have e2 : (Builtin.zeroCells (Value.int .u8 0).cells (grownCap W (xs.length + ys.length) cap tB - (xs.length + ys.length))).toList.length = grownCap W (xs.length + ys.length) cap tB - (xs.length + ys.length) := by
        rw [Array.length_toList, size_zeroCells]; show _ * 1 = _; omega
      rw [List.length_append, e1, e2]; omega
    · have h1 : (nums .u8 (xs ++ ys)).length = (xs ++ ys).length := by simp [nums]
      rw [List.take_left' h1]
  · have hrun := run_append_room_src (P := Tryd.prog) W tBs tx o.type tB i Tryd.underlying56 hi g 0 xs.length cap vx ys.length (nums .u8 ys) hsrc' hroom
      (fun j hj => by rw [hz1, Nat.mul_one, Nat.zero_add, hR.cell, List.getElem?_eq_getElem (by rw [hln] at hj; omega)]; rfl) (fun j hj => by rw [hz1, Nat.mul_one, Nat.zero_add]; exact hR.frozen _)
    rw [hz1, Nat.mul_one, Nat.zero_add] at hrun
    unfold Oper.wp execOp
    simp only [ho, resolve, invoke, builtin, Sem.run_bind, Sem.run_pure, Result.andThen_ok, List.map_toArray, List.map_cons, List.map_nil, hs, hx, hrun]
    have hlt := hR.lt
    refine h _ _ ⟨Below.but hB (But.setCells _ _ _ _ (But.refl g W)) hg (by have := hB.size; omega), g, cap, splice cur xs.length (nums .u8 ys), by rw [List.length_append], hg, Row.setCells _ _ _ _ hR (by rw [hln]; omega), by rw [List.length_append]; exact hroom, ?_, hm, take_splice' cur xs ys ht (by omega)⟩
    rw [length_splice _ _ _ (by rw [hln]; omega)]; exact hc
theorem outT_src {w0 W : World} (hgd : o.guard = none) (s x : Operand) (tx : TypeId) (ho : o.op = .call { callee := .builtin .append, args := #[s, x], argTypes := #[tBs, tx] }) (v vx : Value) (ys xs : L)
    (hs : a.eval s = v) (hx : a.eval x = vx) (H : OutT w0 W v xs) (hsrc : Src Tryd.prog 1 tx vx ys.length (nums .u8 ys) W) (hl : xs.length + ys.length ≤ 4294967296)
    (h : ∀ v1 w1, OutT w0 w1 v1 (xs ++ ys) → wpList Tryd.prog ops Q rest (a.put o.dst v1) w1) : wpList Tryd.prog ops Q (o :: rest) a W :=
  wpList_plain hgd fun K hK => wp_outT_src s x tx ho v vx ys xs hs hx H hsrc hl (fun v1 w1 h1 => hK _ _ (h v1 w1 h1))
theorem lit_src (W : World) (ys : L) (c : Nat) : Src Tryd.prog 1 tBs (.slice (some ⟨W.heap.size, 0, none⟩) ys.length c) ys.length (nums .u8 ys) (W.alloc (.cells (nums .u8 ys).toArray tB)) := by
  refine Src.ofSlice _ Tryd.underlying56 _ ys.length c _ (by simp [nums]) ?_ (by simp [nums, Value.oneCell'])
  intro j u hj
  rw [add_plain]
  have h2 := heap_alloc_new W (.cells (nums .u8 ys).toArray tB)
  rw [cell_of_row (W.alloc (.cells (nums .u8 ys).toArray tB)) W.heap.size j (nums .u8 ys).toArray tB (0, 0) h2]
  simpa using hj
/-- append(s, lit..), the literal row just laid. -/
theorem outT_row {w0 W : World} (hgd : o.guard = none) (s x : Operand) (ho : o.op = .call { callee := .builtin .append, args := #[s, x], argTypes := #[tBs, tBs] }) (v : Value) (ys xs : L) (m c : Nat)
    (hs : a.eval s = v) (hx : a.eval x = .slice (some ⟨W.heap.size, 0, none⟩) m c) (hm : ys.length = m) (H : OutT w0 W v xs) (hl : xs.length + ys.length ≤ 4294967296)
    (h : ∀ v1 w1, OutT w0 w1 v1 (xs ++ ys) → wpList Tryd.prog ops Q rest (a.put o.dst v1) w1) : wpList Tryd.prog ops Q (o :: rest) a (W.alloc (.cells (nums .u8 ys).toArray tB)) :=
  outT_src hgd s x tBs ho v _ ys xs hs hx (H.alloc _) (by rw [← hm]; exact lit_src W ys c) hl h
/-- The same at a step of a region that draws. -/
theorem step_outT {K : Act → World → Prop} {EE : Prop} {w0 W : World} (hgd : o.guard = none) (s x : Operand) (ho : o.op = .call { callee := .builtin .append, args := #[s, x], argTypes := #[tBs, tBs] }) (v : Value) (ys xs : L) (m c : Nat)
    (hs : a.eval s = v) (hx : a.eval x = .slice (some ⟨W.heap.size, 0, none⟩) m c) (hm : ys.length = m) (H : OutT w0 W v xs) (hl : xs.length + ys.length ≤ 4294967296)
    (h : ∀ v1 w1, OutT w0 w1 v1 (xs ++ ys) → K (a.put o.dst v1) w1) :
    if Region.wanted o (yielded ops a.tmps) = true then Oper.wp Tryd.prog o a (W.alloc (.cells (nums .u8 ys).toArray tB)) K Q else EE := by
  have hw : Region.wanted o (yielded ops a.tmps) = true := by simp [Region.wanted, hgd]
  rw [if_pos hw]
  exact wp_outT_src s x tBs ho v _ ys xs hs hx (H.alloc _) (by rw [← hm]; exact lit_src W ys c) hl h
/-- append(s, "..."...) -/
theorem outT_str {w0 W : World} (hgd : o.guard = none) (s x : Operand) (ho : o.op = .call { callee := .builtin .append, args := #[s, x], argTypes := #[tBs, 9] }) (v : Value) (y : ByteArray) (xs : L)
    (hs : a.eval s = v) (hx : a.eval x = .string y) (H : OutT w0 W v xs) (hl : xs.length + y.size ≤ 4294967296)
    (h : ∀ v1 w1, OutT w0 w1 v1 (xs ++ bytesOf y) → wpList Tryd.prog ops Q rest (a.put o.dst v1) w1) : wpList Tryd.prog ops Q (o :: rest) a W := by
  refine outT_src hgd s x 9 ho v _ (bytesOf y) xs hs hx H ?_ (by rw [bytesOf_length]; omega) h
  have := Src.ofString (P := Tryd.prog) W (tx := 9) Tryd.underlying9 y
  rw [bytesOf_length]
  have e : byteCells y = nums .u8 (bytesOf y) := by simp [byteCells, nums, bytesOf]
  rwa [e] at this
end
/-- It reads as a slice. -/
theorem OutT.reads {w0 W : World} {v : Value} {xs : L} (h : OutT w0 W v xs) : ∃ g cap, v = .slice (some ⟨g, 0, none⟩) xs.length cap ∧ In W g 0 xs := by
  obtain ⟨hB, g, cap, cur, rfl, hg, hR, hl, hc, hm, ht⟩ := h
  exact ⟨g, cap, rfl, In.of_row hR ht⟩
end Go.Proofs.YtjpbjbcdobibbaaDoor.J

/- Characters in UTF-8: Go's decoder and the reference's. -/
set_option linter.unusedVariables false
namespace Go.Proofs.YtjpbjbcdobibbaaDoor.J
open Go.RowKit Go.Proofs.YtjpbjbcdobibbaaDoorW.PrintWords Go.Proofs.YtjpbjbcdobibbaaDoor.Aid Go.Proofs.YtjpbjbcdobibbaaDoor.PFnMtGuarded

theorem get_from (s : ByteArray) (i : Nat) : ((s.get! i).toNat : Int) = (bytesOf s).getD i 0 := by
  have e : s.data.toList.getD i 0 = s.get! i := by
    cases s with | mk d =>
    show d.toList.getD i 0 = d[i]!
    rw [List.getD_eq_getElem?_getD, Array.getElem?_toList, getElem!_def]
    cases d[i]? <;> rfl
  rw [← e]
  unfold bytesOf
  rw [List.getD_eq_getElem?_getD, List.getD_eq_getElem?_getD, List.getElem?_map]
  cases s.data.toList[i]? <;> rfl
theorem decodeGo_chr (s : ByteArray) {c : Int} {n : Nat} (h : chr (bytesOf s) = some (c, n)) : ((Lib.decodeGo s).1 : Int) = c ∧ (Lib.decodeGo s).2 = n := by
  have hs := chr_some h
  have hl := bytesOf_length s
  have e0 := get_from s 0
  have e1 := get_from s 1
  have e2 := get_from s 2
  have e3 := get_from s 3
  have r0 := (s.get! 0).toNat_lt
  have r1 := (s.get! 1).toNat_lt
  have r2 := (s.get! 2).toNat_lt
  have r3 := (s.get! 3).toNat_lt
  unfold Lib.decodeGo
  rw [if_neg (by omega), Lib.decode_at s 0]
  simp only [Nat.zero_add, Nat.sub_zero]
  rw [← hl]
  generalize (s.get! 0).toNat = b0 at *
  generalize (s.get! 1).toNat = b1 at *
  generalize (s.get! 2).toNat = b2 at *
  generalize (s.get! 3).toNat = b3 at *
  unfold chr at h
  rw [← e0, ← e1, ← e2, ← e3] at h
  unfold cont at h
  simp only [Bool.and_eq_true, decide_eq_true_eq] at h
  generalize (bytesOf s).length = z at *
  clear e0 e1 e2 e3 hs hl
  unfold Lib.decodeN
  split at h
  · cases h
  split at h
  · rw [if_pos (by omega)]
    simp only [Option.some.injEq, Prod.mk.injEq] at h
    exact ⟨by simp only []; omega, by simp only []; omega⟩
  split at h
  · split at h
    · simp only [Option.some.injEq, Prod.mk.injEq] at h
      rw [if_neg (by omega), if_pos (by omega), if_pos (by omega)]
      exact ⟨by simp only []; omega, by simp only []; omega⟩
    · cases h
  split at h
  · split at h
    · simp only [Option.some.injEq, Prod.mk.injEq] at h
      rw [if_neg (by omega), if_neg (by omega), if_pos (by omega), if_pos (by omega)]
      exact ⟨by simp only []; omega, by simp only []; omega⟩
    · cases h
  split at h
  · split at h
    · simp only [Option.some.injEq, Prod.mk.injEq] at h
      rw [if_neg (by omega), if_neg (by omega), if_neg (by omega), if_pos (by omega), if_pos (by omega)]
      exact ⟨by simp only []; omega, by simp only []; omega⟩
    · cases h
  · cases h

/-! ### the reference's Character and UTF8 -/
def chrR (l : L) : Int × Int × Bool := match chr l with | some (c, n) => (c, (n : Int), true) | none => (65533, 1, false)
theorem bt_from (s : ByteArray) (a i : Nat) : bt s ((a : Int) + (i : Int)) = (from_ s a).getD i 0 := by
  have := bytesOf_getD s (a + i)
  unfold from_
  rw [getD_drop', this]
  congr 1
theorem w64 {x : Int} (h0 : -1000000000000 ≤ x) (h1 : x ≤ 1000000000000) : wrap64 x = x := by unfold wrap64; omega
theorem l0_step (k : Nat) (s : ByteArray) (a : Nat) (x7 x9 : Int) (m i : Nat) (hs : s.size ≤ 2147483647) (hi : 1 ≤ i) (him : i ≤ m) (ham : a + m < s.size) (h0 : -1000000 ≤ x7) (h1 : x7 ≤ 1000000) :
    spec_Character.l0 (k + 1) s a x7 (m : Int) x9 (i : Int) = if cont ((from_ s a).getD i 0) = true then spec_Character.l0 k s a (x7 * 64 + (from_ s a).getD i 0 - 128) (m : Int) x9 ((i + 1 : Nat) : Int) else some (65533, 1, false) := by
  have hb : 0 ≤ (from_ s a).getD i 0 ∧ (from_ s a).getD i 0 ≤ 255 := from_byt s a _ (by rw [List.getD_eq_getElem?_getD, List.getElem?_eq_getElem (by rw [from_len]; omega)]; simp)
  simp only [spec_Character.l0]
  rw [if_pos (show (i : Int) ≤ (m : Int) by omega), w64 (x := (a : Int) + (i : Int)) (by omega) (by omega), if_pos (show (0 : Int) ≤ (a : Int) + (i : Int) by omega), if_pos (show (a : Int) + (i : Int) < (s.size : Int) by omega), bt_from]
  generalize (from_ s a).getD i 0 = b at *
  rw [w64 (x := b) (by omega) (by omega)]
  by_cases c1 : b < 128
  · rw [if_pos c1, if_neg (fun h => by have := cont_iff.1 h; omega)]
  · rw [if_neg c1]
    by_cases c2 : b > 191
    · rw [if_pos c2, if_neg (fun h => by have := cont_iff.1 h; omega)]
    · rw [if_neg c2, if_pos (cont_iff.2 ⟨by omega, by omega⟩), w64 (x := x7 * 64) (by omega) (by omega), w64 (x := x7 * 64 + b) (by omega) (by omega), w64 (x := x7 * 64 + b - 128) (by omega) (by omega), w64 (x := (i : Int) + 1) (by omega) (by omega)]
      rfl
theorem l0_end (k : Nat) (s : ByteArray) (a : Nat) (x7 x9 : Int) (m : Nat) (hm : m ≤ 3) :
    spec_Character.l0 (k + 1) s a x7 (m : Int) x9 ((m + 1 : Nat) : Int) = if x7 < x9 ∨ x7 > 1114111 ∨ (55296 ≤ x7 ∧ x7 ≤ 57343) then some (65533, 1, false) else some (x7, (m : Int) + 1, true) := by
  simp only [spec_Character.l0]
  rw [if_neg (show ¬ ((m + 1 : Nat) : Int) ≤ (m : Int) by omega)]
  unfold spec_high.f spec_low.f
  by_cases c1 : x7 < x9
  · rw [if_pos c1, if_pos (.inl c1)]
  rw [if_neg c1]
  by_cases c2 : x7 > 1114111
  · rw [if_pos c2, if_pos (.inr (.inl c2))]
  rw [if_neg c2, w64 (x := (m : Int) + 1) (by omega) (by omega)]
  by_cases c3 : 55296 ≤ x7
  · rw [if_pos c3, Option.bind_some]
    by_cases c4 : x7 ≤ 56319
    · rw [if_pos (decide_eq_true c4), if_pos (by omega)]
    · rw [if_neg (by simpa using c4)]
      rw [if_pos (show 56320 ≤ x7 by omega), Option.bind_some]
      by_cases c5 : x7 ≤ 57343
      · rw [if_pos (decide_eq_true c5), if_pos (by omega)]
      · rw [if_neg (by simpa using c5), if_neg (by omega)]
  · rw [if_neg c3, Option.bind_some, if_neg (by decide), if_neg (show ¬ 56320 ≤ x7 by omega), Option.bind_some, if_neg (by decide), if_neg (by omega)]
theorem Character_f (k : Nat) (s : ByteArray) (a : Nat) (hs : s.size ≤ 2147483647) (ha : a < s.size) : spec_Character.f (k + 8) s a = some (chrR (from_ s a)) := by
  have hl := from_len s a
  have hb : ∀ i, 0 ≤ (from_ s a).getD i 0 ∧ (from_ s a).getD i 0 ≤ 255 := fun i => by
    by_cases h : i < (from_ s a).length
    · exact from_byt s a _ (by rw [List.getD_eq_getElem?_getD, List.getElem?_eq_getElem h]; simp)
    · rw [List.getD_eq_getElem?_getD, List.getElem?_eq_none (by omega)]; simp
  have h0 := hb 0
  have h1 := hb 1
  have h2 := hb 2
  have h3 := hb 3
  have e0 : bt s (a : Int) = (from_ s a).getD 0 0 := by have := bt_from s a 0; simpa using this
  have L1 : ∀ k x7 x9 (m : Nat), m ≤ 3 → a + m < s.size → -1000000 ≤ x7 → x7 ≤ 1000000 → 1 ≤ m → spec_Character.l0 (k + 1) s a x7 (m : Int) x9 1 = if cont ((from_ s a).getD 1 0) = true then spec_Character.l0 k s a (x7 * 64 + (from_ s a).getD 1 0 - 128) (m : Int) x9 ((1 + 1 : Nat) : Int) else some (65533, 1, false) :=
    fun k x7 x9 m hm ham h0 h1 hm1 => l0_step k s a x7 x9 m 1 hs (Nat.le_refl _) hm1 ham h0 h1
  unfold spec_Character.f
  rw [if_pos (show (0 : Int) ≤ (a : Int) by omega), if_pos (show (a : Int) < (s.size : Int) by omega), e0, w64 (x := (from_ s a).getD 0 0) (by omega) (by omega)]
  unfold chrR chr
  rw [if_neg (show ¬ (from_ s a).length = 0 by omega)]
  by_cases c0 : (from_ s a).getD 0 0 < 128
  · rw [if_pos c0, if_pos c0]; rfl
  rw [if_neg c0, if_neg c0]
  have J2 : ∀ k x7 x9 (m : Nat), m ≤ 3 → spec_Character.j2 (k + 1) s a x7 (m : Int) x9 = if (from_ s a).length ≤ m then some (65533, 1, false) else spec_Character.l0 k s a x7 (m : Int) x9 1 := by
    intro k x7 x9 m hm
    simp only [spec_Character.j2]
    rw [w64 (x := (s.size : Int) - (a : Int)) (by omega) (by omega), hl]
    by_cases g : (s.size : Int) - (a : Int) ≤ (m : Int)
    · rw [if_pos g, if_pos (by omega)]
    · rw [if_neg g, if_neg (by omega)]
  by_cases c2 : 194 ≤ (from_ s a).getD 0 0 ∧ (from_ s a).getD 0 0 ≤ 223
  · rw [if_pos c2, if_pos c2.1, decide_eq_true c2.2]
    simp only [spec_Character.j0, if_true]
    rw [w64 (x := (from_ s a).getD 0 0 - 192) (by omega) (by omega)]
    rw [show spec_Character.j2 (k + 7) s (a : Int) ((from_ s a).getD 0 0 - 192) 1 128 = _ from J2 (k + 6) ((from_ s a).getD 0 0 - 192) 128 1 (by omega)]
    by_cases g : (from_ s a).length ≤ 1
    · rw [if_pos g, if_neg (by omega)]
    rw [if_neg g]
    have q1 := L1 (k + 5) ((from_ s a).getD 0 0 - 192) 128 1 (by omega) (by omega) (by omega) (by omega) (by omega)
    rw [q1]
    by_cases g1 : cont ((from_ s a).getD 1 0) = true
    · have r1 := cont_iff.1 g1
      rw [if_pos g1, l0_end _ _ _ _ _ 1 (by omega), if_neg (by omega), if_pos ⟨by omega, g1⟩]
      simp only [Option.some.injEq, Prod.mk.injEq]
      exact ⟨by omega, by omega, trivial⟩
    · rw [if_neg g1, if_neg (fun h => g1 h.2)]
  rw [if_neg c2]
  by_cases c3 : 224 ≤ (from_ s a).getD 0 0 ∧ (from_ s a).getD 0 0 ≤ 239
  · rw [if_pos c3, if_pos (show 194 ≤ (from_ s a).getD 0 0 by omega), decide_eq_false (show ¬ (from_ s a).getD 0 0 ≤ 223 by omega)]
    simp only [spec_Character.j0, Bool.false_eq_true, if_false]
    rw [if_pos c3.1, decide_eq_true c3.2]
    simp only [spec_Character.j1, if_true]
    rw [w64 (x := (from_ s a).getD 0 0 - 224) (by omega) (by omega), show ((2 : Int)) = ((2 : Nat) : Int) from rfl, J2 (k + 5) ((from_ s a).getD 0 0 - 224) 2048 2 (by omega)]
    by_cases g : (from_ s a).length ≤ 2
    · rw [if_pos g, if_neg (by omega)]
    rw [if_neg g, L1 (k + 4) ((from_ s a).getD 0 0 - 224) 2048 2 (by omega) (by omega) (by omega) (by omega) (by omega)]
    by_cases g1 : cont ((from_ s a).getD 1 0) = true
    · have r1 := cont_iff.1 g1
      rw [if_pos g1, l0_step (k + 3) s a _ 2048 2 2 hs (by omega) (by omega) (by omega) (by omega) (by omega)]
      by_cases g2 : cont ((from_ s a).getD 2 0) = true
      · have r2 := cont_iff.1 g2
        rw [if_pos g2, l0_end _ _ _ _ _ 2 (by omega)]
        have ee : (((from_ s a).getD 0 0 - 224) * 64 + (from_ s a).getD 1 0 - 128) * 64 + (from_ s a).getD 2 0 - 128 = (((from_ s a).getD 0 0 - 224) * 64 + ((from_ s a).getD 1 0 - 128)) * 64 + ((from_ s a).getD 2 0 - 128) := by omega
        rw [ee]
        generalize hc : (((from_ s a).getD 0 0 - 224) * 64 + ((from_ s a).getD 1 0 - 128)) * 64 + ((from_ s a).getD 2 0 - 128) = c at *
        by_cases g3 : 2048 ≤ c ∧ ¬ (55296 ≤ c ∧ c ≤ 57343)
        · rw [if_neg (by omega), if_pos ⟨by omega, g1, g2, g3⟩]; rfl
        · rw [if_pos (by omega), if_neg (fun h => g3 h.2.2.2)]
      · rw [if_neg g2, if_neg (fun h => g2 h.2.2.1)]
    · rw [if_neg g1, if_neg (fun h => g1 h.2.1)]
  rw [if_neg c3]
  by_cases c4 : 240 ≤ (from_ s a).getD 0 0 ∧ (from_ s a).getD 0 0 ≤ 244
  · rw [if_pos c4, if_pos (show 194 ≤ (from_ s a).getD 0 0 by omega), decide_eq_false (show ¬ (from_ s a).getD 0 0 ≤ 223 by omega)]
    simp only [spec_Character.j0, Bool.false_eq_true, if_false]
    rw [if_pos (show 224 ≤ (from_ s a).getD 0 0 by omega), decide_eq_false (show ¬ (from_ s a).getD 0 0 ≤ 239 by omega)]
    simp only [spec_Character.j1, Bool.false_eq_true, if_false]
    rw [if_pos c4.1, if_pos c4.2, w64 (x := (from_ s a).getD 0 0 - 240) (by omega) (by omega), show ((3 : Int)) = ((3 : Nat) : Int) from rfl, J2 (k + 5) ((from_ s a).getD 0 0 - 240) 65536 3 (by omega)]
    by_cases g : (from_ s a).length ≤ 3
    · rw [if_pos g, if_neg (by omega)]
    rw [if_neg g, L1 (k + 4) ((from_ s a).getD 0 0 - 240) 65536 3 (by omega) (by omega) (by omega) (by omega) (by omega)]
    by_cases g1 : cont ((from_ s a).getD 1 0) = true
    · have r1 := cont_iff.1 g1
      rw [if_pos g1, l0_step (k + 3) s a _ 65536 3 2 hs (by omega) (by omega) (by omega) (by omega) (by omega)]
      by_cases g2 : cont ((from_ s a).getD 2 0) = true
      · have r2 := cont_iff.1 g2
        rw [if_pos g2, l0_step (k + 2) s a _ 65536 3 3 hs (by omega) (by omega) (by omega) (by omega) (by omega)]
        by_cases g3 : cont ((from_ s a).getD 3 0) = true
        · have r3 := cont_iff.1 g3
          rw [if_pos g3, l0_end _ _ _ _ _ 3 (by omega)]
          have ee : ((((from_ s a).getD 0 0 - 240) * 64 + (from_ s a).getD 1 0 - 128) * 64 + (from_ s a).getD 2 0 - 128) * 64 + (from_ s a).getD 3 0 - 128 = ((((from_ s a).getD 0 0 - 240) * 64 + ((from_ s a).getD 1 0 - 128)) * 64 + ((from_ s a).getD 2 0 - 128)) * 64 + ((from_ s a).getD 3 0 - 128) := by omega
          rw [ee]
          generalize hc : ((((from_ s a).getD 0 0 - 240) * 64 + ((from_ s a).getD 1 0 - 128)) * 64 + ((from_ s a).getD 2 0 - 128)) * 64 + ((from_ s a).getD 3 0 - 128) = c at *
          by_cases g4 : 65536 ≤ c ∧ c ≤ 1114111
          · rw [if_neg (by omega), if_pos ⟨by omega, g1, g2, g3, g4⟩]; rfl
          · rw [if_pos (by omega), if_neg (fun h => g4 h.2.2.2.2)]
        · rw [if_neg g3, if_neg (fun h => g3 h.2.2.2.1)]
      · rw [if_neg g2, if_neg (fun h => g2 h.2.2.1)]
    · rw [if_neg g1, if_neg (fun h => g1 h.2.1)]
  rw [if_neg c4]
  by_cases d1 : 194 ≤ (from_ s a).getD 0 0
  · rw [if_pos d1, decide_eq_false (show ¬ (from_ s a).getD 0 0 ≤ 223 by omega)]
    simp only [spec_Character.j0, Bool.false_eq_true, if_false]
    rw [if_pos (show 224 ≤ (from_ s a).getD 0 0 by omega), decide_eq_false (show ¬ (from_ s a).getD 0 0 ≤ 239 by omega)]
    simp only [spec_Character.j1, Bool.false_eq_true, if_false]
    rw [if_pos (show 240 ≤ (from_ s a).getD 0 0 by omega), if_neg (show ¬ (from_ s a).getD 0 0 ≤ 244 by omega)]
  · rw [if_neg d1]
    simp only [spec_Character.j0, Bool.false_eq_true, if_false]
    rw [if_neg (show ¬ 224 ≤ (from_ s a).getD 0 0 by omega)]
    simp only [spec_Character.j1, Bool.false_eq_true, if_false]
    rw [if_neg (show ¬ 240 ≤ (from_ s a).getD 0 0 by omega)]
theorem UTF8_f (s : ByteArray) (hs : s.size ≤ 2147483647) : ∀ (n a : Nat), s.size - a ≤ n → a ≤ s.size → spec_UTF8.l0 (n + 10) s a = some (valid (from_ s a)) := by
  intro n
  induction n with
  | zero =>
    intro a h1 h2
    obtain rfl : a = s.size := by omega
    have e : from_ s s.size = [] := List.eq_nil_of_length_eq_zero (by rw [from_len]; omega)
    simp only [spec_UTF8.l0]
    rw [if_neg (by omega), e, valid_nil]
  | succ n ih =>
    intro a h1 h2
    simp only [spec_UTF8.l0]
    by_cases hlt : a < s.size
    · rw [if_pos (by omega), show n + 1 + 9 = (n + 2) + 8 by omega, Character_f (n + 2) s a hs hlt, Option.bind_some]
      unfold chrR
      cases e : chr (from_ s a) with
      | none => simp only []; rw [if_neg (by decide), valid_none (by rw [from_len]; omega) e]
      | some x =>
        obtain ⟨c, m⟩ := x
        have hc := chr_some e
        rw [from_len] at hc
        simp only [if_true]
        rw [w64 (by omega) (by omega), show (a : Int) + (m : Int) = ((a + m : Nat) : Int) by omega, valid_some e, from_drop]
        exact ih (a + m) (by omega) (by omega)
    · obtain rfl : a = s.size := by omega
      have e : from_ s s.size = [] := List.eq_nil_of_length_eq_zero (by rw [from_len]; omega)
      rw [if_neg (by omega), e, valid_nil]
theorem UTF8_any (s : ByteArray) (w : World) (hs : s.size ≤ 2147483647) :
    Calls Tryd.prog 8 #[.string s] w fun e w' => e = .returned (.bool (valid (bytesOf s))) ∧ Drawn0 w w' := by
  refine spec_UTF8.calls (s.size + 10) s (valid (bytesOf s)) w ?_
  unfold spec_UTF8.f
  have := UTF8_f s hs s.size 0 (by omega) (by omega)
  simpa [from_] using this
end Go.Proofs.YtjpbjbcdobibbaaDoor.J

/- A backslash ahead of each character; the walk of match over such a pattern. -/
set_option linter.unusedVariables false
set_option linter.unusedSimpArgs false
namespace Go.Proofs.YtjpbjbcdobibbaaDoor.J
open Go.RowKit Go.Proofs.YtjpbjbcdobibbaaDoorW.PrintWords Go.Proofs.YtjpbjbcdobibbaaDoorW.PrintLast Go.Proofs.YtjpbjbcdobibbaaDoorW.PrintMore Go.Proofs.YtjpbjbcdobibbaaDoor.Aid Go.Proofs.YtjpbjbcdobibbaaDoor.PFnMtGuarded

def gd1 (b : Int) : L := if b < 128 ∨ 191 < b then [92, b] else [b]
def gd (l : L) : L := l.flatMap gd1
theorem gd_len : ∀ l : L, l.length ≤ (gd l).length ∧ (gd l).length ≤ 2 * l.length
  | [] => by simp [gd]
  | b :: t => by
    have h := gd_len t
    have h1 : 1 ≤ (gd1 b).length ∧ (gd1 b).length ≤ 2 := by unfold gd1; split <;> simp
    simp only [gd, List.flatMap_cons, List.length_append, List.length_cons] at *
    omega
theorem gd_cont : ∀ l : L, (∀ x ∈ l, cont x = true) → gd l = l
  | [], _ => rfl
  | b :: t, h => by
    have h1 := cont_iff.1 (h b List.mem_cons_self)
    have ih := gd_cont t (fun x hx => h x (List.mem_cons_of_mem _ hx))
    simp only [gd, List.flatMap_cons] at ih ⊢
    rw [ih, show gd1 b = [b] by unfold gd1; rw [if_neg (by omega)]]; rfl
theorem gd_append (a b : L) : gd (a ++ b) = gd a ++ gd b := by simp [gd]
/-- At a character. -/
theorem gd_chr {l : L} {c : Int} {n : Nat} (h : chr l = some (c, n)) : gd l = 92 :: (l.take n ++ gd (l.drop n)) := by
  have hs := chr_some h
  conv => lhs; rw [← List.take_append_drop n l, gd_append]
  have e : gd (l.take n) = 92 :: l.take n := by
    cases l with
    | nil => simp at hs; omega
    | cons b t =>
      obtain ⟨m, rfl⟩ : ∃ m, n = m + 1 := ⟨n - 1, by omega⟩
      rw [List.take_succ_cons]
      have hc : ∀ x ∈ t.take m, cont x = true := by
        intro x hx
        obtain ⟨i, hi, rfl⟩ := List.mem_iff_getElem.1 hx
        rw [List.length_take] at hi
        have := hs.2.2.2.2 (i + 1) (by omega) (by omega)
        rw [List.getD_cons_succ, List.getD_eq_getElem?_getD, List.getElem?_eq_getElem (by omega)] at this
        simpa using this
      have hb : b < 128 ∨ 191 < b := by
        have := hs.2.2.2.1
        simp only [List.getD_cons_zero] at this
        omega
      have e2 := gd_cont _ hc
      simp only [gd, List.flatMap_cons] at e2 ⊢
      rw [e2, show gd1 b = [92, b] by unfold gd1; rw [if_pos hb]]; rfl
  rw [e]; rfl
theorem gd_byt {l : L} (h : ∀ x ∈ l, 0 ≤ x ∧ x ≤ 255) : ∀ x ∈ gd l, 0 ≤ x ∧ x < 256 := by
  intro x hx
  simp only [gd, List.mem_flatMap] at hx
  obtain ⟨b, hb, hx⟩ := hx
  have := h b hb
  unfold gd1 at hx
  split at hx <;> simp at hx <;> omega

theorem mtGuard_f (s : ByteArray) (hs : s.size ≤ 4096) : ∀ (n a : Nat) (acc : L), s.size - a ≤ n → a ≤ s.size → acc.length ≤ 2 * a → laws_mtGuard.l0 (n + 1) s acc a = some (strOfNums (acc ++ gd (from_ s a))) := by
  intro n
  induction n with
  | zero =>
    intro a acc h1 h2 h3
    obtain rfl : a = s.size := by omega
    have e : from_ s s.size = [] := List.eq_nil_of_length_eq_zero (by rw [from_len]; omega)
    simp only [laws_mtGuard.l0]
    rw [if_neg (by omega), e]
    simp [gd]
  | succ n ih =>
    intro a acc h1 h2 h3
    by_cases hlt : a < s.size
    · have e0 : bt s (a : Int) = (from_ s a).getD 0 0 := by have := bt_from s a 0; simpa using this
      have hcons : from_ s a = bt s (a : Int) :: from_ s (a + 1) := by
        have := from_len s a
        have d := from_drop s a 1
        cases h : from_ s a with
        | nil => rw [h] at this; simp at this; omega
        | cons x t =>
          rw [h] at d e0
          rw [e0, ← d]; rfl
      rw [hcons, laws_mtGuard.l0]
      generalize bt s (a : Int) = b at *
      have w1 : wrap64 ((a : Int) + 1) = ((a + 1 : Nat) : Int) := by rw [w64 (by omega) (by omega)]; rfl
      rw [if_pos (show (a : Int) < (s.size : Int) by omega), if_pos (show (0 : Int) ≤ (a : Int) by omega)]
      have fin : ∀ acc' : L, acc'.length ≤ 2 * (a + 1) → acc' ++ gd (from_ s (a + 1)) = acc ++ gd (b :: from_ s (a + 1)) → laws_mtGuard.l0 (n + 1) s acc' ((a + 1 : Nat) : Int) = some (strOfNums (acc ++ gd (b :: from_ s (a + 1)))) := fun acc' g1 g2 => by rw [ih (a + 1) acc' (by omega) (by omega) g1, g2]
      by_cases c1 : b < 128
      · rw [if_pos c1, if_pos (by omega), Option.bind_some, if_pos (by rw [List.length_append, List.length_singleton]; omega), w1]
        refine fin _ (by simp only [List.length_append, List.length_singleton]; omega) ?_
        simp [gd, gd1, c1]
      · rw [if_neg c1]
        by_cases c2 : b > 191
        · rw [if_pos c2, if_pos (by omega), Option.bind_some, if_pos (by rw [List.length_append, List.length_singleton]; omega), w1]
          refine fin _ (by simp only [List.length_append, List.length_singleton]; omega) ?_
          have : 191 < b := c2
          simp [gd, gd1, this]
        · rw [if_neg c2, if_pos (by omega), w1]
          refine fin _ (by simp only [List.length_append, List.length_singleton]; omega) ?_
          have h1 : ¬ (b < 128 ∨ 191 < b) := by omega
          simp [gd, gd1, h1]
    · obtain rfl : a = s.size := by omega
      have e : from_ s s.size = [] := List.eq_nil_of_length_eq_zero (by rw [from_len]; omega)
      simp only [laws_mtGuard.l0]
      rw [if_neg (by omega), e]
      simp [gd]
theorem mtGuard_any (s : ByteArray) (w : World) (hs : s.size ≤ 4096) :
    Calls Tryd.prog 14 #[.string s] w fun e w' => e = .returned (.string (strOfNums (gd (bytesOf s)))) ∧ Below w.heap.size w w' := by
  refine laws_mtGuard.calls (s.size + 1) s _ w ?_
  unfold laws_mtGuard.f
  have := mtGuard_f s hs s.size 0 [] (by omega) (by omega) (by simp)
  simpa [from_] using this
end Go.Proofs.YtjpbjbcdobibbaaDoor.J

/- A row of bytes that a call writes; the walk of the reference's appendUTF8. -/
set_option linter.unusedVariables false
set_option linter.unusedSimpArgs false
namespace Go.Proofs.YtjpbjbcdobibbaaDoor.J
open Go.RowKit Go.Proofs.YtjpbjbcdobibbaaDoorW.PrintWords Go.Proofs.YtjpbjbcdobibbaaDoorW.PrintLast Go.Proofs.YtjpbjbcdobibbaaDoorW.PrintMore Go.Proofs.YtjpbjbcdobibbaaDoor.Aid

theorem infoY : (Tryd.prog.info? 5).map (fun i => (i.zero, i.size, i.bytes)) = some (some (.int .u8 0), 1, 1) := by kernel_rfl
/-- A row of bytes of the call's own: v reads as xs. -/
def Outp (w0 W : World) (v : Value) (xs : L) : Prop := W.ownsRow w0.heap.size 5 1 v xs.length (nums .u8 xs) ∧ Below w0.heap.size w0 W
theorem Outp.nil {w0 W : World} (h : Below w0.heap.size w0 W) : Outp w0 W (.slice none 0 0) [] := ⟨Kd.own_of_R (enc := Value.int .u8) (h1 := fun _ => rfl) (Kd.R_nil (Kd.int .u8) 5 W w0.heap.size (fun _ => True)), h⟩
theorem Outp.below {w0 W W' : World} {v : Value} {xs : L} (h : Outp w0 W v xs) (k : Below W.heap.size W W') : Outp w0 W' v xs := ⟨pw_own_below h.1 k, below_then h.2 h.2.size k⟩
theorem Outp.alloc {w0 W : World} {v : Value} {xs : L} (h : Outp w0 W v xs) (o : Obj) : Outp w0 (W.alloc o) v xs := h.below (below_alloc (Below.refl _ _) o)
theorem Outp.drewN {w0 W : World} {v : Value} {xs : L} (h : Outp w0 W v xs) (n : Nat) : Outp w0 (W.drewN n) v xs := h.below (pw_below_drewN (Below.refl _ _) n)
theorem Outp.drew {w0 W : World} {v : Value} {xs : L} (h : Outp w0 W v xs) : Outp w0 W.drew v xs := by
  have := h.drewN 1
  rwa [← World.drew_drewN, World.drewN_zero] at this
section
variable {ops : Array Oper} {rest : List Oper} {o : Oper} {a : Act} {Q : Exit → Act → World → Prop}
/-- append(s, y) -/
theorem out_num {w0 W : World} (hgd : o.guard = none) (s x : Operand) (ho : o.op = .call { callee := .builtin .append, args := #[s, x], argTypes := #[56, 56] }) (v : Value) (y : Int) (xs : L)
    (hs : a.eval s = v) (hx : a.eval x = .slice (some ⟨W.heap.size, 0, none⟩) 1 1) (H : Outp w0 W v xs) (hl : xs.length ≤ 4294967296)
    (h : ∀ v1 w1, Outp w0 w1 v1 (xs ++ [y]) → W.grownBy w1 v.ownBlock → wpList Tryd.prog ops Q rest (a.put o.dst v1) w1) : wpList Tryd.prog ops Q (o :: rest) a (W.alloc (.cells #[.int .u8 y] 5)) := by
  refine print_append_num (w0 := w0) w0.heap.size hgd s x 56 5 .u8 1 ho Tryd.underlying56 infoY (by decide) v xs y hs hx H.1 H.2 H.2.size (by omega) ?_
  intro v1 w1 hown hb1 hg1 hat1
  exact h v1 w1 ⟨hown, hb1⟩ hg1
/-- append(s, ys...), ys read -/
theorem out_row {w0 W : World} (hgd : o.guard = none) (s x : Operand) (ho : o.op = .call { callee := .builtin .append, args := #[s, x], argTypes := #[56, 56] }) (v : Value) (ys xs : L) (A : Option Addr) (m c : Nat)
    (hs : a.eval s = v) (hx : a.eval x = .slice A m c) (H : Outp w0 W v xs) (HR : ReadsInt W .u8 A m ys) (hl : xs.length + m ≤ 4294967296)
    (h : ∀ v1 w1, Outp w0 w1 v1 (xs ++ ys) → W.grownBy w1 v.ownBlock → wpList Tryd.prog ops Q rest (a.put o.dst v1) w1) : wpList Tryd.prog ops Q (o :: rest) a W := by
  refine print_append_row (w0 := w0) w0.heap.size hgd s x 56 5 .u8 1 ho Tryd.underlying56 infoY (by decide) v xs ys A m c hs hx H.1 HR H.2 H.2.size (by omega) ?_
  intro v1 w1 hown hb1 hg1 hat1
  exact h v1 w1 ⟨hown, hb1⟩ hg1
/-- append(s, "..."...) -/
theorem out_str {w0 W : World} (hgd : o.guard = none) (s x : Operand) (ho : o.op = .call { callee := .builtin .append, args := #[s, x], argTypes := #[56, 9] }) (v : Value) (y : ByteArray) (xs : L)
    (hs : a.eval s = v) (hx : a.eval x = .string y) (H : Outp w0 W v xs) (hl : xs.length + y.size ≤ 4294967296)
    (h : ∀ v1 w1, Outp w0 w1 v1 (xs ++ bytesOf y) → W.grownBy w1 v.ownBlock → wpList Tryd.prog ops Q rest (a.put o.dst v1) w1) : wpList Tryd.prog ops Q (o :: rest) a W := by
  refine print_append_str (w0 := w0) w0.heap.size hgd s x 56 9 5 ho Tryd.underlying56 Tryd.underlying9 infoY v xs y hs hx H.1 H.2 H.2.size (by omega) ?_
  intro v1 w1 hown hb1 hg1
  exact h v1 w1 ⟨hown, hb1⟩ hg1
end
/-- A literal row, just laid. -/
theorem lit_reads (W : World) (ys : L) (hl : ys.length ≤ 100) : ReadsInt (W.alloc (.cells (nums .u8 ys).toArray 5)) .u8 (some ⟨W.heap.size, 0, none⟩) ys.length ys := by
  refine ⟨rfl, by omega, fun _ => ⟨_, rfl, fun j hj => ?_⟩⟩
  rw [add_plain]
  have h := heap_alloc_new W (.cells (nums .u8 ys).toArray 5)
  have := cell_of_row (W.alloc (.cells (nums .u8 ys).toArray 5)) W.heap.size j (nums .u8 ys).toArray 5 (0, 0) h
  rw [this]
  simp [nums, List.getD_eq_getElem?_getD, List.getElem?_eq_getElem hj]
def OPost (w0 : World) (xs : L) (e : Ending) (w' : World) : Prop := ∃ v, e = .returned v ∧ Outp w0 w' v xs
theorem utf8_byt {c : Int} (h0 : 0 ≤ c) (h1 : c ≤ 1114111) : ∀ x ∈ utf8 c, 0 ≤ x ∧ x ≤ 255 := by
  intro x hx
  unfold utf8 at hx
  split at hx
  · simp at hx; omega
  split at hx
  · simp at hx; omega
  split at hx
  · simp at hx; omega
  split at hx
  · simp at hx; omega
  · simp at hx; omega

set_option maxHeartbeats 4000000 in
set_option maxRecDepth 100000 in
theorem appendUTF8_any (w0 w : World) (v : Value) (xs : L) (c : Int) (h0 : 0 ≤ c) (h1 : c ≤ 1114111) (hl : xs.length ≤ 4294960000) (H : Outp w0 w v xs) :
    Calls Tryd.prog 31 #[v, .int .i64 c] w (OPost w0 (xs ++ utf8 c)) := by
  have HO := Lib.hid H
  clear H
  by_cases c1 : c < 128
  · have e : utf8 c = [c] := by unfold utf8; rw [if_pos c1]
    rw [e]
    clear e
    go_enter Tryd.func31, Tryd.ntmps31
    go_wp2_with (at_builtin; refine out_num rfl (.tmp 8) (.tmp 11) rfl v c xs rfl (by simp [go_sem]) HO.out (by omega) ?_; intro v1 w1 ho _; replace ho := Lib.hid ho)
    go_ret
    exact ⟨v1, rfl, ho.out⟩
  by_cases c2 : c < 2048
  · have e : utf8 c = [192 + c / 64, 128 + c % 64] := by unfold utf8; rw [if_neg c1, if_pos c2]
    rw [e]
    clear e
    go_enter Tryd.func31, Tryd.ntmps31
    go_wp2_with (at_builtin; refine out_row rfl (.tmp 16) (.tmp 25) rfl v [192 + c / 64, 128 + c % 64] xs (some ⟨w.heap.size, 0, none⟩) 2 2 rfl (by simp [go_sem]) (HO.out.alloc _) (lit_reads w [192 + c / 64, 128 + c % 64] (by simp)) (by omega) ?_; intro v1 w1 ho _; replace ho := Lib.hid ho)
    go_ret
    exact ⟨v1, rfl, ho.out⟩
  have kh : Hid (∀ W, Calls Tryd.prog 34 #[.int .i64 c] W fun e w' => e = .returned (.bool (high c)) ∧ W = w') := Lib.hid (high_any c)
  have kl : Hid (∀ W, Calls Tryd.prog 35 #[.int .i64 c] W fun e w' => e = .returned (.bool (low c)) ∧ W = w') := Lib.hid (low_any c)
  by_cases c3 : high c = true
  · rw [utf8_sur (.inl c3)]
    rw [c3] at kh
    clear c3 kl
    go_enter Tryd.func31, Tryd.ntmps31
    go_wp2_with (first | (go_at_call 34; refine (kh.out _).mono ?_; rintro e w' ⟨rfl, rfl⟩) | (at_builtin; refine out_row rfl (.tmp 34) (.tmp 35) rfl v [239, 191, 189] xs (some ⟨w.heap.size, 0, none⟩) 3 3 rfl (by simp [go_sem]) (HO.out.alloc _) (lit_reads w [239, 191, 189] (by simp)) (by omega) ?_; intro v1 w1 ho _; replace ho := Lib.hid ho))
    go_ret
    exact ⟨v1, rfl, ho.out⟩
  have c3' : high c = false := by simpa using c3
  rw [c3'] at kh
  by_cases c4 : low c = true
  · rw [utf8_sur (.inr c4)]
    rw [c4] at kl
    clear c4 c3 c3'
    go_enter Tryd.func31, Tryd.ntmps31
    go_wp2_with (first | (go_at_call 34; refine (kh.out _).mono ?_; rintro e w' ⟨rfl, rfl⟩) | (go_at_call 35; refine (kl.out _).mono ?_; rintro e w' ⟨rfl, rfl⟩) | (at_builtin; refine out_row rfl (.tmp 34) (.tmp 35) rfl v [239, 191, 189] xs (some ⟨w.heap.size, 0, none⟩) 3 3 rfl (by simp [go_sem]) (HO.out.alloc _) (lit_reads w [239, 191, 189] (by simp)) (by omega) ?_; intro v1 w1 ho _; replace ho := Lib.hid ho))
    go_ret
    exact ⟨v1, rfl, ho.out⟩
  have c4' : low c = false := by simpa using c4
  rw [c4'] at kl
  by_cases c5 : c < 65536
  · have e : utf8 c = [224 + c / 4096, 128 + c / 64 % 64, 128 + c % 64] := by unfold utf8; rw [if_neg c1, if_neg c2, if_neg (by rintro (h | h); exact c3 h; exact c4 h), if_pos c5]
    rw [e]
    clear e c3 c4 c3' c4'
    go_enter Tryd.func31, Tryd.ntmps31
    go_wp2_with (first | (go_at_call 34; refine (kh.out _).mono ?_; rintro e w' ⟨rfl, rfl⟩) | (go_at_call 35; refine (kl.out _).mono ?_; rintro e w' ⟨rfl, rfl⟩) | (at_builtin; refine out_row rfl (.tmp 40) (.tmp 54) rfl v [224 + c / 4096, 128 + c / 64 % 64, 128 + c % 64] xs (some ⟨w.heap.size, 0, none⟩) 3 3 rfl (by simp [go_sem]) (HO.out.alloc _) (lit_reads w [224 + c / 4096, 128 + c / 64 % 64, 128 + c % 64] (by simp)) (by omega) ?_; intro v1 w1 ho _; replace ho := Lib.hid ho))
    go_ret
    exact ⟨v1, rfl, ho.out⟩
  · have e : utf8 c = [240 + c / 262144, 128 + c / 4096 % 64, 128 + c / 64 % 64, 128 + c % 64] := by unfold utf8; rw [if_neg c1, if_neg c2, if_neg (by rintro (h | h); exact c3 h; exact c4 h), if_neg c5]
    rw [e]
    clear e c3 c4 c3' c4'
    go_enter Tryd.func31, Tryd.ntmps31
    go_wp2_with (first | (go_at_call 34; refine (kh.out _).mono ?_; rintro e w' ⟨rfl, rfl⟩) | (go_at_call 35; refine (kl.out _).mono ?_; rintro e w' ⟨rfl, rfl⟩) | (at_builtin; refine out_row rfl (.tmp 56) (.tmp 75) rfl v [240 + c / 262144, 128 + c / 4096 % 64, 128 + c / 64 % 64, 128 + c % 64] xs (some ⟨w.heap.size, 0, none⟩) 4 4 rfl (by simp [go_sem]) (HO.out.alloc _) (lit_reads w [240 + c / 262144, 128 + c / 4096 % 64, 128 + c / 64 % 64, 128 + c % 64] (by simp)) (by omega) ?_; intro v1 w1 ho _; replace ho := Lib.hid ho))
    go_ret
    exact ⟨v1, rfl, ho.out⟩
end Go.Proofs.YtjpbjbcdobibbaaDoor.J

/- The walk of the reference's Unquote. -/
set_option linter.unusedVariables false
set_option linter.unusedSimpArgs false
namespace Go.Proofs.YtjpbjbcdobibbaaDoor.J
open Go.RowKit Go.Proofs.YtjpbjbcdobibbaaDoorW.PrintWords Go.Proofs.YtjpbjbcdobibbaaDoorW.PrintLast Go.Proofs.YtjpbjbcdobibbaaDoorW.PrintMore Go.Proofs.YtjpbjbcdobibbaaDoor.Aid

theorem from_cons (s : ByteArray) (a : Nat) (h : a < s.size) : from_ s a = ((s[a]'h).toNat : Int) :: from_ s (a + 1) := by
  have hl : a < (bytesOf s).length := by rw [bytesOf_length]; exact h
  have e := from_at0 s a h
  unfold from_ at e ⊢
  rw [List.drop_eq_getElem_cons hl]
  congr 1
  rw [e, List.getD_eq_getElem?_getD, List.getElem?_drop, Nat.add_zero, List.getElem?_eq_getElem hl]; rfl
theorem from_end (s : ByteArray) : from_ s s.size = [] := List.eq_nil_of_length_eq_zero (by rw [from_len]; omega)
theorem str_outp {w0 W : World} {v : Value} {xs : L} (h : Outp w0 W v xs) : (convert 56 9 v).run Tryd.prog W = .ok (.string (strOfNums xs)) W :=
  own_string Tryd.underlying56 Tryd.underlying5 Tryd.underlying9 h.1
theorem slice_strI (s : ByteArray) (b e : Int) (h0 : 0 ≤ b) (h1 : b ≤ e) (h2 : e ≤ s.size) (W : World) :
    (Instr.slice 9 (.string s) (some (.int .i64 b)) (some (.int .i64 e)) none).run Tryd.prog W = .ok (.string (s.extract b.toNat e.toNat)) W := by
  have h3 : 0 ≤ e := by omega
  go_simp
/-- The inside of a text between its first byte and its last one. -/
theorem slice_in (s s1 : ByteArray) (h2 : 2 ≤ s.size) (e : s1 = s.extract 1 (s.size - 1)) (W : World) :
    (Instr.slice 9 (.string s) (some (.int .i64 1)) (some (.int .i64 ((s.size : Int) - 1))) none).run Tryd.prog W = .ok (.string s1) W := by
  have := slice_strI s 1 ((s.size : Int) - 1) (by omega) (by omega) (by omega) W
  rwa [show ((s.size : Int) - 1).toNat = s.size - 1 by omega, show (1 : Int).toNat = 1 from rfl, ← e] at this
def UQ (w W : World) (s1 : ByteArray) (kq : Nat) (v3 v5 : Value) : Prop :=
  ∃ a acc, v5 = .int .i64 ((a : Nat) : Int) ∧ a + kq = s1.size ∧ Outp w W v3 acc ∧ acc ++ unq (from_ s1 a) = unq (from_ s1 0) ∧ wellE (from_ s1 a) = true ∧ acc.length ≤ a
theorem utf8_len (c : Int) : (utf8 c).length ≤ 4 := by
  unfold utf8
  repeat' split
  all_goals simp
theorem utf8_len3 {c : Int} (h : c ≤ 65535) : (utf8 c).length ≤ 3 := by
  unfold utf8
  split
  · simp
  split
  · simp
  split
  · simp
  split
  · simp
  · omega
theorem unit_len {l : L} {n : Int} (h : unit l = some n) : 6 ≤ l.length := by
  unfold unit at h
  split at h
  · rename_i g; exact g.1
  · cases h
/-- A well-formed inside at a backslash: an escape of one letter, or a number. -/
theorem well_esc {t : L} (h : wellE (92 :: t) = true) : (unit (92 :: t) = none ∧ ∃ c r, t = c :: r ∧ wellE r = true) ∨ ∃ n, unit (92 :: t) = some n ∧ wellE (t.drop 5) = true := by
  cases t with
  | nil => rw [wellE_no rfl] at h; cases h
  | cons c r =>
    by_cases hp : plainEsc c = true
    · refine .inl ⟨unit_else (by simp only [List.getD_cons_succ, List.getD_cons_zero]; exact fun k => plainEsc_ne hp k.2), c, r, rfl, ?_⟩
      rwa [wellE_yes (esc_plain r hp)] at h
    by_cases hu : c = 117
    · subst hu
      cases e : unit (92 :: 117 :: r) with
      | none => rw [hexes4_no_u (unit_no e)] at h; cases h
      | some n =>
        obtain ⟨g1, g2⟩ := unit_yes e
        rw [wellE_yes (by rw [esc_u, g1])] at h
        exact .inr ⟨n, rfl, h⟩
    · rw [wellE_no (esc_else r hp hu)] at h; cases h
theorem well_u {l : L} {m : Int} (h : wellE l = true) (hu : unit l = some m) : wellE (l.drop 6) = true := by
  have hl := unit_len hu
  cases l with
  | nil => simp at hl
  | cons c t =>
    have hc : c = 92 := by
      unfold unit at hu
      split at hu
      · rename_i g; exact g.2.1
      · cases hu
    subst hc
    rcases well_esc h with ⟨e, _⟩ | ⟨n, e, hw⟩
    · rw [e] at hu; cases hu
    · exact hw

set_option maxHeartbeats 8000000 in
set_option maxRecDepth 100000 in
theorem Unquote_any (s : ByteArray) (w : World) (h2 : 2 ≤ s.size) (hs : s.size ≤ 2147483647) (hw : wellE (((bytesOf s).drop 1).take (s.size - 2)) = true) :
    Calls Tryd.prog 28 #[.string s] w fun e w' => e = .returned (.string (strOfNums (unq (((bytesOf s).drop 1).take (s.size - 2))))) ∧ Below w.heap.size w w' := by
  obtain ⟨s1, hs1⟩ : ∃ s1, s1 = s.extract 1 (s.size - 1) := ⟨_, rfl⟩
  have hb1 : ((bytesOf s).drop 1).take (s.size - 2) = from_ s1 0 := by unfold from_; rw [hs1, bytesOf_extract, List.drop_zero]; congr 1
  rw [hb1] at hw ⊢
  have hz : s1.size + 2 = s.size := by rw [hs1, ByteArray.size_extract]; omega
  have ksl := slice_in s s1 h2 hs1
  have hsz : s1.size ≤ 2147483647 := by omega
  have HW := Lib.hid hw
  replace hs1 := Lib.hid hs1
  replace hz := Lib.hid hz
  clear hb1 hw
  go_enter Tryd.func28, Tryd.ntmps28
  go_wp2
  clear ksl
  go_loopg [3, 5] s1.size (fun kq v3 v5 w' => Hid (UQ w w' s1 kq v3 v5))
  case atStart => exact Lib.hid ⟨0, [], rfl, by omega, Outp.nil (Below.refl _ _), rfl, HW.out, by simp⟩
  case round =>
    obtain ⟨a, acc, rfl, hak, hO, hq, hwl, hacc⟩ := hrel.out
    clear hrel HW
    have HO := Lib.hid hO
    have HQ := Lib.hid hq
    have HK := Lib.hid hak
    have hu1 : Hid (∀ W, Calls Tryd.prog 42 #[.string s1, .int .i64 (a : Int)] W fun e w' => e = .returned (unitR (from_ s1 a)) ∧ W = w') := Lib.hid (fun W => unit_any s1 a W hsz (by omega))
    clear hO hq
    rcases Nat.lt_or_ge a s1.size with hlt | hge
    · have hcons := from_cons s1 a hlt
      by_cases hc : ((s1[a]'hlt).toNat : Int) = 92
      · rw [hc] at hcons
        have b1 : (((s1[a]'hlt).toNat : Int) != 92) = false := by rw [hc]; rfl
        rw [hcons] at hwl
        rcases well_esc hwl with ⟨hun, x, r, hxr, hwr⟩ | ⟨n, hun, hwr⟩
        · rw [← hcons] at hun
          rw [unitR_none hun] at hu1
          have hlr : a + 1 < s1.size := by have := congrArg List.length hxr; rw [from_len] at this; simp at this; omega
          have hx1 := from_cons s1 (a + 1) hlr
          rw [hxr] at hx1
          injection hx1 with hx1 hr1
          have hxs : Hid (∀ W, Calls Tryd.prog 43 #[.int .u8 ((s1[a + 1]'hlr).toNat : Int)] W fun e w' => e = .returned (.int .u8 (short x)) ∧ W = w') := Lib.hid (fun W => by rw [← hx1]; exact short_any x W)
          have fin : Hid (∀ w1 v1, Outp w w1 v1 (acc ++ [short x]) → UQ w w1 s1 (s1.size - (a + 2)) v1 (.int .i64 ((a + 2 : Nat) : Int))) := Lib.hid (fun w1 v1 ho => ⟨a + 2, acc ++ [short x], rfl, by omega, ho, by
            rw [← HQ.out, hcons, unq_short (by rw [← hcons]; exact hun), hxr]
            rw [show a + 2 = a + 1 + 1 by omega, ← hr1]; simp, by rw [show a + 2 = a + 1 + 1 by omega, ← hr1]; exact hwr, by simp; omega⟩)
          clear hc hcons hwl hun hxr hwr hx1 hr1 hak
          go_wp2_with (first | (go_at_call 42; refine (hu1.out _).mono ?_; rintro e w' ⟨rfl, rfl⟩) | (go_at_call 43; refine (hxs.out _).mono ?_; rintro e w' ⟨rfl, rfl⟩) | (at_builtin; refine out_num rfl (.tmp 39) (.tmp 45) rfl _ (short x) acc rfl (by simp [go_sem]) HO.out (by omega) ?_; intro v1 w1 ho _; replace ho := Lib.hid ho))
          go_roundg (s1.size - (a + 2))
          case rel => exact Lib.hid (fin.out _ _ ho.out)
          case measure => have := HK.out; omega
        · rw [← hcons] at hun
          rw [unitR_some hun] at hu1
          obtain ⟨n0, n1⟩ := unit_range hun
          have hl6 := unit_len hun
          rw [from_len] at hl6
          have hwr' : wellE (from_ s1 (a + 6)) = true := by rw [from_drop] at hwr; exact hwr
          have hu2 : Hid (∀ W, Calls Tryd.prog 42 #[.string s1, .int .i64 ((a : Int) + 6)] W fun e w' => e = .returned (unitR (from_ s1 (a + 6))) ∧ W = w') := Lib.hid (fun W => unit_any s1 (a + 6) W hsz (by omega))
          have kh : Hid (∀ W, Calls Tryd.prog 34 #[.int .i64 n] W fun e w' => e = .returned (.bool (high n)) ∧ W = w') := Lib.hid (high_any n)
          have one : Hid ((∀ m, unit (from_ s1 (a + 6)) = some m → ¬ (high n = true ∧ low m = true)) → ∀ w1 v1, Outp w w1 v1 (acc ++ utf8 n) → UQ w w1 s1 (s1.size - (a + 6)) v1 (.int .i64 ((a + 6 : Nat) : Int))) := Lib.hid (fun hno w1 v1 ho => ⟨a + 6, acc ++ utf8 n, rfl, by omega, ho, by
            rw [← HQ.out, hcons, unq_one (by rw [← hcons]; exact hun) (by rw [from_drop]; exact hno), from_drop]; simp, hwr', by rw [List.length_append]; have := utf8_len3 n1; omega⟩)
          have hlen : acc.length ≤ 4294960000 := by omega
          have HA : Hid (∀ W v, Outp w W v acc → Calls Tryd.prog 31 #[v, .int .i64 n] W (OPost w (acc ++ utf8 n))) := Lib.hid (fun W v ho => appendUTF8_any w W v acc n n0 (by omega) hlen ho)
          cases hm : unit (from_ s1 (a + 6)) with
          | none =>
            rw [unitR_none hm] at hu2
            have fin := Lib.hid (one.out (fun m e => by rw [hm] at e; cases e))
            clear hc hcons hwl hun hwr hwr' hm hak one
            go_wp2_with (first | (go_at_call_of 42 (Value.int .i64 (a : Int)); refine (hu1.out _).mono ?_; rintro e w' ⟨rfl, rfl⟩) | (go_at_call 42; refine (hu2.out _).mono ?_; rintro e w' ⟨rfl, rfl⟩) | (go_at_call 31; refine (HA.out _ _ HO.out).mono ?_; rintro e w' ⟨v1, rfl, ho⟩; replace ho := Lib.hid ho))
            go_roundg (s1.size - (a + 6))
            case rel => exact Lib.hid (fin.out _ _ ho.out)
            case measure => have := HK.out; omega
          | some m =>
            rw [unitR_some hm] at hu2
            obtain ⟨m0, m1⟩ := unit_range hm
            have kl : Hid (∀ W, Calls Tryd.prog 35 #[.int .i64 m] W fun e w' => e = .returned (.bool (low m)) ∧ W = w') := Lib.hid (low_any m)
            by_cases hh : high n = true
            · rw [hh] at kh
              by_cases hl : low m = true
              · rw [hl] at kl
                have hl12 := unit_len hm
                rw [from_len] at hl12
                have hc0 : 0 ≤ comb n m ∧ comb n m ≤ 1114111 := by unfold high at hh; unfold low at hl; unfold comb; simp at hh hl ⊢; omega
                have HA2 : Hid (∀ W v, Outp w W v acc → Calls Tryd.prog 31 #[v, .int .i64 (65536 + (n - 55296) * 1024 + (m - 56320))] W (OPost w (acc ++ utf8 (comb n m)))) := Lib.hid (fun W v ho => appendUTF8_any w W v acc (comb n m) hc0.1 hc0.2 hlen ho)
                have hwr2 : wellE (from_ s1 (a + 6 + 6)) = true := by rw [← from_drop]; exact well_u hwr' hm
                have fin : Hid (∀ w1 v1, Outp w w1 v1 (acc ++ utf8 (comb n m)) → UQ w w1 s1 (s1.size - (a + 12)) v1 (.int .i64 ((a + 12 : Nat) : Int))) := Lib.hid (fun w1 v1 ho => ⟨a + 12, acc ++ utf8 (comb n m), rfl, by omega, ho, by
                  rw [← HQ.out, hcons, unq_pair (by rw [← hcons]; exact hun) (by rw [from_drop]; exact hm) ⟨hh, hl⟩, from_drop]; simp, hwr2, by rw [List.length_append]; have := utf8_len (comb n m); omega⟩)
                clear hc hcons hwl hun hwr hwr' hwr2 hm hak one hh hl HA
                go_wp2_with (first | (go_at_call_of 42 (Value.int .i64 (a : Int)); refine (hu1.out _).mono ?_; rintro e w' ⟨rfl, rfl⟩) | (go_at_call 42; refine (hu2.out _).mono ?_; rintro e w' ⟨rfl, rfl⟩) | (go_at_call 34; refine (kh.out _).mono ?_; rintro e w' ⟨rfl, rfl⟩) | (go_at_call 35; refine (kl.out _).mono ?_; rintro e w' ⟨rfl, rfl⟩) | (go_at_call 31; refine (HA2.out _ _ HO.out).mono ?_; rintro e w' ⟨v1, rfl, ho⟩; replace ho := Lib.hid ho))
                go_roundg (s1.size - (a + 12))
                case rel => exact Lib.hid (fin.out _ _ ho.out)
                case measure => have := HK.out; omega
              · have hl' : low m = false := by simpa using hl
                rw [hl'] at kl
                have fin := Lib.hid (one.out (fun m' e g => by rw [hm] at e; injection e with e; subst e; exact hl g.2))
                clear hc hcons hwl hun hwr hwr' hm hak one hl hl' hh
                go_wp2_with (first | (go_at_call_of 42 (Value.int .i64 (a : Int)); refine (hu1.out _).mono ?_; rintro e w' ⟨rfl, rfl⟩) | (go_at_call 42; refine (hu2.out _).mono ?_; rintro e w' ⟨rfl, rfl⟩) | (go_at_call 34; refine (kh.out _).mono ?_; rintro e w' ⟨rfl, rfl⟩) | (go_at_call 35; refine (kl.out _).mono ?_; rintro e w' ⟨rfl, rfl⟩) | (go_at_call 31; refine (HA.out _ _ HO.out).mono ?_; rintro e w' ⟨v1, rfl, ho⟩; replace ho := Lib.hid ho))
                go_roundg (s1.size - (a + 6))
                case rel => exact Lib.hid (fin.out _ _ ho.out)
                case measure => have := HK.out; omega
            · have hh' : high n = false := by simpa using hh
              rw [hh'] at kh
              have fin := Lib.hid (one.out (fun m' e g => hh g.1))
              clear hc hcons hwl hun hwr hwr' hm hak one hh hh'
              go_wp2_with (first | (go_at_call_of 42 (Value.int .i64 (a : Int)); refine (hu1.out _).mono ?_; rintro e w' ⟨rfl, rfl⟩) | (go_at_call 42; refine (hu2.out _).mono ?_; rintro e w' ⟨rfl, rfl⟩) | (go_at_call 34; refine (kh.out _).mono ?_; rintro e w' ⟨rfl, rfl⟩) | (go_at_call 35; refine (kl.out _).mono ?_; rintro e w' ⟨rfl, rfl⟩) | (go_at_call 31; refine (HA.out _ _ HO.out).mono ?_; rintro e w' ⟨v1, rfl, ho⟩; replace ho := Lib.hid ho))
              go_roundg (s1.size - (a + 6))
              case rel => exact Lib.hid (fin.out _ _ ho.out)
              case measure => have := HK.out; omega
      · have b1 : (((s1[a]'hlt).toNat : Int) != 92) = true := bne_iff_ne.mpr hc
        rw [hcons, wellE_plain _ hc] at hwl
        obtain ⟨x, hx⟩ : ∃ x, x = ((s1[a]'hlt).toNat : Int) := ⟨_, rfl⟩
        have fin : Hid (∀ w1 v1, Outp w w1 v1 (acc ++ [((s1[a]'hlt).toNat : Int)]) → UQ w w1 s1 (s1.size - (a + 1)) v1 (.int .i64 ((a + 1 : Nat) : Int))) := Lib.hid (fun w1 v1 ho => ⟨a + 1, acc ++ [((s1[a]'hlt).toNat : Int)], rfl, by omega, ho, by
          rw [← HQ.out, hcons, unq_plain _ hc]; simp, hwl, by simp; omega⟩)
        clear hc hcons hwl hak hx
        go_wp2_with (at_builtin; refine out_num rfl (.tmp 23) (.tmp 27) rfl _ ((s1[a]'hlt).toNat : Int) acc rfl (by simp [go_sem]) HO.out (by omega) ?_; intro v1 w1 ho _; replace ho := Lib.hid ho)
        go_roundg (s1.size - (a + 1))
        case rel => exact Lib.hid (fin.out _ _ ho.out)
        case measure => have := HK.out; omega
    · obtain rfl : a = s1.size := by omega
      have ks := str_outp HO.out
      have hfin : Hid (unq (from_ s1 0) = acc) := Lib.hid (by rw [← HQ.out, from_end, unq_nil, List.append_nil])
      clear hak hwl
      go_wp2
      go_ret
      exact ⟨by rw [hfin.out]; rfl, HO.out.2⟩
end Go.Proofs.YtjpbjbcdobibbaaDoor.J

/- The walk of match over a pattern that has a backslash ahead of each character. -/
set_option linter.unusedVariables false
set_option linter.unusedSimpArgs false
namespace Go.Proofs.YtjpbjbcdobibbaaDoor.J
open Go.RowKit Go.Proofs.YtjpbjbcdobibbaaDoorW.PrintWords Go.Proofs.YtjpbjbcdobibbaaDoorW.PrintLast Go.Proofs.YtjpbjbcdobibbaaDoorW.PrintMore Go.Proofs.YtjpbjbcdobibbaaDoor.Aid

abbrev gF : Nat := 5
abbrev gA : Nat := 6
theorem tabs_below {w w' : World} (h : Lib.Utf8Tabs gF gA w) (b : Below w.heap.size w w') : Lib.Utf8Tabs gF gA w' := by
  have l1 : gF < w.heap.size := block_lt_of_cell (h.1 0 (by omega))
  have l2 : gA < w.heap.size := block_lt_of_cell (h.2 0 (by omega)).1
  exact ⟨fun c hc => (b.cell (p := ⟨gF, c, none⟩) l1).trans (h.1 c hc), fun i hi => ⟨(b.cell (p := ⟨gA, 2 * i, none⟩) l2).trans (h.2 i hi).1, (b.cell (p := ⟨gA, 2 * i + 1, none⟩) l2).trans (h.2 i hi).2⟩⟩
theorem Decode_any (s : ByteArray) (W : World) {c : Int} {n : Nat} (h : chr (bytesOf s) = some (c, n)) (hT : Lib.Utf8Tabs gF gA W) :
    Calls Tryd.prog 57 #[.string s] W fun e w' => e = .returned (.tuple #[.int .i32 c, .int .i64 (n : Nat)]) ∧ Below W.heap.size W w' := by
  obtain ⟨e1, e2⟩ := decodeGo_chr s h
  have := Tryd.utf8_DecodeRuneInString s W hT
  rwa [e1, e2] at this
theorem slice_fromI (s : ByteArray) (b : Nat) (h1 : b ≤ s.size) (W : World) :
    (Instr.slice 9 (.string s) (some (.int .i64 (b : Int))) none none).run Tryd.prog W = .ok (.string (s.extract b s.size)) W := by
  go_simp
theorem bytes_from (s : ByteArray) (k : Nat) : bytesOf (s.extract k s.size) = (bytesOf s).drop k := by
  rw [bytesOf_extract, List.take_of_length_le]
  rw [List.length_drop, bytesOf_length]; exact Nat.le_refl _

def mres (l m : L) : Int := if l = m then 1 else 0
theorem mres_eq {l m : L} (h : l = m) : mres l m = 1 := if_pos h
theorem mres_ne {l m : L} (h : ¬ l = m) : mres l m = 0 := if_neg h
def MtI (w W : World) (l m : L) (kq : Nat) (v0 v1 : Value) : Prop :=
  ∃ (sm sp : ByteArray) (l' : L), v0 = .string sm ∧ v1 = .string sp ∧ bytesOf sp = gd l' ∧ sp.size = kq ∧ sm.size ≤ 4096 ∧ sp.size ≤ 10000 ∧ valid l' = true ∧ valid (bytesOf sm) = true ∧ (∀ x ∈ l', 0 ≤ x ∧ x ≤ 255) ∧ (l' = bytesOf sm ↔ l = m) ∧ Below w.heap.size w W

set_option maxHeartbeats 8000000 in
set_option maxRecDepth 100000 in
theorem match_guard (s p : ByteArray) (l : L) (w : World) (hs : s.size ≤ 4096) (hp : bytesOf p = gd l) (hpl : p.size ≤ 10000) (hlb : ∀ x ∈ l, 0 ≤ x ∧ x ≤ 255) (hv : valid l = true) (hv2 : valid (bytesOf s) = true) (hT : Lib.Utf8Tabs gF gA w) :
    Calls Tryd.prog 56 #[.string s, .string p, .int .i64 0, .pointer none, .int .i64 (-1), .bool false] w fun e w' => e = .returned (.int .i64 (mres l (bytesOf s))) ∧ Below w.heap.size w w' := by
  have HT := Lib.hid hT
  have H0 := Lib.hid (show MtI w w l (bytesOf s) p.size (.string s) (.string p) from ⟨s, p, l, rfl, rfl, hp, rfl, hs, hpl, hv, hv2, hlb, Iff.rfl, Below.refl _ _⟩)
  clear hp hv hv2 hT hlb
  go_enter Tryd.func56, Tryd.ntmps56
  go_wp2
  go_loopg [0, 1] p.size (fun kq v0 v1 w' => Hid (MtI w w' l (bytesOf s) kq v0 v1))
  case atStart => exact H0
  case round =>
    obtain ⟨sm, sp, l', rfl, rfl, hsp, rfl, hsm, hspl, hvl, hvm, hlb, hiff, hB⟩ := hrel.out
    clear hrel H0
    have HB := Lib.hid hB
    have HIF := Lib.hid hiff
    have HTr := Lib.hid (tabs_below HT.out hB)
    have hspz := bytesOf_length sp
    have hsmz := bytesOf_length sm
    clear hB hiff
    rcases valid_cases hvl with hl0 | ⟨c, n, hch, hvn⟩
    · rw [hl0] at hsp HIF
      have z0 : sp.size = 0 := by rw [← hspz, hsp]; rfl
      have hd0 : decide (0 < sp.size) = false := decide_eq_false (by omega)
      have hn0 : ¬ 0 < sp.size := by omega
      by_cases hm0 : sm.size = 0
      · have e : Hid (mres l (bytesOf s) = 1) := Lib.hid (mres_eq (HIF.out.1 (by have := List.eq_nil_of_length_eq_zero (hsmz.trans hm0); rw [this])))
        have hd1 : ((sm.size : Int) == 0) = true := beq_iff_eq.mpr (by omega)
        have hd2 : (sm.size == 0) = true := beq_iff_eq.mpr hm0
        clear hsp hspz hsmz hvl hvm hl0 hm0 z0
        go_wp2
        go_ret
        exact ⟨by rw [e.out]; rfl, HB.out⟩
      · have e : Hid (mres l (bytesOf s) = 0) := Lib.hid (mres_ne (fun h => by have := HIF.out.2 h; rw [← this] at hsmz; simp at hsmz; omega))
        have hd1 : ((sm.size : Int) == 0) = false := beq_eq_false_iff_ne.mpr (by omega)
        have hd2 : (sm.size == 0) = false := beq_eq_false_iff_ne.mpr hm0
        clear hsp hspz hsmz hvl hvm hl0 hm0 z0
        go_wp2
        go_ret
        exact ⟨by rw [e.out]; rfl, HB.out⟩
    · have hs' := chr_some hch
      rw [gd_chr hch] at hsp
      have hl' : l'.length = l'.length := rfl
      have hspl2 : sp.size = 1 + (n + (gd (l'.drop n)).length) := by rw [← hspz, hsp, List.length_cons, List.length_append, List.length_take, Nat.min_eq_left hs'.2.2.1]; omega
      have hlt : 0 < sp.size := by omega
      have hx : ((sp[0]'hlt).toNat : Int) = 92 := by rw [from_at0 sp 0 hlt]; unfold from_; rw [List.drop_zero, hsp]; rfl
      have hd0 : decide (0 < sp.size) = true := decide_eq_true hlt
      by_cases hm0 : sm.size = 0
      · have e : Hid (mres l (bytesOf s) = 0) := Lib.hid (mres_ne (fun h => by have := HIF.out.2 h; rw [← this] at hsmz; omega))
        have hd1 : decide (0 < sm.size) = false := decide_eq_false (by omega)
        have hn1 : ¬ 0 < sm.size := by omega
        clear hm0 hsp hspz hsmz hvl hvm hs' hspl2 hvn hl' hch
        go_wp2
        go_ret
        exact ⟨by rw [e.out]; rfl, HB.out⟩
      · have hltm : 0 < sm.size := by omega
        have hd1 : decide (0 < sm.size) = true := decide_eq_true hltm
        obtain ⟨d, k, hchm, hvm2⟩ : ∃ d k, chr (bytesOf sm) = some (d, k) ∧ valid ((bytesOf sm).drop k) = true := by
          rcases valid_cases hvm with h | h
          · rw [h] at hsmz; simp at hsmz; omega
          · exact h
        have hsm' := chr_some hchm
        have hm0b : (bytesOf sm).getD 0 0 = ((sm[0]'hltm).toNat : Int) := by rw [from_at0 sm 0 hltm]; rfl
        rw [hm0b] at hsm'
        have hbyt : ∀ x ∈ bytesOf sm, 0 ≤ x ∧ x ≤ 255 := fun x hx => by have := bytesOf_range sm x hx; omega
        have ks1 : ∀ W : World, (Instr.slice 9 (.string sp) (some (.int .i64 1)) none none).run Tryd.prog W = .ok (.string (sp.extract 1 sp.size)) W := slice_fromI sp 1 (by omega)
        obtain ⟨sp1, hsp1⟩ : ∃ sp1, sp1 = sp.extract 1 sp.size := ⟨_, rfl⟩
        rw [← hsp1] at ks1
        have hb1 : bytesOf sp1 = l'.take n ++ gd (l'.drop n) := by rw [hsp1, bytes_from, hsp]; rfl
        have hz1 : sp1.size + 1 = sp.size := by rw [hsp1, ByteArray.size_extract]; omega
        have HD : Hid (∀ W, Lib.Utf8Tabs gF gA W → Calls Tryd.prog 57 #[.string sp1] W fun e w' => e = .returned (.tuple #[.int .i32 c, .int .i64 (n : Nat)]) ∧ Below W.heap.size W w') := Lib.hid (fun W h => Decode_any sp1 W (by rw [hb1]; exact chr_take hch) h)
        have HDm : Hid (∀ W, Lib.Utf8Tabs gF gA W → Calls Tryd.prog 57 #[.string sm] W fun e w' => e = .returned (.tuple #[.int .i32 d, .int .i64 (k : Nat)]) ∧ Below W.heap.size W w') := Lib.hid (fun W h => Decode_any sm W hchm h)
        have ks2 : ∀ W : World, (Instr.slice 9 (.string sm) (some (.int .i64 (k : Int))) none none).run Tryd.prog W = .ok (.string (sm.extract k sm.size)) W := slice_fromI sm k (by omega)
        have ks3 : ∀ W : World, (Instr.slice 9 (.string sp1) (some (.int .i64 (n : Int))) none none).run Tryd.prog W = .ok (.string (sp1.extract n sp1.size)) W := slice_fromI sp1 n (by omega)
        have hn0 : ((n : Int) == 0) = false := beq_eq_false_iff_ne.mpr (by omega)
        have hk0 : ((k : Int) == 0) = false := beq_eq_false_iff_ne.mpr (by omega)
        have finne : Hid (d ≠ c → mres l (bytesOf s) = 0) := Lib.hid (fun hne => mres_ne (fun h => by
          have := HIF.out.2 h
          rw [this] at hch
          rw [hchm] at hch
          simp only [Option.some.injEq, Prod.mk.injEq] at hch
          exact hne hch.1))
        have fineq : Hid (d = c → ∀ W, Below w.heap.size w W → MtI w W l (bytesOf s) (sp1.extract n sp1.size).size (.string (sm.extract k sm.size)) (.string (sp1.extract n sp1.size))) := Lib.hid (fun hdc W hb => by
          subst hdc
          obtain ⟨rfl, htk⟩ := chr_inj hlb hbyt hch hchm
          have hm1 : bytesOf (sm.extract n sm.size) = (bytesOf sm).drop n := bytes_from sm n
          refine ⟨sm.extract n sm.size, sp1.extract n sp1.size, l'.drop n, rfl, rfl, ?_, rfl, ?_, ?_, hvn, by rw [hm1]; exact hvm2, fun x hx => hlb x (List.mem_of_mem_drop hx), ?_, hb⟩
          · rw [bytes_from, hb1, List.drop_left' (by rw [List.length_take]; omega)]
          · rw [ByteArray.size_extract]; omega
          · rw [ByteArray.size_extract]; omega
          · rw [hm1, ← HIF.out]
            constructor
            · intro h
              rw [← List.take_append_drop n l', ← List.take_append_drop n (bytesOf sm), h, htk]
            · intro h; rw [h])
        have hms : (sp1.extract n sp1.size).size < sp.size := by rw [ByteArray.size_extract]; omega
        have hub : ((sm[0]'hltm).toNat : Int) ≤ 255 := by have := (sm[0]'hltm).toNat_lt; omega
        rcases hsm'.2.2.2.1 with ⟨a1, rfl, rfl⟩ | ⟨a1, a2, a3⟩
        · have ba : decide (((sm[0]'hltm).toNat : Int) > 127) = false := decide_eq_false (by omega)
          have ks2' : ∀ W : World, (Instr.slice 9 (.string sm) (some (.int .i64 1)) none none).run Tryd.prog W = .ok (.string (sm.extract 1 sm.size)) W := slice_fromI sm 1 (by omega)
          by_cases hdc : ((sm[0]'hltm).toNat : Int) = c
          · have fin := Lib.hid (fineq.out hdc)
            have bc : (((sm[0]'hltm).toNat : Int) != c) = false := bne_eq_false_iff_eq.mpr hdc
            clear hsp hspz hsmz hvl hvm hs' hspl2 hvn hl' hch hchm hvm2 hsm' hm0b hbyt hsp1 hb1 hz1 hlb hm0 ks2 hk0 finne fineq hdc
            go_wp2_with ((go_at_call_of 57 (Value.string sp1); refine (HD.out _ HTr.out).mono ?_; rintro e w2 ⟨rfl, hb2⟩; replace hb := Lib.hid (below_then HB.out HB.out.size hb2); clear hb2))
            go_roundg (sp1.extract n sp1.size).size
            case rel => exact Lib.hid (fin.out _ hb.out)
            case measure => exact hms
          · have e := Lib.hid (finne.out hdc)
            have bc : (((sm[0]'hltm).toNat : Int) != c) = true := bne_iff_ne.mpr hdc
            clear hsp hspz hsmz hvl hvm hs' hspl2 hvn hl' hch hchm hvm2 hsm' hm0b hbyt hsp1 hb1 hz1 hlb hm0 ks2 hk0 finne fineq hdc
            go_wp2_with ((go_at_call_of 57 (Value.string sp1); refine (HD.out _ HTr.out).mono ?_; rintro e w2 ⟨rfl, hb2⟩; replace hb := Lib.hid (below_then HB.out HB.out.size hb2); clear hb2))
            go_ret
            exact ⟨by rw [e.out]; rfl, hb.out⟩
        · have ba : decide (((sm[0]'hltm).toNat : Int) > 127) = true := decide_eq_true (by omega)
          by_cases hdc : d = c
          · have fin := Lib.hid (fineq.out hdc)
            have bc : (d != c) = false := bne_eq_false_iff_eq.mpr hdc
            clear hsp hspz hsmz hvl hvm hs' hspl2 hvn hl' hch hchm hvm2 hsm' hm0b hbyt hsp1 hb1 hz1 hlb hm0 finne fineq hdc a2 a3
            go_wp2_with (first | (go_at_call_of 57 (Value.string sm); refine (HDm.out _ HTr.out).mono ?_; rintro e w1 ⟨rfl, hb1⟩; have HT1 := Lib.hid (tabs_below HTr.out hb1); replace HB := Lib.hid (below_then HB.out HB.out.size hb1); clear hb1) | (go_at_call_of 57 (Value.string sp1); refine (HD.out _ HT1.out).mono ?_; rintro e w2 ⟨rfl, hb2⟩; replace hb := Lib.hid (below_then HB.out HB.out.size hb2); clear hb2))
            go_roundg (sp1.extract n sp1.size).size
            case rel => exact Lib.hid (fin.out _ hb.out)
            case measure => exact hms
          · have e := Lib.hid (finne.out hdc)
            have bc : (d != c) = true := bne_iff_ne.mpr hdc
            clear hsp hspz hsmz hvl hvm hs' hspl2 hvn hl' hch hchm hvm2 hsm' hm0b hbyt hsp1 hb1 hz1 hlb hm0 finne fineq hdc a2 a3
            go_wp2_with (first | (go_at_call_of 57 (Value.string sm); refine (HDm.out _ HTr.out).mono ?_; rintro e w1 ⟨rfl, hb1⟩; have HT1 := Lib.hid (tabs_below HTr.out hb1); replace HB := Lib.hid (below_then HB.out HB.out.size hb1); clear hb1) | (go_at_call_of 57 (Value.string sp1); refine (HD.out _ HT1.out).mono ?_; rintro e w2 ⟨rfl, hb2⟩; replace hb := Lib.hid (below_then HB.out HB.out.size hb2); clear hb2))
            go_ret
            exact ⟨by rw [e.out]; rfl, hb.out⟩
end Go.Proofs.YtjpbjbcdobibbaaDoor.J

/- The walk of the parser's unescaping: the loop. -/
set_option linter.unusedVariables false
set_option linter.unusedSimpArgs false
namespace Go.Proofs.YtjpbjbcdobibbaaDoor.J
open Go.RowKit Go.Proofs.YtjpbjbcdobibbaaDoorW.PrintWords Go.Proofs.YtjpbjbcdobibbaaDoorW.PrintLast Go.Proofs.YtjpbjbcdobibbaaDoorW.PrintMore Go.Proofs.YtjpbjbcdobibbaaDoor.Aid Go.Proofs.YtjpbjbcdobibbaaDoor.PFnJpUnescape

set_option maxHeartbeats 8000000 in
set_option maxRecDepth 100000 in
theorem unescConf_any (B : Nat) (w0 w : World) (b o c g m cO : Nat) (l : L) (cur : List Value) (eV : Value) (hB : Below B w0 w) (hBs : B ≤ w.heap.size) (hBg : B ≤ g) (hbg : b ≠ g) (hbw : b < w.heap.size) (h3 : 3 < B) (h2 : 2 < B)
    (hb : ∀ x ∈ l, byt x) (hlm : l.length ≤ 4294967296) (hlc : l.length ≤ c) (hi : In w b o l) (hR : Row w g cur) (hcur : cO = cur.length) (hmc : m ≤ cO) (hT : Tab w0)
    (hE : w0.cell? ⟨2, 0, none⟩ = some eV) :
    Calls Tryd.prog 39 #[cfg0, .slice (some ⟨b, o, none⟩) l.length c, .slice (some ⟨g, 0, none⟩) m cO] w (UPost B w0 (pu l) eV) := by
  have HE := Lib.hid hE
  have HT := Lib.hid hT
  have HI := Lib.hid hi
  have HR := Lib.hid hR
  have HBy := Lib.hid hb
  have HB := Lib.hid hB
  have HIX : Hid (∀ W, In W b o l → Calls Tryd.prog 54 #[.slice (some ⟨b, o, none⟩) l.length c, .int .u8 92] W fun e w' => e = .returned (.int .i64 (ixB l)) ∧ w' = W) := Lib.hid (fun W h => IndexByte_any b o c l W hb h)
  have hgw : g < w.heap.size := hR.lt
  by_cases hr0 : rs l = []
  · have e1 : ixB l = -1 := by unfold ixB; rw [if_pos hr0]
    have e2 : pu l = some l := by rw [pu_pl, hr0, pu_nil]; have := pl_rs l; rw [hr0, List.append_nil] at this; simp [this]
    rw [e1] at HIX
    rw [e2]
    have fin : Hid (∀ ob, UPost B w0 (some l) eV (.returned (.tuple #[.slice (some ⟨b, o, none⟩) l.length c, .nilIface])) (w.alloc ob)) := Lib.hid (fun ob => ⟨HB.out.alloc hBs _, b, o, c, rfl, HI.out.alloc _, hlc⟩)
    clear hE hT hi hR hb hB hr0 e1 e2
    unfold cfg0
    go_enter Tryd.func39, Tryd.ntmps39
    go_wp2_with (go_at_call 54; refine (HIX.out _ (HI.out.alloc _)).mono ?_; rintro e w' ⟨rfl, rfl⟩)
    go_ret2
    exact fin.out _
  · obtain ⟨q, hq⟩ : ∃ q, q = pl l := ⟨_, rfl⟩
    have e1 : ixB l = (q.length : Int) := by unfold ixB; rw [if_neg hr0, hq]
    rw [e1] at HIX
    have hql : q.length + (rs l).length = l.length := by rw [hq]; exact pl_rs_len l
    have hqle : q.length ≤ l.length := by omega
    have hb1 : ((q.length : Int) == -1) = false := beq_eq_false_iff_ne.mpr (by omega)
    have kto := cut_to b o l.length c q.length (by omega) hlc
    obtain ⟨o1, r, c1, hr, hrl, hrc, kfrom, hIr⟩ := cut_in b o c l q.length (by omega) hlc
    have hr2 : r = rs l := by rw [hr, hq]; exact rs_drop l
    obtain ⟨t, ht⟩ := rs_cons hr0
    have hr92 : r.getD 0 0 = 92 := by rw [hr2, ht]; rfl
    have hr1 : 1 ≤ r.length := by rw [hr2, ht]; simp
    have hrb : ∀ x ∈ r, byt x := fun x hx => hb x (by rw [hr] at hx; exact List.mem_of_mem_drop hx)
    have hpu : pu l = (pu r).map (q ++ ·) := by rw [hr2, hq]; exact pu_pl l
    have hIq : Hid (∀ W, In W b o l → In W b o q) := Lib.hid (fun W h => by have := h.take q.length (by omega); rwa [hq, pl_take, ← hq] at this)
    have kmk : ∀ W : World, (Instr.makeSlice tBs (.int .i64 (l.length : Int)) (.int .i64 (l.length : Int))).run Tryd.prog W = .ok (.slice (some ⟨W.heap.size, 0, none⟩) l.length l.length) (W.alloc (.cells (madeCells #[.int .u8 0] l.length) tB)) := by
      intro W
      have := print_make_int (P := Tryd.prog) tBs tB (.int .u8 0) 1 Tryd.underlying56 infoB rfl (by decide) (l.length : Int) (by omega) (by rw [Int.toNat_natCast]; omega) W
      rwa [Int.toNat_natCast] at this
    replace hq := Lib.hid hq
    replace hr := Lib.hid hr
    replace hr2 := Lib.hid hr2
    replace hr92 := Lib.hid hr92
    replace hrb := Lib.hid hrb
    replace hpu := Lib.hid hpu
    replace hIr := Lib.hid hIr
    replace hcur := Lib.hid hcur
    replace hql := Lib.hid hql
    replace hrl := Lib.hid hrl
    clear hE hT hi hR hb hB hr0 e1 ht
    unfold cfg0
    go_enter Tryd.func39, Tryd.ntmps39
    go_upto_if 22 with (go_at_call 54; refine (HIX.out _ (HI.out.alloc _)).mono ?_; rintro e w' ⟨rfl, rfl⟩)
    go_cut [2] (fun v2 w' => Hid (∃ g' cO' cur', v2 = .slice (some ⟨g', 0, none⟩) l.length cO' ∧ Row w' g' cur' ∧ l.length ≤ cO' ∧ l.length ≤ cur'.length ∧ In w' b o l ∧ Below B w0 w' ∧ b ≠ g' ∧ B ≤ g' ∧ b < w'.heap.size ∧ w'.heap[w.heap.size]? = some (.cells #[.bool false, .bool false, .int .i64 0] 75 (0, 0)) ∧ w.heap.size ≠ g'))
    case first =>
      by_cases hcap : cO < l.length
      · have hd : decide ((cO : Int) < (l.length : Int)) = true := decide_eq_true (by omega)
        have hd2 : decide (cO < l.length) = true := decide_eq_true hcap
        have fin : Hid (∀ W, W = w.alloc (.cells #[.bool false, .bool false, .int .i64 0] 75) → ∃ g' cO' cur', Value.slice (some ⟨w.heap.size + 1, 0, none⟩) l.length l.length = .slice (some ⟨g', 0, none⟩) l.length cO' ∧ Row (W.alloc (.cells (madeCells #[.int .u8 0] l.length) tB)) g' cur' ∧ l.length ≤ cO' ∧ l.length ≤ cur'.length ∧ In (W.alloc (.cells (madeCells #[.int .u8 0] l.length) tB)) b o l ∧ Below B w0 (W.alloc (.cells (madeCells #[.int .u8 0] l.length) tB)) ∧ b ≠ g' ∧ B ≤ g' ∧ b < (W.alloc (.cells (madeCells #[.int .u8 0] l.length) tB)).heap.size ∧ (W.alloc (.cells (madeCells #[.int .u8 0] l.length) tB)).heap[w.heap.size]? = some (.cells #[.bool false, .bool false, .int .i64 0] 75 (0, 0)) ∧ w.heap.size ≠ g') := Lib.hid (by
          intro W hW
          have hsz : W.heap.size = w.heap.size + 1 := by rw [hW]; simp
          rw [← hsz]
          refine ⟨W.heap.size, l.length, List.replicate l.length (.int .u8 0), rfl, ?_, Nat.le_refl _, by simp, ?_, ?_, by omega, by omega, by simp; omega, ?_, by omega⟩
          · refine ⟨tB, ?_⟩; rw [made_arr]; exact heap_alloc_new W _
          · exact (show In W b o l by rw [hW]; exact HI.out.alloc _).alloc _
          · exact (show Below B w0 W by rw [hW]; exact HB.out.alloc hBs _).alloc (by omega) _
          · refine blk_alloc ?_ _
            rw [hW]; exact heap_alloc_new w _)
        go_wp2
        go_meet
        case rel => exact Lib.hid (fin.out _ rfl)
      · have hd : decide ((cO : Int) < (l.length : Int)) = false := decide_eq_false (by omega)
        have hd2 : decide (cO < l.length) = false := decide_eq_false hcap
        have hle : l.length ≤ cO := by omega
        have fin : Hid (∀ W, W = w.alloc (.cells #[.bool false, .bool false, .int .i64 0] 75) → ∃ g' cO' cur', Value.slice (some ⟨g, 0, none⟩) l.length cO = .slice (some ⟨g', 0, none⟩) l.length cO' ∧ Row W g' cur' ∧ l.length ≤ cO' ∧ l.length ≤ cur'.length ∧ In W b o l ∧ Below B w0 W ∧ b ≠ g' ∧ B ≤ g' ∧ b < W.heap.size ∧ W.heap[w.heap.size]? = some (.cells #[.bool false, .bool false, .int .i64 0] 75 (0, 0)) ∧ w.heap.size ≠ g') := Lib.hid (by
          intro W hW
          have hsz : W.heap.size = w.heap.size + 1 := by rw [hW]; simp
          refine ⟨g, cO, cur, rfl, ?_, hle, by rw [← hcur.out]; exact hle, ?_, ?_, hbg, hBg, by omega, ?_, by omega⟩
          · rw [hW]; exact HR.out.alloc _
          · rw [hW]; exact HI.out.alloc _
          · rw [hW]; exact HB.out.alloc hBs _
          · rw [hW]; exact heap_alloc_new w _)
        go_wp2
        go_meet
        case rel => exact Lib.hid (fin.out _ rfl)
    case rest =>
      obtain ⟨g', cO', cur', rfl, hR, hle, hcl, hI, hB, hne, hBg', hbw', hbox, hbne⟩ := hcut.out
      clear hcut kmk
      have R := Lib.hid hR
      have I := Lib.hid hI
      have BB := Lib.hid hB
      have BX := Lib.hid hbox
      clear hR hI hB hbox
      have gq := hql.out
      obtain ⟨oA, n1, c2, hn1, hnc1, hoA, kbuf⟩ := cut_buf g' 0 l.length cO' 0 q.length (by omega) hle (fun _ => rfl)
      replace hn1 := Lib.hid hn1
      replace hoA := Lib.hid hoA
      clear gq
      go_wp2_with ((refine copy_any rfl (.tmp 30) (.tmp 33) rfl g' 0 l.length cO' b o c 0 q cur' (by simp [go_sem]) (by simp [go_sem]) R.out (hIq.out _ I.out) (by omega) (fun _ => rfl) (by omega) ?_); intro w1 hr1' hbt1; replace hr1' := Lib.hid hr1'; replace hbt1 := Lib.hid hbt1)
      have LN := Lib.hid (show (nums .u8 q).length = q.length by simp [nums])
      go_loopg [1, 9] r.length (fun kq v1 v9 w' => Hid (ULoop B w0 wc b g' l.length l kq v1 v9 w'))
      case atStart =>
        refine Lib.hid ⟨o1, c1, oA, n1, c2, r, q, _, rfl, rfl, rfl, hr1, hr92.out, hrb.out, hrc, hnc1, fun h => by rw [hoA.out h, Nat.zero_add], by have := hn1.out; omega, by have := hn1.out; have := hrl.out; omega, ?_, ?_, hr1'.out, ?_, hpu.out, ?_, hbt1.out⟩
        · rw [length_splice _ _ _ (by rw [LN.out]; omega)]; exact hcl
        · exact (hIr.out _ I.out).but hbt1.out hbw' hne
        · have := take_splice' cur' [] q (by simp [nums]) (by simp; omega)
          simpa using this
        · exact Below.but BB.out hbt1.out hBg' (by have := R.out.lt; omega)
      case round =>
        obtain ⟨o2, c3, oB, n2, c4, r2, E, cur2, rfl, rfl, rfl, hr21, hr29, hr2b, hr2c, hn2c, hoB, hEn, hrn, hcl2, hI2, hR2, hE2, hpu2, hB2, hbt2⟩ := hrel.out
        clear hrel
        obtain rfl := hoB (by omega)
        have hbx2 := Lib.hid ((hbt2.block w.heap.size (blk_lt BX.out) hbne).trans BX.out)
        have kb0 := (blk_cell hbx2.out 0).trans rfl
        have kb1 := (blk_cell hbx2.out 1).trans rfl
        have kb2 := (blk_cell hbx2.out 2).trans rfl
        have hT2 : Tab _ := fun x hx => (hB2.cell (p := ⟨3, x.toNat, none⟩) h3).trans (HT.out x hx)
        have hbw2 : b < _ := Nat.lt_of_lt_of_le hbw' hbt2.size
        have HUE := Lib.hid (ue_any b o2 c3 g' E.length n2 c4 r2 cur2 _ hr2b hr21 hr29 (by omega) hr2c hI2 hR2 (by omega) hrn hT2)
        clear hT2
        obtain ⟨ru, hwr⟩ : ∃ z, z = ue r2 := ⟨_, rfl⟩
        rw [← hwr] at HUE
        unfold cfg0 at HUE
        have hBr : B ≤ wr.heap.size := by have := R.out.lt; have := hbt2.size; omega
        cases ru with
        | none =>
          have hfin : pu l = none := by
            rw [hpu2]
            obtain ⟨t2, rfl⟩ : ∃ t2, r2 = 92 :: t2 := by
              cases r2 with
              | nil => simp at hr21
              | cons x t2 => exact ⟨t2, by rw [show x = 92 from hr29]⟩
            rw [pu_no hwr.symm]; rfl
          have fin : Hid (∀ w3 n, But g' wc w3 → UPost B w0 (pu l) eV (.returned (.tuple #[.slice none 0 0, eV])) (w3.drewN n)) := Lib.hid (fun w3 n h3 => by rw [hfin]; exact ⟨pw_below_drewN (Below.but BB.out h3 hBg' (by have := R.out.lt; omega)) n, rfl⟩)
          have HB2 := Lib.hid hbt2
          have HBB := Lib.hid hB2
          clear hwr hfin hpu2 hE2 hR2 hI2 hr2b hr29 hbt2 hB2 hEn
          go_wp2_with (go_at_call 55; refine HUE.out.mono ?_; rintro e w3 ⟨hb3, _, rfl⟩; have cE := ((Below.but HBB.out hb3 hBg' hBr).cell (p := ⟨2, 0, none⟩) h2).trans HE.out; replace hb3 := Lib.hid (HB2.out.trans hb3))
          go_quiet (fail)
          go_wp2
          go_ret2
          exact fin.out _ _ hb3.out
        | some x =>
          obtain ⟨k, oo⟩ := x
          have hpos := ue_pos hwr.symm
          obtain ⟨t2, ht2⟩ : ∃ t2, r2 = 92 :: t2 := by
            cases r2 with
            | nil => simp at hr21
            | cons x t2 => exact ⟨t2, by rw [show x = 92 from hr29]⟩
          have hpr : pu r2 = (pu (r2.drop k)).map (oo ++ ·) := by rw [ht2] at hwr ⊢; exact pu_yes hwr.symm
          obtain ⟨o4, r3, c5, hr3, hr3l, hr3c, kin, hIn3⟩ := cut_in b o2 c3 r2 k (by omega) hr2c
          obtain ⟨o5, n5, c6, hn5, hn5c, ho5, kbf⟩ := cut_buf g' E.length n2 c4 E.length oo.length (by omega) hn2c (fun _ => rfl)
          have hr3b : ∀ x ∈ r3, byt x := fun x hx => hr2b x (by rw [hr3] at hx; exact List.mem_of_mem_drop hx)
          have hpu3 : pu l = (pu r3).map ((E ++ oo) ++ ·) := by
            rw [hpu2, hpr, ← hr3, Option.map_map]
            congr 1; funext z; simp
          have hkne : ((k : Int) == -1) = false := beq_eq_false_iff_ne.mpr (by omega)
          have HU3 : Hid (Calls Tryd.prog 55 #[.agg #[.bool false, .bool false, .int .i64 0], .slice (some ⟨b, o2, none⟩) r2.length c3, .slice (some ⟨g', E.length, none⟩) n2 c4] wr fun e w' => e = .returned (.tuple #[.int .i64 (k : Nat), .int .i64 oo.length]) ∧ Row w' g' (splice cur2 E.length (nums .u8 oo)) ∧ But g' wr w') :=
            Lib.hid (HUE.out.mono fun e w' h => ⟨h.2.2, h.2.1, h.1⟩)
          have HIX3 : Hid (∀ W, In W b o4 r3 → Calls Tryd.prog 54 #[.slice (some ⟨b, o4, none⟩) r3.length c5, .int .u8 92] W fun e w' => e = .returned (.int .i64 (ixB r3)) ∧ w' = W) := Lib.hid (fun W h => IndexByte_any b o4 c5 r3 W hr3b h)
          have hcut3 : Hid (∀ w3, But g' wr w3 → In w3 b o4 r3) := Lib.hid (fun w3 h3 => hIn3 _ (hI2.but h3 hbw2 hne))
          have hE3 : (splice cur2 E.length (nums .u8 oo)).take (E ++ oo).length = nums .u8 (E ++ oo) := take_splice' cur2 E oo hE2 (by omega)
          have hl3 : (splice cur2 E.length (nums .u8 oo)).length = cur2.length := length_splice _ _ _ (by simp [nums]; omega)
          obtain ⟨E3, hE3d⟩ : ∃ E3, E3 = E ++ oo := ⟨_, rfl⟩
          have hE3l : E3.length = E.length + oo.length := by rw [hE3d, List.length_append]
          rw [← hE3d] at hE3 hpu3
          obtain ⟨cur3, hcur3⟩ : ∃ z, z = splice cur2 E.length (nums .u8 oo) := ⟨_, rfl⟩
          rw [← hcur3] at hE3 hl3 HU3
          have HB2 := Lib.hid hbt2
          have HBB := Lib.hid hB2
          replace hE3 := Lib.hid hE3
          replace hpu3 := Lib.hid hpu3
          replace ho5 := Lib.hid ho5
          have HN := Lib.hid (show E3.length + n5 = l.length by omega)
          have hrn5 : r3.length ≤ n5 := by omega
          have hcl3 : l.length ≤ cur3.length := by omega
          have hkq3 : r3.length < r2.length := by omega
          have hoff5 := Lib.hid (show 0 < n5 → o5 = E3.length from fun h => by rw [ho5.out h, hE3l])
          have hI3 := Lib.hid hIn3
          clear hwr hpu2 hE2 hR2 hI2 hr2b hr29 hbt2 hB2 hEn hpr hl3 hcur3 hE3d hE3l hr3 hn5 hpos ht2 hIn3 hr3l
          by_cases hrs : rs r3 = []
          · have e3 : ixB r3 = -1 := by unfold ixB; rw [if_pos hrs]
            rw [e3] at HIX3
            have hpr3 : pu r3 = some r3 := by rw [pu_pl, hrs, pu_nil]; have := pl_rs r3; rw [hrs, List.append_nil] at this; simp [this]
            obtain ⟨o6, n6, c7, hn6, hn6c, _, kbf2⟩ := cut_buf g' o5 n5 c6 E3.length r3.length hrn5 hn5c hoff5.out
            obtain ⟨qf, hqf⟩ : ∃ z, z = E3 ++ r3 := ⟨_, rfl⟩
            have hqfl : qf.length + n6 = l.length := by have := HN.out; rw [hqf, List.length_append]; omega
            have kfin : ∀ W : World, (Instr.slice tBs (.slice (some ⟨g', 0, none⟩) l.length cO') none (some (.int .i64 ((l.length : Int) - (n6 : Int)))) none).run Tryd.prog W = .ok (.slice (some ⟨g', 0, none⟩) qf.length cO') W := by
              intro W
              rw [show (l.length : Int) - (n6 : Int) = (qf.length : Int) by omega]
              exact cut_to g' 0 l.length cO' qf.length (by omega) hle W
            have hsome : pu l = some qf := by rw [hpu3.out, hpr3, hqf]; rfl
            have fin : Hid (∀ w3 w4, But g' wr w3 → Row w4 g' (splice cur3 E3.length (nums .u8 r3)) → But g' w3 w4 → UPost B w0 (pu l) eV (.returned (.tuple #[.slice (some ⟨g', 0, none⟩) qf.length cO', .nilIface])) w4) := Lib.hid (fun w3 w4 h3 hR4 h4 => by rw [hsome]; exact ⟨Below.but (Below.but HBB.out h3 hBg' hBr) h4 hBg' (by have := h3.size; omega), g', 0, cO', rfl, In.of_row hR4 (by rw [hqf]; exact take_splice' cur3 E3 r3 hE3.out (by have := HN.out; omega)), by omega⟩)
            have hcl4 : E3.length + n5 ≤ cur3.length := by have := HN.out; omega
            have hn6l : n6 ≤ l.length := by omega
            clear e3 hpr3 hsome hqf hrs hqfl hn6
            go_wp2_with (first | (go_at_call 55; refine HU3.out.mono ?_; rintro e w3 ⟨rfl, hR3, hb3⟩; replace hR3 := Lib.hid hR3; replace hb3 := Lib.hid hb3) | (go_at_call 54; refine (HIX3.out _ (hcut3.out _ hb3.out)).mono ?_; rintro e w' ⟨rfl, rfl⟩) | ((refine copy_any rfl (.tmp 61) (.tmp 62) rfl g' o5 n5 c6 b o4 c5 E3.length r3 cur3 (by simp [go_sem]) (by simp [go_sem]) hR3.out (hcut3.out _ hb3.out) hrn5 hoff5.out hcl4 ?_); intro w4 hR4 hb4; replace hR4 := Lib.hid hR4; replace hb4 := Lib.hid hb4))
            go_ret2
            exact fin.out _ _ hb3.out hR4.out hb4.out
          · obtain ⟨q3, hq3⟩ : ∃ q3, q3 = pl r3 := ⟨_, rfl⟩
            have e3 : ixB r3 = (q3.length : Int) := by unfold ixB; rw [if_neg hrs, hq3]
            rw [e3] at HIX3
            have hql3 : q3.length + (rs r3).length = r3.length := by rw [hq3]; exact pl_rs_len r3
            have hb13 : ((q3.length : Int) == -1) = false := beq_eq_false_iff_ne.mpr (by omega)
            have kto3 := cut_to b o4 r3.length c5 q3.length (by omega) hr3c
            obtain ⟨o7, r4, c8, hr4, hr4l, hr4c, kin4, hIn4⟩ := cut_in b o4 c5 r3 q3.length (by omega) hr3c
            obtain ⟨o6, n6, c7, hn6, hn6c, ho6, kbf2⟩ := cut_buf g' o5 n5 c6 E3.length q3.length (by omega) hn5c hoff5.out
            have hr42 : r4 = rs r3 := by rw [hr4, hq3]; exact rs_drop r3
            obtain ⟨t4, ht4⟩ := rs_cons hrs
            have hq3I : Hid (∀ W, In W b o4 r3 → In W b o4 q3) := Lib.hid (fun W h => by have := h.take q3.length (by omega); rwa [hq3, pl_take, ← hq3] at this)
            have fin : Hid (∀ w3 w4, But g' wr w3 → Row w4 g' (splice cur3 E3.length (nums .u8 q3)) → But g' w3 w4 → ULoop B w0 wc b g' l.length l r4.length (.slice (some ⟨b, o7, none⟩) r4.length c8) (.slice (some ⟨g', o6, none⟩) n6 c7) w4) := Lib.hid (fun w3 w4 h3 hR4 h4 => by
              have hN := HN.out
              refine ⟨o7, c8, o6, n6, c7, r4, E3 ++ q3, _, rfl, rfl, rfl, by rw [hr42, ht4]; simp, by rw [hr42, ht4]; rfl, fun x hx => hr3b x (by rw [hr4] at hx; exact List.mem_of_mem_drop hx), hr4c, hn6c, fun h => by rw [List.length_append]; exact ho6 h, by rw [List.length_append]; omega, by omega, ?_, hIn4 _ ((hcut3.out _ h3).but h4 (Nat.lt_of_lt_of_le hbw2 h3.size) hne), hR4, take_splice' cur3 E3 q3 hE3.out (by omega), ?_, Below.but (Below.but HBB.out h3 hBg' hBr) h4 hBg' (by have := h3.size; omega), HB2.out.trans (h3.trans h4)⟩
              · rw [length_splice _ _ _ (by simp [nums]; omega)]; exact hcl3
              · rw [hpu3.out, pu_pl r3, ← hr42, ← hq3, Option.map_map]
                congr 1; funext z; simp)
            have hcl4 : E3.length + n5 ≤ cur3.length := by have := HN.out; omega
            have hq3n : q3.length ≤ n5 := by omega
            have hq3r : q3.length ≤ r3.length := by omega
            have hms : r4.length < r2.length := by omega
            clear e3 hrs hql3 hq3 hr4 hr42 ht4 hr4l hn6 ho6 hIn4 hr3b
            go_wp2_with (first | (go_at_call 55; refine HU3.out.mono ?_; rintro e w3 ⟨rfl, hR3, hb3⟩; replace hR3 := Lib.hid hR3; replace hb3 := Lib.hid hb3) | (go_at_call 54; refine (HIX3.out _ (hcut3.out _ hb3.out)).mono ?_; rintro e w' ⟨rfl, rfl⟩) | ((refine copy_any rfl (.tmp 68) (.tmp 71) rfl g' o5 n5 c6 b o4 c5 E3.length q3 cur3 (by simp [go_sem]) (by simp [go_sem]) hR3.out (hq3I.out _ (hcut3.out _ hb3.out)) hq3n hoff5.out hcl4 ?_); intro w4 hR4 hb4; replace hR4 := Lib.hid hR4; replace hb4 := Lib.hid hb4))
            go_roundg r4.length
            case rel => exact Lib.hid (fin.out _ _ hb3.out hR4.out hb4.out)
            case measure => exact hms
end Go.Proofs.YtjpbjbcdobibbaaDoor.J

/- The walk of the reference's Unescape. -/
set_option linter.unusedVariables false
set_option linter.unusedSimpArgs false
namespace Go.Proofs.YtjpbjbcdobibbaaDoor.J
open Go.RowKit Go.Proofs.YtjpbjbcdobibbaaDoorW.PrintWords Go.Proofs.YtjpbjbcdobibbaaDoorW.PrintLast Go.Proofs.YtjpbjbcdobibbaaDoorW.PrintMore Go.Proofs.YtjpbjbcdobibbaaDoor.Aid

theorem rd_new (W : World) (s : ByteArray) (a : Nat) (ha : a ≤ s.size) : Rd (W.alloc (.cells #[.string s, .int .i64 (a : Int)] tRd)) W.heap.size s a (from_ s a) := ⟨heap_alloc_new W _, ha, rfl⟩
def quote1 (s : ByteArray) : ByteArray := ({ data := #[34] } ++ s) ++ { data := #[34] }
theorem quote1_bytes (s : ByteArray) : bytesOf (quote1 s) = 34 :: (bytesOf s ++ [34]) := by
  unfold quote1
  rw [bytesOf_append, bytesOf_append]
  simp [bytesOf]
theorem quote1_size (s : ByteArray) : (quote1 s).size = s.size + 2 := by
  rw [← bytesOf_length, quote1_bytes]; simp [bytesOf_length]
theorem quote1_inside (s : ByteArray) : ((bytesOf (quote1 s)).drop 1).take ((quote1 s).size - 2) = bytesOf s := by
  rw [quote1_bytes, quote1_size]; simp [← bytesOf_length]
def UEscR (r : Option L) : Value := match r with | some q => .tuple #[.string (strOfNums q), .bool true] | none => .tuple #[.string ByteArray.empty, .bool false]

set_option maxHeartbeats 8000000 in
set_option maxRecDepth 100000 in
theorem Unescape_any (s : ByteArray) (w : World) (hs : s.size ≤ 2147483640) :
    Calls Tryd.prog 12 #[.string s] w fun e w' => e = .returned (UEscR (unesc (bytesOf s))) ∧ Below w.heap.size w w' := by
  go_enter Tryd.func12, Tryd.ntmps12
  go_wp2
  go_loopg [4] s.size (fun kq v4 w' => Hid (∃ a : Nat, v4 = .int .i64 ((a : Nat) : Int) ∧ a + kq = s.size ∧ wellE (from_ s a) = wellE (bytesOf s) ∧ Below w.heap.size w w'))
  case atStart => exact Lib.hid ⟨0, rfl, by omega, rfl, Below.refl _ _⟩
  case round =>
    obtain ⟨a, rfl, hak, hwl, hB⟩ := hrel.out
    clear hrel
    have HB := Lib.hid hB
    have HW := Lib.hid hwl
    have HK := Lib.hid hak
    clear hB
    rcases Nat.lt_or_ge a s.size with hlt | hge
    · have hcons := from_cons s a hlt
      by_cases hc : ((s[a]'hlt).toNat : Int) = 92
      · rw [hc] at hcons
        have b1 : (((s[a]'hlt).toNat : Int) != 92) = false := by rw [hc]; rfl
        have H := rd_new wr s (a + 1) (by omega)
        rw [show (((a + 1 : Nat)) : Int) = (a : Int) + 1 by omega] at H
        replace H := Lib.hid H
        have HBn := Lib.hid (below_then HB.out HB.out.size (below_alloc (Below.refl _ _) (.cells #[.string s, .int .i64 ((a : Int) + 1)] tRd)))
        have hBs := HB.out.size
        have hln := from_len s (a + 1)
        clear hc hak
        go_wp2_with fail
        refine (escape_any wr.heap.size s (a + 1) _ _ (by omega) H.out).mono ?_
        rintro e w2 ⟨b, t, hr, hbut, rfl, hu⟩
        have HB2 := Lib.hid (HBn.out.trans (hbut.to_below hBs (by simp; omega)))
        cases he : esc (from_ s (a + 1)) with
        | none =>
          have hfin : Hid (UEscR (unesc (bytesOf s)) = .tuple #[.string ByteArray.empty, .bool false]) := Lib.hid (by rw [unesc_of (by rw [← hwl, hcons]; exact wellE_no he)]; rfl)
          clear hwl hcons hr hbut hu he H HBn hln
          go_wp2
          go_ret2
          exact ⟨by rw [hfin.out]; rfl, HB2.out⟩
        | some u =>
          obtain rfl := hu u he
          have c1 := hr.cell1
          have hw2 : Hid (wellE (from_ s b) = wellE (bytesOf s)) := Lib.hid (by rw [← hwl, hcons, wellE_yes he, ← hr.rest]; rfl)
          have hlt2 := esc_lt he
          have hlen := hr.len
          have hb1 : 1 ≤ b := by omega
          have hbl : b ≤ s.size := by omega
          have hm : s.size - b < s.size - a := by omega
          clear hwl hcons hr hbut hu he H HBn hln hlt2 hlen
          go_wp2
          go_roundg (s.size - b)
          case rel => exact Lib.hid ⟨b, by go_num, by omega, hw2.out, HB2.out⟩
          case measure => have := HK.out; omega
      · have b1 : (((s[a]'hlt).toNat : Int) != 92) = true := bne_iff_ne.mpr hc
        have hw2 : Hid (wellE (from_ s (a + 1)) = wellE (bytesOf s)) := Lib.hid (by rw [← hwl, hcons, wellE_plain _ hc])
        clear hc hcons hwl hak
        go_wp2
        go_roundg (s.size - (a + 1))
        case rel => exact Lib.hid ⟨a + 1, by go_num, by omega, hw2.out, HB.out⟩
        case measure => have := HK.out; omega
    · obtain rfl : a = s.size := by omega
      have hwt : wellE (bytesOf s) = true := by rw [← hwl, from_end, wellE_nil]
      have hU : Hid (∀ W, Calls Tryd.prog 28 #[.string (quote1 s)] W fun e w' => e = .returned (.string (strOfNums (unq (bytesOf s)))) ∧ Below W.heap.size W w') := Lib.hid (fun W => by
        have := Unquote_any (quote1 s) W (by rw [quote1_size]; omega) (by rw [quote1_size]; omega) (by rw [quote1_inside]; exact hwt)
        rwa [quote1_inside] at this)
      have hfin : Hid (UEscR (unesc (bytesOf s)) = .tuple #[.string (strOfNums (unq (bytesOf s))), .bool true]) := Lib.hid (by unfold unesc; rw [if_pos hwt]; rfl)
      clear hwl hak hwt
      go_wp2_with (go_at_call 28; refine (hU.out _).mono ?_; rintro e w' ⟨rfl, hb⟩; replace HB := Lib.hid (below_then HB.out HB.out.size hb); clear hb)
      go_ret2
      exact ⟨by rw [hfin.out]; rfl, HB.out⟩
end Go.Proofs.YtjpbjbcdobibbaaDoor.J

/- The walks of Unescape, of impl.JpUnescape. -/
set_option linter.unusedVariables false
set_option linter.unusedSimpArgs false
namespace Go.Proofs.YtjpbjbcdobibbaaDoor.J
open Go.RowKit Go.Proofs.YtjpbjbcdobibbaaDoorW.PrintWords Go.Proofs.YtjpbjbcdobibbaaDoorW.PrintLast Go.Proofs.YtjpbjbcdobibbaaDoorW.PrintMore Go.Proofs.YtjpbjbcdobibbaaDoor.Aid Go.Proofs.YtjpbjbcdobibbaaDoor.PFnJpUnescape

abbrev gCfg : Nat := 0
abbrev gEsc : Nat := 2
abbrev gTab : Nat := 3
/-- What the package's variables hold. -/
structure Glob (w : World) (pt : TypeId) (pv : Value) : Prop where
  c0 : w.cell? ⟨gCfg, 0, none⟩ = some (.bool false)
  c1 : w.cell? ⟨gCfg, 1, none⟩ = some (.bool false)
  c2 : w.cell? ⟨gCfg, 2, none⟩ = some (.int .i64 0)
  e : w.cell? ⟨gEsc, 0, none⟩ = some (.iface pt pv)
  t : Tab w
theorem Glob.lt0 {w : World} {pt : TypeId} {pv : Value} (h : Glob w pt pv) : gCfg < w.heap.size := block_lt_of_cell h.c0
theorem Glob.lt1 {w : World} {pt : TypeId} {pv : Value} (h : Glob w pt pv) : gEsc < w.heap.size := block_lt_of_cell h.e
theorem Glob.lt2 {w : World} {pt : TypeId} {pv : Value} (h : Glob w pt pv) : gTab < w.heap.size := block_lt_of_cell (h.t 34 (by decide))
theorem Glob.below {w w' : World} {pt : TypeId} {pv : Value} (h : Glob w pt pv) (b : Below w.heap.size w w') : Glob w' pt pv :=
  ⟨(b.cell (p := ⟨gCfg, 0, none⟩) h.lt0).trans h.c0, (b.cell (p := ⟨gCfg, 1, none⟩) h.lt0).trans h.c1, (b.cell (p := ⟨gCfg, 2, none⟩) h.lt0).trans h.c2, (b.cell (p := ⟨gEsc, 0, none⟩) h.lt1).trans h.e,
    fun c hc => (b.cell (p := ⟨gTab, c.toNat, none⟩) h.lt2).trans (h.t c hc)⟩

set_option maxHeartbeats 4000000 in
set_option maxRecDepth 100000 in
theorem Unesc_any (w0 w : World) (pt : TypeId) (pv : Value) (b o c g m cO : Nat) (l : L) (cur : List Value) (hG : Glob w0 pt pv) (hB : Below w0.heap.size w0 w) (hBg : w0.heap.size ≤ g) (hbg : b ≠ g) (hbw : b < w.heap.size)
    (hb : ∀ x ∈ l, byt x) (hlm : l.length ≤ 4294967296) (hlc : l.length ≤ c) (hi : In w b o l) (hR : Row w g cur) (hcur : cO = cur.length) (hmc : m ≤ cO) :
    Calls Tryd.prog 26 #[.slice (some ⟨b, o, none⟩) l.length c, .slice (some ⟨g, 0, none⟩) m cO] w (UPost w0.heap.size w0 (pu l) (.iface pt pv)) := by
  have K := Lib.hid (unescConf_any w0.heap.size w0 w b o c g m cO l cur _ hB hB.size hBg hbg hbw hG.lt2 hG.lt1 hb hlm hlc hi hR hcur hmc hG.t hG.e)
  have c0 := (hB.cell (p := ⟨gCfg, 0, none⟩) hG.lt0).trans hG.c0
  have c1 := (hB.cell (p := ⟨gCfg, 1, none⟩) hG.lt0).trans hG.c1
  have c2 := (hB.cell (p := ⟨gCfg, 2, none⟩) hG.lt0).trans hG.c2
  clear hG hb hi hR hcur
  obtain ⟨r, hr⟩ : ∃ r, r = pu l := ⟨_, rfl⟩
  rw [← hr] at K ⊢
  clear hr
  cases r with
  | none =>
    go_enter Tryd.func26, Tryd.ntmps26
    go_wp2_with (go_at_call 39; refine K.out.mono ?_; rintro e w1 ⟨hb1, rfl⟩; replace hb1 := Lib.hid hb1)
    go_ret2
    exact ⟨hb1.out, rfl⟩
  | some q =>
    go_enter Tryd.func26, Tryd.ntmps26
    go_wp2_with (go_at_call 39; refine K.out.mono ?_; rintro e w1 ⟨hb1, b1, o1, c1', rfl, hI1, hq1⟩; replace hb1 := Lib.hid hb1; replace hI1 := Lib.hid hI1)
    go_ret2
    exact ⟨hb1.out, b1, o1, c1', rfl, hI1.out, hq1⟩

theorem in_string {w : World} {b o c : Nat} {q : L} (h : In w b o q) : (convert 56 9 (.slice (some ⟨b, o, none⟩) q.length c)).run Tryd.prog w = .ok (.string (strOfNums q)) w :=
  run_convert_bytes_arg (P := Tryd.prog) w 56 5 Tryd.underlying56 Tryd.underlying5 b o q.length c q rfl (fun i hi => by
    rw [h i hi]) 9 Tryd.underlying9
theorem bytes_in (W : World) (s : ByteArray) : In (Lib.bytesWorld W 5 s) W.heap.size 0 (bytesOf s) := by
  intro j hj
  rw [bytesOf_length] at hj
  rw [Nat.zero_add]
  exact bytes_cells W 5 s j hj

set_option maxHeartbeats 4000000 in
set_option maxRecDepth 100000 in
theorem JpUnescape_any (w : World) (pt : TypeId) (pv : Value) (s : ByteArray) (room : Int) (hG : Glob w pt pv) (hs : s.size ≤ 65536) (h0 : 0 ≤ room) (h1 : room ≤ 131072) :
    Calls Tryd.prog 11 #[.string s, .int .i64 room] w fun e w' => e = .returned (UEscR (unesc (bytesOf s))) ∧ Below w.heap.size w w' := by
  have kb := print_bytes (P := Tryd.prog) 9 56 5 Tryd.underlying9 Tryd.underlying56 Tryd.underlying5 s
  have hbB : Hid (∀ W : World, Below w.heap.size w W → Below w.heap.size w (Lib.bytesWorld W 5 s)) := Lib.hid (fun W h => bytes_below h h.size _ _)
  obtain ⟨n, hn⟩ : ∃ n : Nat, room % 65536 = (n : Int) := ⟨(room % 65536).toNat, by omega⟩
  have hn' : n < 65536 := by omega
  have hcap : s.size ≤ grownCap w s.size 0 5 := grownCap_ge ..
  have hlen := bytesOf_length s
  have kmk := print_make_int (P := Tryd.prog) tBs tB (.int .u8 0) 1 Tryd.underlying56 infoB rfl (by decide) (n : Int) (by omega) (by rw [Int.toNat_natCast]; omega)
  rw [Int.toNat_natCast] at kmk
  have kmk' : ∀ W : World, (Instr.makeSlice tBs (.int .i64 (max room 0 % 65536)) (.int .i64 (max room 0 % 65536))).run Tryd.prog W = .ok (.slice (some ⟨W.heap.size, 0, none⟩) n n) (W.alloc (.cells (madeCells #[.int .u8 0] n) tB)) := by
    intro W
    rw [show max room 0 % 65536 = (n : Int) by omega]
    exact kmk W
  obtain ⟨w1, hw1⟩ : ∃ w1, w1 = Lib.bytesWorld w 5 s := ⟨_, rfl⟩
  have hsz1 : w1.heap.size = w.heap.size + 1 := by rw [hw1]; exact Lib.bytesWorld_size ..
  have hI1 : In w1 w.heap.size 0 (bytesOf s) := by rw [hw1]; exact bytes_in w s
  have hB1 : Below w.heap.size w w1 := by rw [hw1]; exact bytes_below (Below.refl _ _) (Nat.le_refl _) _ _
  have hB2 : Below w.heap.size w (w1.alloc (.cells (madeCells #[.int .u8 0] n) tB)) := below_then hB1 hB1.size (below_alloc (Below.refl _ _) _)
  have K := Unesc_any w (w1.alloc (.cells (madeCells #[.int .u8 0] n) tB)) pt pv w.heap.size 0 (grownCap w s.size 0 5) w1.heap.size n n (bytesOf s) (List.replicate n (.int .u8 0)) hG hB2 (by omega) (by omega) (by simp; omega) (fun x hx => by have := bytesOf_range s x hx; exact ⟨this.1, by omega⟩) (by omega) (by omega)
    (hI1.alloc _) ⟨tB, by rw [made_arr]; exact heap_alloc_new w1 _⟩ (by simp) (Nat.le_refl _)
  rw [hlen, pu_eq] at K
  have kbw := kb w
  rw [← hw1] at kbw
  replace K := Lib.hid K
  replace hn := Lib.hid hn
  have hszH := Lib.hid hsz1
  clear kb hbB hw1 hI1 hB1 hB2 hlen hsz1 hG kmk
  obtain ⟨r, hr⟩ : ∃ r, r = unesc (bytesOf s) := ⟨_, rfl⟩
  rw [← hr] at K ⊢
  clear hr
  cases r with
  | none =>
    go_enter Tryd.func11, Tryd.ntmps11
    go_wp2_with (go_at_call 26; refine K.out.mono ?_; rintro e w2 ⟨hb2, rfl⟩; replace hb2 := Lib.hid hb2)
    go_ret2
    exact ⟨rfl, hb2.out⟩
  | some q =>
    go_enter Tryd.func11, Tryd.ntmps11
    go_wp2_with (go_at_call 26; refine K.out.mono ?_; rintro e w2 ⟨hb2, b1, o1, c1, rfl, hI1, hq1⟩; replace hb2 := Lib.hid hb2; have ks := in_string (c := c1) hI1; clear hI1)
    go_ret2
    exact ⟨rfl, hb2.out⟩

end Go.Proofs.YtjpbjbcdobibbaaDoor.J

/- The walks of Escape, ParseString. -/
set_option linter.unusedVariables false
set_option linter.unusedSimpArgs false
namespace Go.Proofs.YtjpbjbcdobibbaaDoor.J
open Go.RowKit Go.Proofs.YtjpbjbcdobibbaaDoorW.PrintWords Go.Proofs.YtjpbjbcdobibbaaDoorW.PrintLast Go.Proofs.YtjpbjbcdobibbaaDoorW.PrintMore Go.Proofs.YtjpbjbcdobibbaaDoor.Aid

/-- At a byte: out, start, i; E is what was ahead of start, written. -/
def EsI (w W : World) (s : ByteArray) (kq : Nat) (v4 v5 v6 : Value) : Prop :=
  ∃ (st i : Nat) (E : L), v5 = .int .i64 ((st : Nat) : Int) ∧ v6 = .int .i64 ((i : Nat) : Int) ∧ st ≤ i ∧ i + kq = s.size ∧ OutT w W v4 (34 :: E) ∧ E ++ ((bytesOf s).drop st).take (i - st) = eos ((bytesOf s).take i) ∧ E.length ≤ 6 * st
theorem EsI.mk {w W : World} {s : ByteArray} {v : Value} {i : Nat} {E : L} (hi : i ≤ s.size) (hO : OutT w W v (34 :: E)) (he : E = eos ((bytesOf s).take i)) : EsI w W s (s.size - i) v (.int .i64 ((i : Nat) : Int)) (.int .i64 ((i : Nat) : Int)) :=
  ⟨i, i, E, rfl, rfl, Nat.le_refl _, by omega, hO, by rw [Nat.sub_self, he]; simp, by
    rw [he]
    have := (eos_len ((bytesOf s).take i)).2
    rw [List.length_take, bytesOf_length] at this
    omega⟩
def EsPost (w : World) (s : ByteArray) (e : Ending) (w' : World) : Prop := ∃ v, e = .returned v ∧ OutT w w' v (34 :: (eos (bytesOf s) ++ [34]))
theorem take_snoc' (s : ByteArray) (i : Nat) (h : i < s.size) : (bytesOf s).take (i + 1) = (bytesOf s).take i ++ [((s[i]'h).toNat : Int)] := by
  have hl : i < (bytesOf s).length := by rw [bytesOf_length]; exact h
  rw [List.take_succ_eq_append_getElem hl]
  congr 2
  have h1 := bt_at s (i : Int) (by rw [Int.toNat_natCast]; exact h)
  have h2 := bytesOf_get? s i h
  rw [List.getElem?_eq_getElem hl] at h2
  rw [Option.some.inj h2, ← h1]; rfl
theorem eos_snoc (l : L) (c : Int) : eos (l ++ [c]) = eos l ++ eo c := by simp [eos]
theorem drop_take_snoc (s : ByteArray) (st i : Nat) (hst : st ≤ i) (h : i < s.size) : ((bytesOf s).drop st).take (i + 1 - st) = ((bytesOf s).drop st).take (i - st) ++ [((s[i]'h).toNat : Int)] := by
  have := take_snoc' s i h
  have e1 : ((bytesOf s).drop st).take (i + 1 - st) = ((bytesOf s).take (i + 1)).drop st := by rw [List.drop_take]
  have e2 : ((bytesOf s).drop st).take (i - st) = ((bytesOf s).take i).drop st := by rw [List.drop_take]
  rw [e1, e2, this, List.drop_append_of_le_length (by rw [List.length_take, bytesOf_length]; omega)]
theorem slice_strI2 (s : ByteArray) (b e : Nat) (h1 : b ≤ e) (h2 : e ≤ s.size) (W : World) :
    (Instr.slice 9 (.string s) (some (.int .i64 (b : Int))) (some (.int .i64 (e : Int))) none).run Tryd.prog W = .ok (.string (s.extract b e)) W := by
  have := slice_strI s (b : Int) (e : Int) (by omega) (by omega) (by omega) W
  rwa [Int.toNat_natCast, Int.toNat_natCast] at this
theorem slice_from (s : ByteArray) (b : Nat) (h1 : b ≤ s.size) (W : World) :
    (Instr.slice 9 (.string s) (some (.int .i64 (b : Int))) none none).run Tryd.prog W = .ok (.string (s.extract b s.size)) W := by
  go_simp

set_option maxRecDepth 100000 in
theorem hexIdx (d : Int) (h0 : 0 ≤ d) (h1 : d ≤ 15) (W : World) : (Instr.index 9 (.string { data := #[48, 49, 50, 51, 52, 53, 54, 55, 56, 57, 97, 98, 99, 100, 101, 102] }) (.int .u8 d)).run Tryd.prog W = .ok (.int .u8 (hx1 d)) W := by
  have : d = 0 ∨ d = 1 ∨ d = 2 ∨ d = 3 ∨ d = 4 ∨ d = 5 ∨ d = 6 ∨ d = 7 ∨ d = 8 ∨ d = 9 ∨ d = 10 ∨ d = 11 ∨ d = 12 ∨ d = 13 ∨ d = 14 ∨ d = 15 := by omega
  rcases this with rfl | rfl | rfl | rfl | rfl | rfl | rfl | rfl | rfl | rfl | rfl | rfl | rfl | rfl | rfl | rfl <;> rfl

set_option maxHeartbeats 8000000 in
set_option maxRecDepth 100000 in
theorem Escape_any (s : ByteArray) (w : World) (hs : s.size ≤ 16384) :
    Calls Tryd.prog 32 #[.string s] w (EsPost w s) := by
  go_enter Tryd.func32, Tryd.ntmps32
  go_wp2_with fail
  go_loopg [4, 5, 6] s.size (fun kq v4 v5 v6 w' => Hid (EsI w w' s kq v4 v5 v6))
  case atStart =>
    have h1 := heap_alloc_new w (.cells ((Value.int .u8 34) :: List.replicate 63 (Value.int .u8 0)).toArray 84)
    refine Lib.hid ⟨0, 0, [], rfl, rfl, Nat.le_refl _, by omega, ⟨((Below.refl _ _).alloc (Nat.le_refl _) _).alloc (by simp) _, w.heap.size, 64, (Value.int .u8 34) :: List.replicate 63 (Value.int .u8 0), rfl, Nat.le_refl _, ⟨84, blk_alloc h1 _⟩, by simp, by simp, by omega, rfl⟩, by simp [eos], by simp⟩
  case round =>
    obtain ⟨st, i, E, rfl, rfl, hst, hik, hO, he, hEl⟩ := hrel.out
    clear hrel
    have HO := Lib.hid hO
    have HE := Lib.hid he
    have HK := Lib.hid hik
    clear hO he
    rcases Nat.lt_or_ge i s.size with hlt | hge
    · obtain ⟨c, hc⟩ : ∃ c : Int, c = ((s[i]'hlt).toNat : Int) := ⟨_, rfl⟩
      have hcr : 0 ≤ c ∧ c ≤ 255 := by have := (s[i]'hlt).toNat_lt; omega
      have hce : (bytesOf (s.extract st i)).length = i - st := by rw [bytesOf_extract, List.length_take, List.length_drop, bytesOf_length]; omega
      by_cases hp : 32 ≤ c ∧ c ≠ 34 ∧ c ≠ 92
      · obtain ⟨p1, p2, p3⟩ := hp
        have b1 : decide (((s[i]'hlt).toNat : Int) ≥ 32) = true := decide_eq_true (by omega)
        have b2 : (((s[i]'hlt).toNat : Int) != 34) = true := bne_iff_ne.mpr (by omega)
        have b3 : (((s[i]'hlt).toNat : Int) != 92) = true := bne_iff_ne.mpr (by omega)
        have heo : eo c = [c] := by unfold eo; rw [if_neg (by omega), if_neg (by omega), if_neg (by omega), if_neg (by omega), if_neg (by omega), if_neg (by omega), if_neg (by omega)]
        have fin : Hid (EsI w wr s (s.size - (i + 1)) _ (.int .i64 ((st : Nat) : Int)) (.int .i64 ((i + 1 : Nat) : Int))) := Lib.hid ⟨st, i + 1, E, rfl, rfl, by omega, by omega, HO.out, by rw [drop_take_snoc s st i hst hlt, ← List.append_assoc, HE.out, take_snoc' s i hlt, eos_snoc, ← hc, heo], hEl⟩
        clear hc hcr p1 p2 p3 heo hik hce
        go_wp2
        go_roundg (s.size - (i + 1))
        case rel => exact fin
        case measure => have := HK.out; omega
      · have hcr2 : c < 32 ∨ c = 34 ∨ c = 92 := by omega
        have finc : ∀ (lit : L), eo c = lit → Hid (∀ v1 w1, OutT w w1 v1 (((34 :: E) ++ bytesOf (s.extract st i)) ++ lit) → EsI w w1 s (s.size - (i + 1)) v1 (.int .i64 ((i + 1 : Nat) : Int)) (.int .i64 ((i + 1 : Nat) : Int))) := fun lit e => Lib.hid (fun v1 w1 ho =>
          EsI.mk (E := E ++ bytesOf (s.extract st i) ++ lit) (by omega) (by simpa using ho) (by rw [bytesOf_extract, HE.out, take_snoc' s i hlt, eos_snoc, ← hc, e]))
        have ksl := slice_strI2 s st i hst (by omega)
        have hes : (s.extract st i).size ≤ 16384 := by rw [← bytesOf_length, hce]; omega
        have hl1 : (34 :: E).length + (s.extract st i).size ≤ 4294967296 := by simp only [List.length_cons]; omega
        have hl2 : ((34 :: E) ++ bytesOf (s.extract st i)).length + 6 ≤ 4294967296 := by simp only [List.length_append, List.length_cons, bytesOf_length]; omega
        by_cases h34 : c = 34
        · have hx : ((s[i]'hlt).toNat : Int) = 34 := by omega
          have fin := finc [92, 34] (by rw [h34]; rfl)
          clear hc hcr hik hce hcr2 finc hp h34
          go_wp2_with (first | (at_builtin; refine outT_str rfl (.tmp 31) (.tmp 35) rfl _ (s.extract st i) (34 :: E) rfl (by simp [go_sem]) HO.out hl1 ?_; intro v1 w1 ho; replace ho := Lib.hid ho) | (at_builtin; refine outT_row rfl (.tmp 50) (.tmp 52) rfl _ [92, 34] _ 2 2 rfl (by simp [go_sem]) rfl ho.out (Nat.le_trans (Nat.add_le_add_left (by decide) _) hl2) ?_; intro v2 w2 ho2; replace ho2 := Lib.hid ho2))
          go_roundg (s.size - (i + 1))
          case rel => exact Lib.hid (fin.out _ _ ho2.out)
          case measure => have := HK.out; omega
        by_cases h92 : c = 92
        · have hx : ((s[i]'hlt).toNat : Int) = 92 := by omega
          have fin := finc [92, 92] (by rw [h92]; rfl)
          clear hc hcr hik hce hcr2 finc hp h34 h92
          go_wp2_with (first | (at_builtin; refine outT_str rfl (.tmp 31) (.tmp 35) rfl _ (s.extract st i) (34 :: E) rfl (by simp [go_sem]) HO.out hl1 ?_; intro v1 w1 ho; replace ho := Lib.hid ho) | (at_builtin; refine outT_row rfl (.tmp 50) (.tmp 52) rfl _ [92, 92] _ 2 2 rfl (by simp [go_sem]) rfl ho.out (Nat.le_trans (Nat.add_le_add_left (by decide) _) hl2) ?_; intro v2 w2 ho2; replace ho2 := Lib.hid ho2))
          go_roundg (s.size - (i + 1))
          case rel => exact Lib.hid (fin.out _ _ ho2.out)
          case measure => have := HK.out; omega
        by_cases h8 : c = 8
        · have hx : ((s[i]'hlt).toNat : Int) = 8 := by omega
          have fin := finc [92, 98] (by rw [h8]; rfl)
          clear hc hcr hik hce hcr2 finc hp h34 h92 h8
          go_wp2_with (first | (at_builtin; refine outT_str rfl (.tmp 31) (.tmp 35) rfl _ (s.extract st i) (34 :: E) rfl (by simp [go_sem]) HO.out hl1 ?_; intro v1 w1 ho; replace ho := Lib.hid ho) | (at_builtin; refine outT_row rfl (.tmp 56) (.tmp 57) rfl _ [92, 98] _ 2 2 rfl (by simp [go_sem]) rfl ho.out (Nat.le_trans (Nat.add_le_add_left (by decide) _) hl2) ?_; intro v2 w2 ho2; replace ho2 := Lib.hid ho2))
          go_roundg (s.size - (i + 1))
          case rel => exact Lib.hid (fin.out _ _ ho2.out)
          case measure => have := HK.out; omega
        by_cases h12 : c = 12
        · have hx : ((s[i]'hlt).toNat : Int) = 12 := by omega
          have fin := finc [92, 102] (by rw [h12]; rfl)
          clear hc hcr hik hce hcr2 finc hp h34 h92 h8 h12
          go_wp2_with (first | (at_builtin; refine outT_str rfl (.tmp 31) (.tmp 35) rfl _ (s.extract st i) (34 :: E) rfl (by simp [go_sem]) HO.out hl1 ?_; intro v1 w1 ho; replace ho := Lib.hid ho) | (at_builtin; refine outT_row rfl (.tmp 61) (.tmp 62) rfl _ [92, 102] _ 2 2 rfl (by simp [go_sem]) rfl ho.out (Nat.le_trans (Nat.add_le_add_left (by decide) _) hl2) ?_; intro v2 w2 ho2; replace ho2 := Lib.hid ho2))
          go_roundg (s.size - (i + 1))
          case rel => exact Lib.hid (fin.out _ _ ho2.out)
          case measure => have := HK.out; omega
        by_cases h10 : c = 10
        · have hx : ((s[i]'hlt).toNat : Int) = 10 := by omega
          have fin := finc [92, 110] (by rw [h10]; rfl)
          clear hc hcr hik hce hcr2 finc hp h34 h92 h8 h12 h10
          go_wp2_with (first | (at_builtin; refine outT_str rfl (.tmp 31) (.tmp 35) rfl _ (s.extract st i) (34 :: E) rfl (by simp [go_sem]) HO.out hl1 ?_; intro v1 w1 ho; replace ho := Lib.hid ho) | (at_builtin; refine outT_row rfl (.tmp 66) (.tmp 67) rfl _ [92, 110] _ 2 2 rfl (by simp [go_sem]) rfl ho.out (Nat.le_trans (Nat.add_le_add_left (by decide) _) hl2) ?_; intro v2 w2 ho2; replace ho2 := Lib.hid ho2))
          go_roundg (s.size - (i + 1))
          case rel => exact Lib.hid (fin.out _ _ ho2.out)
          case measure => have := HK.out; omega
        by_cases h13 : c = 13
        · have hx : ((s[i]'hlt).toNat : Int) = 13 := by omega
          have fin := finc [92, 114] (by rw [h13]; rfl)
          clear hc hcr hik hce hcr2 finc hp h34 h92 h8 h12 h10 h13
          go_wp2_with (first | (at_builtin; refine outT_str rfl (.tmp 31) (.tmp 35) rfl _ (s.extract st i) (34 :: E) rfl (by simp [go_sem]) HO.out hl1 ?_; intro v1 w1 ho; replace ho := Lib.hid ho) | (at_builtin; refine outT_row rfl (.tmp 71) (.tmp 72) rfl _ [92, 114] _ 2 2 rfl (by simp [go_sem]) rfl ho.out (Nat.le_trans (Nat.add_le_add_left (by decide) _) hl2) ?_; intro v2 w2 ho2; replace ho2 := Lib.hid ho2))
          go_roundg (s.size - (i + 1))
          case rel => exact Lib.hid (fin.out _ _ ho2.out)
          case measure => have := HK.out; omega
        by_cases h9 : c = 9
        · have hx : ((s[i]'hlt).toNat : Int) = 9 := by omega
          have fin := finc [92, 116] (by rw [h9]; rfl)
          clear hc hcr hik hce hcr2 finc hp h34 h92 h8 h12 h10 h13 h9
          go_wp2_with (first | (at_builtin; refine outT_str rfl (.tmp 31) (.tmp 35) rfl _ (s.extract st i) (34 :: E) rfl (by simp [go_sem]) HO.out hl1 ?_; intro v1 w1 ho; replace ho := Lib.hid ho) | (at_builtin; refine outT_row rfl (.tmp 76) (.tmp 77) rfl _ [92, 116] _ 2 2 rfl (by simp [go_sem]) rfl ho.out (Nat.le_trans (Nat.add_le_add_left (by decide) _) hl2) ?_; intro v2 w2 ho2; replace ho2 := Lib.hid ho2))
          go_roundg (s.size - (i + 1))
          case rel => exact Lib.hid (fin.out _ _ ho2.out)
          case measure => have := HK.out; omega
        have ha : 0 ≤ c ∧ c ≤ 31 := by omega
        go_wp2_with (first | (at_builtin; refine outT_str rfl (.tmp 31) (.tmp 35) rfl _ (s.extract st i) (34 :: E) rfl (by simp [go_sem]) HO.out hl1 ?_; intro v1 w1 ho; replace ho := Lib.hid ho))
        have kx1 := hexIdx (((s[i]'hlt).toNat : Int) / 16) (by omega) (by omega)
        have kx2 : ∀ W : World, (Instr.index 9 (.string { data := #[48, 49, 50, 51, 52, 53, 54, 55, 56, 57, 97, 98, 99, 100, 101, 102] }) (.int .u8 (bits .and .u8 ((s[i]'hlt).toNat : Int) 15))).run Tryd.prog W = .ok (.int .u8 (hx1 (((s[i]'hlt).toNat : Int) % 16))) W := by
          intro W; rw [u8_and15 _ (by omega) (by omega)]; exact hexIdx _ (by omega) (by omega) W
        have fin := finc [92, 117, 48, 48, hx1 (((s[i]'hlt).toNat : Int) / 16), hx1 (((s[i]'hlt).toNat : Int) % 16)] (by rw [← hc]; unfold eo; rw [if_neg (by omega), if_neg (by omega), if_neg (by omega), if_neg (by omega), if_neg (by omega), if_neg (by omega), if_pos (by omega)])
        go_region_held3 (fun _ => True) (trivial) ((refine step_outT rfl (.tmp 38) (.tmp 45) rfl v1 [92, 117, 48, 48, hx1 (((s[i]'hlt).toNat : Int) / 16), hx1 (((s[i]'hlt).toNat : Int) % 16)] _ 6 6 (by rfl) (by first | rfl | simp [go_sem]) rfl ho.out.drew hl2 ?_; intro v2 w2 ho2))
        all_goals (replace ho2 := Lib.hid ho2)
        all_goals (clear hc hcr hik hce hcr2 finc hp h34 h92 h8 h12 h10 h13 h9 ha kx1 kx2)
        all_goals go_wp2
        all_goals
          go_roundg (s.size - (i + 1))
          case rel => exact Lib.hid (fin.out _ _ ho2.out)
          case measure => have := HK.out; omega
    · obtain rfl : i = s.size := by omega
      have ksf := slice_from s st hst
      have hes : (s.extract st s.size).size ≤ 16384 := by rw [ByteArray.size_extract]; omega
      have hl1 : (34 :: E).length + (s.extract st s.size).size ≤ 4294967296 := by simp only [List.length_cons]; omega
      have hl2 : ((34 :: E) ++ bytesOf (s.extract st s.size)).length + 6 ≤ 4294967296 := by simp only [List.length_append, List.length_cons, bytesOf_length]; omega
      have fin : Hid (((34 :: E) ++ bytesOf (s.extract st s.size)) ++ [34] = 34 :: (eos (bytesOf s) ++ [34])) := Lib.hid (by
        have h1 := HE.out
        have h2 : (bytesOf s).take s.size = bytesOf s := List.take_of_length_le (by rw [bytesOf_length]; exact Nat.le_refl _)
        rw [h2] at h1
        rw [← h1, bytesOf_extract]; simp)
      clear hik hes
      go_wp2_with (first | (at_builtin; refine outT_str rfl (.tmp 81) (.tmp 84) rfl _ (s.extract st s.size) (34 :: E) rfl (by simp [go_sem]) HO.out hl1 ?_; intro v1 w1 ho; replace ho := Lib.hid ho) | (at_builtin; refine outT_row rfl (.tmp 86) (.tmp 87) rfl _ [34] _ 1 1 rfl (by simp [go_sem]) rfl ho.out (Nat.le_trans (Nat.add_le_add_left (by decide) _) hl2) ?_; intro v2 w2 ho2; rw [fin.out] at ho2; replace ho2 := Lib.hid ho2))
      go_ret
      exact ⟨v2, rfl, ho2.out⟩
end Go.Proofs.YtjpbjbcdobibbaaDoor.J

