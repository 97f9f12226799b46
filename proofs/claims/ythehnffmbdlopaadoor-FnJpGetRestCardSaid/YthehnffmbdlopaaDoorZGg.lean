/- Several texts in one. -/
import Derived.Test.YthehnffmbdlopaaDoorZGa
import Derived.Test.YthehnffmbdlopaaDoorZGy
import Derived.Test.YthehnffmbdlopaaDoorZShelf
import Derived.Laws.IdiomCopy
import Derived.Laws.CopyOwn
import Derived.BigQuiet
import Derived.Deep.LoopGhost
import Derived.Deep.DeepCutAuto
set_option linter.unusedVariables false
namespace Go.Proofs.YthehnffmbdlopaaDoor.J
open Go.RowKit Go.Proofs.YthehnffmbdlopaaDoorW.PrintWords Go.Proofs.YthehnffmbdlopaaDoor.PFnJpGetRest

theorem rd_getD (l : L) (i : Nat) : rd l (i : Int) = l.getD i 0 := by unfold rd; rw [Int.toNat_natCast]
def byt (c : Int) : Prop := 0 ≤ c ∧ c ≤ 255
theorem h2I_f (k : Nat) (c : Int) (h : byt c) : jsonparser_h2I.f (k + 2) c = some (if hex c = true then hv c else -1) := by
  obtain ⟨h0, h1⟩ := h
  unfold jsonparser_h2I.f jsonparser_h2I.j0 jsonparser_h2I.j1
  unfold hex hv dig
  by_cases a1 : 48 ≤ c
  · by_cases a2 : c ≤ 57
    · simp [a1, a2]; omega
    · by_cases a3 : 65 ≤ c
      · by_cases a4 : c ≤ 70
        · have : ¬ 97 ≤ c := by omega
          simp [a1, a2, a3, a4, this]; omega
        · by_cases a5 : 97 ≤ c
          · by_cases a6 : c ≤ 102
            · simp [a1, a2, a3, a4, a5, a6]; omega
            · simp [a1, a2, a3, a4, a5, a6]
          · simp [a1, a2, a3, a4, a5]
      · have : ¬ 97 ≤ c := by omega
        simp [a1, a2, a3, this]
  · have b1 : ¬ 65 ≤ c := by omega
    have b2 : ¬ 97 ≤ c := by omega
    simp [a1, b1, b2]

/-- The four digits behind two bytes. -/
def hx4 (l : L) : Option Int :=
  if 6 ≤ l.length ∧ hex (l.getD 2 0) = true ∧ hex (l.getD 3 0) = true ∧ hex (l.getD 4 0) = true ∧ hex (l.getD 5 0) = true then
    some (((hv (l.getD 2 0) * 16 + hv (l.getD 3 0)) * 16 + hv (l.getD 4 0)) * 16 + hv (l.getD 5 0)) else none
theorem unit_hx4 {l : L} (h0 : l.getD 0 0 = 92) (h1 : l.getD 1 0 = 117) : unit l = hx4 l := by
  unfold unit hx4
  simp only [h0, h1, true_and]
theorem hx4_range {l : L} {n : Int} (h : hx4 l = some n) : 0 ≤ n ∧ n ≤ 65535 := by
  unfold hx4 at h
  split at h
  · rename_i hh
    obtain ⟨_, h2, h3, h4, h5⟩ := hh
    have := hv_range h2; have := hv_range h3; have := hv_range h4; have := hv_range h5
    injection h with h; omega
  · cases h
def dec1 (l : L) : Int × Bool := match hx4 l with
  | some n => (n, true)
  | none => (65533, false)
theorem byt_getD {l : L} (hb : ∀ x ∈ l, byt x) (i : Nat) : byt (l.getD i 0) := by
  rw [List.getD_eq_getElem?_getD]
  cases h : l[i]? with
  | none => exact ⟨by simp, by simp⟩
  | some x => exact hb x (List.mem_of_getElem? h)
theorem dec1_f (k : Nat) (l : L) (hb : ∀ x ∈ l, byt x) : jsonparser_decodeSingleUnicodeEscape.f (k + 2) l = some (dec1 l) := by
  unfold jsonparser_decodeSingleUnicodeEscape.f dec1 hx4
  by_cases h6 : (l.length : Int) < 6
  · rw [if_pos h6, if_neg (by omega)]
  · rw [if_neg h6, if_pos (show 2 < (l.length : Int) by omega)]
    have e2 : rd l 2 = l.getD 2 0 := rd_getD l 2
    have e3 : rd l 3 = l.getD 3 0 := rd_getD l 3
    have e4 : rd l 4 = l.getD 4 0 := rd_getD l 4
    have e5 : rd l 5 = l.getD 5 0 := rd_getD l 5
    rw [e2, h2I_f k _ (byt_getD hb 2), Option.bind_some, if_pos (show 3 < (l.length : Int) by omega)]
    rw [e3, h2I_f k _ (byt_getD hb 3), Option.bind_some, if_pos (show 4 < (l.length : Int) by omega)]
    rw [e4, h2I_f k _ (byt_getD hb 4), Option.bind_some, if_pos (show 5 < (l.length : Int) by omega)]
    rw [e5, h2I_f k _ (byt_getD hb 5), Option.bind_some]
    by_cases a2 : hex (l.getD 2 0) = true
    · have r2 := hv_range a2
      rw [if_pos a2, if_neg (show ¬ hv (l.getD 2 0) = -1 by omega)]
      by_cases a3 : hex (l.getD 3 0) = true
      · have r3 := hv_range a3
        rw [if_pos a3, if_neg (show ¬ hv (l.getD 3 0) = -1 by omega)]
        by_cases a4 : hex (l.getD 4 0) = true
        · have r4 := hv_range a4
          rw [if_pos a4, if_neg (show ¬ hv (l.getD 4 0) = -1 by omega)]
          by_cases a5 : hex (l.getD 5 0) = true
          · have r5 := hv_range a5
            rw [if_pos a5, if_neg (show ¬ hv (l.getD 5 0) = -1 by omega), if_pos ⟨by omega, a2, a3, a4, a5⟩]
            simp only [Option.some.injEq, Prod.mk.injEq, and_true]
            unfold wrap32 wrap64
            omega
          · rw [if_neg a5, if_pos rfl, if_neg (fun h => a5 h.2.2.2.2)]
        · rw [if_neg a4, if_pos rfl, if_neg (fun h => a4 h.2.2.2.1)]
      · rw [if_neg a3, if_pos rfl, if_neg (fun h => a3 h.2.2.1)]
    · rw [if_neg a2, if_pos rfl, if_neg (fun h => a2 h.2.1)]
/-- An escape behind "\u": its character (U+FFFD for half a pair), and how many bytes it has. -/
def duc (l : L) : Int × Int := match hx4 l with
  | none => (65533, -1)
  | some n => if high n = true then (if l.length < 8 ∨ l.getD 6 0 ≠ 92 ∨ l.getD 7 0 ≠ 117 then (65533, 6) else match hx4 (l.drop 6) with
      | none => (65533, -1)
      | some m => if low m = true then (comb n m, 12) else (65533, 6))
    else if low n = true then (65533, 6) else (n, 6)
theorem j0_true (k : Nat) (l : L) (x : Int) : jsonparser_decodeUnicodeEscape.j0 (k + 1) l x true = some (65533, 6) := by unfold jsonparser_decodeUnicodeEscape.j0; rfl
theorem duc_f (k : Nat) (l : L) (hb : ∀ x ∈ l, byt x) : jsonparser_decodeUnicodeEscape.f (k + 3) l = some (duc l) := by
  unfold jsonparser_decodeUnicodeEscape.f
  rw [dec1_f (k + 1) l hb]
  simp only [Option.bind_some]
  unfold dec1 duc
  cases e : hx4 l with
  | none => rfl
  | some n =>
    have hn := hx4_range e
    simp only [if_true]
    unfold jsonparser_isUTF16EncodedRune.f
    by_cases s1 : 55296 ≤ n
    · rw [if_pos s1]
      simp only [Option.bind_some, decide_eq_true_eq]
      by_cases s2 : n ≤ 57343
      · rw [if_pos s2]
        by_cases s3 : 56320 ≤ n
        · rw [if_pos (show n ≥ 56320 from s3), if_neg (by unfold high; simp; omega), if_pos (by unfold low; simp; omega)]
        · rw [if_neg (show ¬ n ≥ 56320 from s3), if_pos (show high n = true by unfold high; simp; omega)]
          by_cases s4 : (l.length : Int) < 8
          · rw [if_pos s4, j0_true, if_pos (Or.inl (by omega))]
          · have e6 : rd l 6 = l.getD 6 0 := rd_getD l 6
            have e7 : rd l 7 = l.getD 7 0 := rd_getD l 7
            rw [if_neg s4, if_pos (show 6 < (l.length : Int) by omega), e6, e7]
            by_cases s5 : l.getD 6 0 = 92
            · rw [if_pos s5, if_pos (show 7 < (l.length : Int) by omega)]
              by_cases s6 : l.getD 7 0 = 117
              · rw [if_neg (show ¬ (l.length < 8 ∨ l.getD 6 0 ≠ 92 ∨ l.getD 7 0 ≠ 117) by simp only [s5, s6]; omega), s6]
                unfold jsonparser_decodeUnicodeEscape.j0
                simp only [bne_self_eq_false, Bool.false_eq_true, if_false]
                rw [if_pos (show 6 ≤ (l.length : Int) by omega), dec1_f k (l.drop 6) (fun x hx => hb x (List.mem_of_mem_drop hx))]
                simp only [Option.bind_some]
                unfold dec1
                cases e2 : hx4 (l.drop 6) with
                | none => rfl
                | some m =>
                  have hm := hx4_range e2
                  simp only [if_true]
                  by_cases t1 : m < 56320
                  · rw [if_pos t1, if_neg (by unfold low; simp; omega)]
                  · rw [if_neg t1]
                    by_cases t2 : m > 57343
                    · rw [if_pos t2, if_neg (by unfold low; simp; omega)]
                    · rw [if_neg t2, if_pos (show low m = true by unfold low; simp; omega)]
                      unfold jsonparser_combineUTF16Surrogates.f comb
                      simp only [Option.bind_some, Option.some.injEq, Prod.mk.injEq, and_true]
                      unfold wrap32
                      omega
              · rw [if_pos (show (l.length < 8 ∨ l.getD 6 0 ≠ 92 ∨ l.getD 7 0 ≠ 117) from .inr (.inr s6)), show (l.getD 7 0 != 117) = true from bne_iff_ne.mpr s6, j0_true]
            · rw [if_neg s5, j0_true, if_pos (.inr (.inl s5))]
      · rw [if_neg s2, if_neg (by unfold high; simp; omega), if_neg (by unfold low; simp; omega)]
    · rw [if_neg s1]
      simp only [Option.bind_some, Bool.false_eq_true, if_false]
      rw [if_neg (by unfold high; simp; omega), if_neg (by unfold low; simp; omega)]
/-- What it is to the parser. -/
theorem duc_ue {l : L} (h2 : 2 ≤ l.length) (h0 : l.getD 0 0 = 92) (h1 : l.getD 1 0 = 117) :
    (ue l = none ∧ (duc l).2 = -1) ∨ ∃ k o, ue l = some (k, o) ∧ (duc l).2 = (k : Int) ∧ o = utf8 (duc l).1 ∧ 0 ≤ (duc l).1 ∧ (duc l).1 ≤ 1114111 := by
  have r : utf8 65533 = [239, 191, 189] := by decide
  unfold ue duc
  rw [if_neg (by omega), h1, if_neg (by decide), if_pos rfl, unit_hx4 h0 h1]
  cases e : hx4 l with
  | none => exact .inl ⟨rfl, rfl⟩
  | some n =>
    have hn := hx4_range e
    simp only []
    by_cases hh : high n = true
    · rw [if_pos hh, if_pos hh]
      by_cases hc : l.length < 8 ∨ l.getD 6 0 ≠ 92 ∨ l.getD 7 0 ≠ 117
      · rw [if_pos hc, if_pos hc]
        exact .inr ⟨6, _, rfl, rfl, r.symm, by decide, by decide⟩
      · rw [if_neg hc, if_neg hc]
        have d0 : (l.drop 6).getD 0 0 = 92 := by rw [getD_drop']; exact Classical.not_not.1 fun h => hc (.inr (.inl h))
        have d1 : (l.drop 6).getD 1 0 = 117 := by rw [getD_drop']; exact Classical.not_not.1 fun h => hc (.inr (.inr h))
        rw [unit_hx4 d0 d1]
        cases e2 : hx4 (l.drop 6) with
        | none => exact .inl ⟨rfl, rfl⟩
        | some m =>
          have hm := hx4_range e2
          simp only []
          by_cases hl : low m = true
          · rw [if_pos hl, if_pos hl]
            refine .inr ⟨12, _, rfl, rfl, rfl, ?_, ?_⟩
            · unfold high at hh; unfold low at hl; unfold comb; simp at hh hl ⊢; omega
            · unfold high at hh; unfold low at hl; unfold comb; simp at hh hl ⊢; omega
          · rw [if_neg hl, if_neg hl]
            exact .inr ⟨6, _, rfl, rfl, r.symm, by decide, by decide⟩
    · rw [if_neg hh, if_neg hh]
      by_cases hl : low n = true
      · rw [if_pos hl]
        exact .inr ⟨6, _, rfl, rfl, by rw [r, utf8_sur (.inr hl)], by decide, by decide⟩
      · rw [if_neg hl]
        exact .inr ⟨6, _, rfl, rfl, rfl, hn.1, by show n ≤ 1114111; omega⟩
end Go.Proofs.YthehnffmbdlopaaDoor.J

set_option linter.unusedVariables false
set_option linter.unusedSimpArgs false
namespace Go.Proofs.YthehnffmbdlopaaDoor.J
open Go.RowKit Go.Proofs.YthehnffmbdlopaaDoorW.PrintWords Go.Proofs.YthehnffmbdlopaaDoorW.PrintLast Go.Proofs.YthehnffmbdlopaaDoorW.PrintMore Go.Proofs.YthehnffmbdlopaaDoor.Aid Go.Proofs.YthehnffmbdlopaaDoor.PFnJpGetRest
abbrev tBs : Nat := 57
abbrev tB : Nat := 5

/-- From ⟨b, o⟩ on the cells hold l. -/
def In (w : World) (b o : Nat) (l : L) : Prop := ∀ j, j < l.length → w.cell? ⟨b, o + j, none⟩ = some (.int .u8 (l.getD j 0))
theorem In.drop {w : World} {b o : Nat} {l : L} (h : In w b o l) (k : Nat) : In w b (o + k) (l.drop k) := by
  intro j hj
  rw [List.length_drop] at hj
  rw [getD_drop', Nat.add_assoc]
  exact h (k + j) (by omega)
theorem In.reads {w : World} {b o : Nat} {l : L} (h : In w b o l) (hl : l.length ≤ 9223372036854775807) : ReadsInt w .u8 (some ⟨b, o, none⟩) l.length l :=
  ⟨rfl, hl, fun _ => ⟨_, rfl, fun j hj => by
    have : (⟨b, o, none⟩ : Addr).add j = ⟨b, o + j, none⟩ := by unfold Addr.add; split <;> simp_all
    rw [this]; exact h j hj⟩⟩
theorem In.block {w w' : World} {b o : Nat} {l : L} (h : In w b o l) (e : w'.heap[b]? = w.heap[b]?) : In w' b o l := by
  intro j hj
  rw [← h j hj]
  unfold World.cell?
  simp only [e]
def Row (w : World) (g : Nat) (cur : List Value) : Prop := ∃ t, w.heap[g]? = some (.cells cur.toArray t (0, 0))
theorem Row.cell {w : World} {g : Nat} {cur : List Value} (h : Row w g cur) (i : Nat) : w.cell? ⟨g, i, none⟩ = cur[i]? := by
  obtain ⟨t, h⟩ := h
  rw [blk_cell h i]; simp
theorem Row.frozen {w : World} {g : Nat} {cur : List Value} (h : Row w g cur) (i : Nat) : w.frozen? ⟨g, i, none⟩ = false := by
  obtain ⟨t, h⟩ := h
  exact blk_frozen h i
theorem Row.set {w : World} {g : Nat} {cur : List Value} (h : Row w g cur) (i : Nat) (u : Value) : Row (w.setCell ⟨g, i, none⟩ u) g (cur.set i u) := by
  obtain ⟨t, h⟩ := h
  refine ⟨t, ?_⟩
  rw [blk_set h i u]; simp
theorem splice_nil {α : Type} (L : List α) (off : Nat) : splice L off [] = L := by simp [splice]
theorem splice_cons {α : Type} (L : List α) (off : Nat) (x : α) (xs : List α) (h : off < L.length) : splice L off (x :: xs) = splice (L.set off x) (off + 1) xs := by
  have e1 : (L.set off x).take (off + 1) = L.take off ++ [x] := by
    rw [List.take_succ_eq_append_getElem (by simpa using h)]
    simp [List.take_set_of_le]
  have e2 : (L.set off x).drop (off + 1 + xs.length) = L.drop (off + (xs.length + 1)) := by
    rw [List.drop_set_of_lt (by omega)]
    congr 1; omega
  unfold splice
  rw [e1, e2]
  simp
theorem Row.setCells {g : Nat} : ∀ (vs : List Value) (off : Nat) (w : World) (cur : List Value), Row w g cur → off + vs.length ≤ cur.length → Row (w.setCells g off vs) g (splice cur off vs)
  | [], off, w, cur, h, _ => by rw [splice_nil]; exact h
  | v :: vs, off, w, cur, h, hl => by
    simp only [List.length_cons] at hl
    rw [splice_cons _ _ _ _ (by omega)]
    exact Row.setCells vs (off + 1) _ _ (h.set off v) (by rw [List.length_set]; omega)
theorem But.setCells {g : Nat} : ∀ (vs : List Value) (off : Nat) (w w' : World), But g w w' → But g w (w'.setCells g off vs)
  | [], off, w, w', h => h
  | v :: vs, off, w, w', h => But.setCells vs (off + 1) w _ (h.set off v)
/-- What stands behind a place is not asked. -/
theorem take_splice {α : Type} (L : List α) (off : Nat) (xs : List α) (h : off + xs.length ≤ L.length) : (splice L off xs).take (off + xs.length) = L.take off ++ xs := by
  unfold splice
  rw [← List.append_assoc, List.take_left' (by simp; omega)]

/-- A slice of bytes cut ahead: where its cells lie then. -/
theorem cut_gen {P : Program} (t e : TypeId) {i : TypeInfo} (ht : P.underlying t = some (.slice e)) (hi : P.info? e = some i) (hsz : i.size = 1) (b o n c k : Nat) (hk : k ≤ n) :
    ∃ o', (∀ W : World, (Instr.slice t (.slice (some ⟨b, o, none⟩) n c) (some (.int .i64 (k : Int))) none none).run P W = .ok (.slice (some ⟨b, o', none⟩) (n - k) (c - k)) W) ∧ (0 < n - k → n ≤ c → o' = o + k) := by
  refine ⟨if c = k then o else o + k, fun W => ?_, fun h h2 => by rw [if_neg (by omega)]⟩
  have hel : P.elem t = e := by simp [Program.elem, ht]
  have hu : P.underlying t = some (.slice (P.elem t)) := by rw [hel]; exact ht
  rw [run_slice_l W t _ n c hu .i64 (k : Int) (Int.natCast_nonneg _) (by omega), hel]
  by_cases e : c = k
  · simp [sizeOf, typeInfo, hi, hsz, sliced, Result.andThen, e]
  · simp [sizeOf, typeInfo, hi, hsz, sliced, Result.andThen, e]
    unfold Addr.add
    split <;> simp_all
theorem infoB : (Tryd.prog.info? tB).map (fun i => (i.zero, i.size, i.bytes)) = some (some (.int .u8 0), 1, 1) := by kernel_rfl
theorem cut_at (b o n c : Nat) (k : Nat) (hk : k ≤ n) : ∃ o', (∀ W : World, (Instr.slice tBs (.slice (some ⟨b, o, none⟩) n c) (some (.int .i64 (k : Int))) none none).run Tryd.prog W = .ok (.slice (some ⟨b, o', none⟩) (n - k) (c - k)) W) ∧ (0 < n - k → n ≤ c → o' = o + k) := by
  obtain ⟨i, hi, _, hsz, _⟩ := info_parts infoB
  exact cut_gen tBs tB Tryd.underlying57 hi hsz b o n c k hk

/-- What is ahead of the first backslash; from it on. -/
def pl : L → L
  | [] => []
  | c :: t => if c = 92 then [] else c :: pl t
def rs : L → L
  | [] => []
  | c :: t => if c = 92 then c :: t else rs t
theorem pl_rs : ∀ l : L, pl l ++ rs l = l
  | [] => rfl
  | c :: t => by
    simp only [pl, rs]
    split
    · rfl
    · rw [List.cons_append, pl_rs t]
theorem rs_cons : ∀ {l : L}, rs l ≠ [] → ∃ t, rs l = 92 :: t
  | [], h => absurd rfl h
  | c :: t, h => by
    simp only [rs] at h ⊢
    split
    · rename_i e; exact ⟨t, by rw [e]⟩
    · rename_i e; rw [if_neg e] at h; exact rs_cons h
def ixB (l : L) : Int := if rs l = [] then -1 else ((pl l).length : Int)
theorem indexByte_ixB : ∀ l : L, (∀ x ∈ l, byt x) → Lib.indexByte (Lib.bytesOf l) (92 : Int).toNat.toUInt8 = ixB l
  | [], _ => rfl
  | c :: t, hb => by
    have ih := indexByte_ixB t (fun x hx => hb x (List.mem_cons_of_mem _ hx))
    obtain ⟨h0, h1⟩ := hb c List.mem_cons_self
    show (if UInt8.ofNat c.toNat == (92 : Int).toNat.toUInt8 then (0 : Int) else if Lib.indexByte (Lib.bytesOf t) _ == -1 then -1 else Lib.indexByte (Lib.bytesOf t) _ + 1) = _
    rw [ih]
    have hc : (UInt8.ofNat c.toNat == (92 : Int).toNat.toUInt8) = (c == 92) := by
      rw [Bool.eq_iff_iff, beq_iff_eq, beq_iff_eq]
      constructor
      · intro h
        have := congrArg UInt8.toNat h
        simp [UInt8.toNat_ofNat'] at this
        omega
      · rintro rfl; rfl
    rw [hc]
    unfold ixB
    by_cases e : c = 92
    · subst e
      have r1 : rs (92 :: t) = 92 :: t := by simp [rs]
      have p1 : pl (92 :: t) = [] := by simp [pl]
      rw [r1, p1]
      simp
    · have e' : (c == 92) = false := beq_eq_false_iff_ne.mpr e
      have r1 : rs (c :: t) = rs t := by simp [rs, e]
      have p1 : pl (c :: t) = c :: pl t := by simp [pl, e]
      rw [e', r1, p1]
      simp only [Bool.false_eq_true, if_false]
      by_cases h : rs t = []
      · rw [if_pos h, if_pos h]; rfl
      · rw [if_neg h, if_neg h]
        have : ¬ (((pl t).length : Int) == -1) = true := by rw [beq_iff_eq]; omega
        rw [if_neg this]; simp
theorem pl_ne : ∀ (l : L), ∀ x ∈ pl l, x ≠ 92
  | [], x, hx => by cases hx
  | c :: t, x, hx => by
    simp only [pl] at hx
    split at hx
    · cases hx
    · rename_i e
      rcases List.mem_cons.1 hx with rfl | hx
      · exact e
      · exact pl_ne t x hx
theorem pu_app : ∀ (p r : L), (∀ x ∈ p, x ≠ 92) → pu (p ++ r) = (pu r).map (p ++ ·)
  | [], r, _ => by simp
  | c :: p, r, h => by
    rw [List.cons_append, pu_plain _ (h c List.mem_cons_self), pu_app p r (fun x hx => h x (List.mem_cons_of_mem _ hx))]
    cases pu r <;> rfl
theorem pu_pl (l : L) : pu l = (pu (rs l)).map (pl l ++ ·) := by
  conv => lhs; rw [← pl_rs l]
  exact pu_app _ _ (pl_ne l)
theorem IndexByte_any (b o c : Nat) (l : L) (w : World) (hb : ∀ x ∈ l, byt x) (hi : In w b o l) :
    Calls Tryd.prog 73 #[.slice (some ⟨b, o, none⟩) l.length c, .int .u8 92] w fun e w' => e = .returned (.int .i64 (ixB l)) ∧ w' = w := by
  have := Tryd.bytes_IndexByte b o l.length c l 92 w rfl hi
  rwa [indexByte_ixB l hb] at this

def wasWritten (g off : Nat) (cur : List Value) (o : L) (w : World) (e : Ending) (w' : World) : Prop := e = .returned (.int .i64 o.length) ∧ Row w' g (splice cur off (nums .u8 o)) ∧ But g w w'
theorem wasWritten.mk {g off : Nat} {cur : List Value} {o : L} {w : World} (h : Row w g cur) (hl : off + o.length ≤ cur.length) : wasWritten g off cur o w (.returned (.int .i64 o.length)) (w.setCells g off (nums .u8 o)) :=
  ⟨rfl, Row.setCells _ _ _ _ h (by unfold nums; rw [List.length_map]; exact hl), But.setCells _ _ _ _ (But.refl _ _)⟩
set_option maxHeartbeats 4000000 in
set_option maxRecDepth 100000 in
theorem encN_any (g off n c : Nat) (r : Int) (cur : List Value) (w : World) (h0 : 128 ≤ r) (h1 : r ≤ 1114111) (h : Row w g cur) (hn : off + n ≤ cur.length) (hl : (utf8 r).length ≤ n) :
    Calls Tryd.prog 89 #[.slice (some ⟨g, off, none⟩) n c, .int .i32 r] w (wasWritten g off cur (utf8 r) w) := by
  have H := Lib.hid h
  have hsome : ∀ j, j < n → ∃ v, w.cell? ⟨g, off + j, none⟩ = some v := fun j hj => ⟨_, (h.cell _).trans (List.getElem?_eq_getElem (by omega))⟩
  have hfr : ∀ j, w.frozen? ⟨g, off + j, none⟩ = false := fun j => h.frozen _
  clear h
  by_cases c1 : r ≤ 2047
  · have e : utf8 r = [192 + r / 64, 128 + r % 64] := by unfold utf8; rw [if_neg (by omega), if_pos (by omega)]
    rw [e] at hl ⊢
    simp only [List.length_cons, List.length_nil] at hl
    obtain ⟨v0, hc0⟩ := hsome 0 (by omega); have hf0 := hfr 0
    obtain ⟨v1, hc1⟩ := hsome 1 (by omega); have hf1 := hfr 1
    simp only [Nat.add_zero] at hc0 hf0
    have K := Lib.hid (wasWritten.mk (off := off) (o := [192 + r / 64, 128 + r % 64]) H.out (by simp; omega))
    clear hsome hfr e
    go_enter Tryd.func89, Tryd.ntmps89
    go_wp2
    go_ret
    exact K.out
  by_cases s : 55296 ≤ r ∧ r ≤ 57343
  · obtain ⟨s1, s2⟩ := s
    have e : utf8 r = [239, 191, 189] := utf8_sur (by unfold high low; simp; omega)
    rw [e] at hl ⊢
    simp only [List.length_cons, List.length_nil] at hl
    obtain ⟨v0, hc0⟩ := hsome 0 (by omega); have hf0 := hfr 0
    obtain ⟨v1, hc1⟩ := hsome 1 (by omega); have hf1 := hfr 1
    obtain ⟨v2, hc2⟩ := hsome 2 (by omega); have hf2 := hfr 2
    simp only [Nat.add_zero] at hc0 hf0
    have K := Lib.hid (wasWritten.mk (off := off) (o := [239, 191, 189]) H.out (by simp; omega))
    clear hsome hfr e
    go_enter Tryd.func89, Tryd.ntmps89
    go_wp2
    go_ret
    exact K.out
  have sur : ¬ (high r = true ∨ low r = true) := by unfold high low; simp; omega
  by_cases c2 : r ≤ 65535
  · have e : utf8 r = [224 + r / 4096, 128 + r / 64 % 64, 128 + r % 64] := by unfold utf8; rw [if_neg (by omega), if_neg (by omega), if_neg sur, if_pos (by omega)]
    rw [e] at hl ⊢
    simp only [List.length_cons, List.length_nil] at hl
    obtain ⟨v0, hc0⟩ := hsome 0 (by omega); have hf0 := hfr 0
    obtain ⟨v1, hc1⟩ := hsome 1 (by omega); have hf1 := hfr 1
    obtain ⟨v2, hc2⟩ := hsome 2 (by omega); have hf2 := hfr 2
    simp only [Nat.add_zero] at hc0 hf0
    have K := Lib.hid (wasWritten.mk (off := off) (o := [224 + r / 4096, 128 + r / 64 % 64, 128 + r % 64]) H.out (by simp; omega))
    clear hsome hfr e
    rcases (show r < 55296 ∨ 57343 < r by omega) with hh | hh
    · clear s sur
      go_enter Tryd.func89, Tryd.ntmps89
      go_wp2
      go_ret
      exact K.out
    · clear s sur
      go_enter Tryd.func89, Tryd.ntmps89
      go_wp2
      go_ret
      exact K.out
  · have e : utf8 r = [240 + r / 262144, 128 + r / 4096 % 64, 128 + r / 64 % 64, 128 + r % 64] := by unfold utf8; rw [if_neg (by omega), if_neg (by omega), if_neg sur, if_neg (by omega)]
    rw [e] at hl ⊢
    simp only [List.length_cons, List.length_nil] at hl
    obtain ⟨v0, hc0⟩ := hsome 0 (by omega); have hf0 := hfr 0
    obtain ⟨v1, hc1⟩ := hsome 1 (by omega); have hf1 := hfr 1
    obtain ⟨v2, hc2⟩ := hsome 2 (by omega); have hf2 := hfr 2
    obtain ⟨v3, hc3⟩ := hsome 3 (by omega); have hf3 := hfr 3
    simp only [Nat.add_zero] at hc0 hf0
    have K := Lib.hid (wasWritten.mk (off := off) (o := [240 + r / 262144, 128 + r / 4096 % 64, 128 + r / 64 % 64, 128 + r % 64]) H.out (by simp; omega))
    clear hsome hfr e s sur
    go_enter Tryd.func89, Tryd.ntmps89
    go_wp2
    go_ret
    exact K.out
set_option maxHeartbeats 4000000 in
set_option maxRecDepth 100000 in
theorem enc_any (g off n c : Nat) (r : Int) (cur : List Value) (w : World) (h0 : 0 ≤ r) (h1 : r ≤ 1114111) (h : Row w g cur) (hn : off + n ≤ cur.length) (hl : (utf8 r).length ≤ n) :
    Calls Tryd.prog 80 #[.slice (some ⟨g, off, none⟩) n c, .int .i32 r] w (wasWritten g off cur (utf8 r) w) := by
  by_cases c1 : r ≤ 127
  · have e : utf8 r = [r] := by unfold utf8; rw [if_pos (by omega)]
    rw [e] at hl ⊢
    simp only [List.length_cons, List.length_nil] at hl
    obtain ⟨v0, hc0⟩ : ∃ v, w.cell? ⟨g, off, none⟩ = some v := ⟨_, (h.cell _).trans (List.getElem?_eq_getElem (by omega))⟩
    have hf0 := h.frozen off
    have K := Lib.hid (wasWritten.mk (off := off) (o := [r]) h (by simp; omega))
    clear e h
    go_enter Tryd.func80, Tryd.ntmps80
    go_wp2
    go_ret
    exact K.out
  · have H := Lib.hid h
    clear h
    go_enter Tryd.func80, Tryd.ntmps80
    go_wp2_with (go_at_call 89; refine (encN_any g off n c r cur _ (by omega) h1 H.out hn hl).mono ?_; rintro e w' ⟨rfl, k⟩; replace k := Lib.hid k)
    go_ret
    exact ⟨rfl, k.out⟩
end Go.Proofs.YthehnffmbdlopaaDoor.J

set_option linter.unusedVariables false
set_option linter.unusedSimpArgs false
namespace Go.Proofs.YthehnffmbdlopaaDoor.J
open Go.RowKit Go.Proofs.YthehnffmbdlopaaDoorW.PrintWords Go.Proofs.YthehnffmbdlopaaDoorW.PrintLast Go.Proofs.YthehnffmbdlopaaDoorW.PrintMore Go.Proofs.YthehnffmbdlopaaDoor.Aid Go.Proofs.YthehnffmbdlopaaDoor.PFnJpGetRest

/-- The table of the letters behind a backslash. -/
def Tab (w : World) : Prop := ∀ c : Int, plainEsc c = true → w.cell? ⟨12, c.toNat, none⟩ = some (.int .u8 (short c))
def cfg0 : Value := .agg #[.bool false, .bool false, .int .i64 0]
def UePost (g off : Nat) (cur : List Value) (w : World) (r : Option (Nat × L)) (e : Ending) (w' : World) : Prop :=
  But g w w' ∧ Row w' g (match r with | none => cur | some x => splice cur off (nums .u8 x.2)) ∧
  e = .returned (match r with | none => .tuple #[.int .i64 (-1), .int .i64 (-1)] | some x => .tuple #[.int .i64 (x.1 : Nat), .int .i64 x.2.length])
theorem But.drew0 {g : Nat} {a b c : World} (h : But g a b) (k : Drawn0 b c) : But g a c := by
  obtain ⟨n, rfl⟩ := k.out
  exact h.drewN n
theorem Row.drew0 {g : Nat} {b c : World} {cur : List Value} (h : Row b g cur) (k : Drawn0 b c) : Row c g cur := by
  obtain ⟨n, rfl⟩ := k.out
  exact h
theorem Row.alloc {g : Nat} {w : World} {cur : List Value} (h : Row w g cur) (o : Obj) : Row (w.alloc o) g cur := by
  obtain ⟨t, h⟩ := h
  exact ⟨t, blk_alloc h o⟩
theorem Row.lt {g : Nat} {w : World} {cur : List Value} (h : Row w g cur) : g < w.heap.size := by
  obtain ⟨t, h⟩ := h
  exact blk_lt h
theorem In.alloc {w : World} {b o : Nat} {l : L} (h : In w b o l) (x : Obj) : In (w.alloc x) b o l := fun j hj => pw_cell_below ((Below.refl _ _).alloc (Nat.le_refl _) x) (h j hj)

set_option maxHeartbeats 4000000 in
set_option maxRecDepth 100000 in
theorem ue_plain (b o c g off n cO : Nat) (l : L) (cur : List Value) (w : World) (x : Int) (hx : plainEsc x = true) (hl2 : 2 ≤ l.length) (h0 : l.getD 0 0 = 92) (h1 : l.getD 1 0 = x) (hlm : l.length ≤ 4294967296)
    (hi : In w b o l) (hr : Row w g cur) (hn : off + n ≤ cur.length) (hn1 : 1 ≤ n) (hT : Tab w) :
    Calls Tryd.prog 74 #[cfg0, .slice (some ⟨b, o, none⟩) l.length c, .slice (some ⟨g, off, none⟩) n cO] w (UePost g off cur w (some (2, [short x]))) := by
  have c0 := hi 0 (by omega)
  have c1 := hi 1 (by omega)
  rw [h0] at c0
  rw [h1] at c1
  simp only [Nat.add_zero] at c0
  have t := hT x hx
  have hbw : b < w.heap.size := block_lt_of_cell c1
  have h3w : 12 < w.heap.size := block_lt_of_cell t
  have hgw : g < w.heap.size := hr.lt
  obtain ⟨v0, hc0⟩ : ∃ v, w.cell? ⟨g, off, none⟩ = some v := ⟨_, (hr.cell _).trans (List.getElem?_eq_getElem (by omega))⟩
  have hf0 := hr.frozen off
  have hx' : x = 34 ∨ x = 92 ∨ x = 47 ∨ x = 98 ∨ x = 102 ∨ x = 110 ∨ x = 114 ∨ x = 116 := by unfold plainEsc at hx; simpa [or_assoc] using hx
  have R := Lib.hid hr
  have fin : Hid (∀ ob : Obj, UePost g off cur w (some (2, [short x])) (.returned (.tuple #[.int .i64 2, .int .i64 1])) ((w.setCell ⟨g, off, none⟩ (.int .u8 (short x))).alloc ob)) := Lib.hid (fun ob => ⟨((But.refl g w).set off _).alloc ob, by
    show Row _ g (splice cur off (nums .u8 [short x]))
    rw [show nums .u8 [short x] = [.int .u8 (short x)] from rfl, splice_cons _ _ _ _ (by omega), splice_nil]
    exact (R.out.set off _).alloc ob, rfl⟩)
  have hd0 : decide ((l.length : Int) < 2) = false := decide_eq_false (by omega)
  clear hi hr hT h0 h1 hx
  unfold cfg0
  rcases hx' with rfl | rfl | rfl | rfl | rfl | rfl | rfl | rfl
  all_goals
    simp only [Int.reduceToNat] at t
    go_enter Tryd.func74, Tryd.ntmps74
    go_wp2
    go_ret2
    exact fin.out _

set_option maxHeartbeats 4000000 in
set_option maxRecDepth 100000 in
theorem ue_none (b o c g off n cO : Nat) (l : L) (cur : List Value) (w : World) (hl1 : 1 ≤ l.length) (h0 : l.getD 0 0 = 92) (hu : l.length < 2 ∨ (¬ plainEsc (l.getD 1 0) = true ∧ l.getD 1 0 ≠ 117)) (hlm : l.length ≤ 4294967296)
    (hi : In w b o l) (hr : Row w g cur) :
    Calls Tryd.prog 74 #[cfg0, .slice (some ⟨b, o, none⟩) l.length c, .slice (some ⟨g, off, none⟩) n cO] w (UePost g off cur w none) := by
  have R := Lib.hid hr
  have fin : Hid (∀ w1 : World, But g w w1 → Row w1 g cur → UePost g off cur w none (.returned (.tuple #[.int .i64 (-1), .int .i64 (-1)])) w1) := Lib.hid (fun w1 b1 r1 => ⟨b1, r1, rfl⟩)
  unfold cfg0
  by_cases h2 : l.length < 2
  · have hd0 : decide ((l.length : Int) < 2) = true := decide_eq_true (by omega)
    clear hi hr h0 hu
    go_enter Tryd.func74, Tryd.ntmps74
    go_wp2
    go_ret2
    exact fin.out _ ((But.refl g w).alloc _) (R.out.alloc _)
  · have c0 := hi 0 (by omega)
    have c1 := hi 1 (by omega)
    rw [h0] at c0
    simp only [Nat.add_zero] at c0
    have hbw : b < w.heap.size := block_lt_of_cell c1
    have hgw : g < w.heap.size := hr.lt
    obtain ⟨hp, hne⟩ := hu.resolve_left h2
    obtain ⟨x, hx⟩ : ∃ x, x = l.getD 1 0 := ⟨_, rfl⟩
    rw [← hx] at c1 hp hne
    unfold plainEsc at hp
    simp only [Bool.or_eq_true, not_or, Bool.not_eq_true] at hp
    obtain ⟨⟨⟨⟨⟨⟨⟨p1, p2⟩, p3⟩, p4⟩, p5⟩, p6⟩, p7⟩, p8⟩ := hp
    have hd0 : decide ((l.length : Int) < 2) = false := decide_eq_false (by omega)
    have p9 : (x == 117) = false := beq_eq_false_iff_ne.mpr hne
    clear hi hr h0 hu hx hne
    by_cases e : x = 39
    · subst e
      clear p1 p2 p3 p4 p5 p6 p7 p8 p9
      go_enter Tryd.func74, Tryd.ntmps74
      go_wp2
      go_ret2
      exact fin.out _ ((But.refl g w).alloc _) (R.out.alloc _)
    · have p10 : (x == 39) = false := beq_eq_false_iff_ne.mpr e
      clear e
      go_enter Tryd.func74, Tryd.ntmps74
      go_wp2
      go_ret2
      exact fin.out _ ((But.refl g w).alloc _) (R.out.alloc _)

set_option maxHeartbeats 4000000 in
set_option maxRecDepth 100000 in
theorem ue_u (b o c g off n cO : Nat) (l : L) (cur : List Value) (w : World) (hb : ∀ x ∈ l, byt x) (hl2 : 2 ≤ l.length) (h0 : l.getD 0 0 = 92) (h1 : l.getD 1 0 = 117) (hlm : l.length ≤ 4294967296) (hlc : l.length ≤ c)
    (hi : In w b o l) (hr : Row w g cur) (hn : off + n ≤ cur.length) (hln : l.length ≤ n) :
    Calls Tryd.prog 74 #[cfg0, .slice (some ⟨b, o, none⟩) l.length c, .slice (some ⟨g, off, none⟩) n cO] w (UePost g off cur w (ue l)) := by
  have R := Lib.hid hr
  have c0 := hi 0 (by omega)
  have c1 := hi 1 (by omega)
  rw [h0] at c0
  rw [h1] at c1
  simp only [Nat.add_zero] at c0
  have HD : Hid (∀ W, In W b o l → Calls Tryd.prog 79 #[.slice (some ⟨b, o, none⟩) l.length c] W fun e w' => e = .returned (.tuple #[.int .i32 (duc l).1, .int .i64 (duc l).2]) ∧ Drawn0 W w') :=
    Lib.hid (fun W hW => jsonparser_decodeUnicodeEscape.calls 3 _ c l _ _ W (Kd.C_of_reads (hW.reads (by omega))) hlc (duc_f 0 l hb))
  have HI := Lib.hid hi
  have hbw : b < w.heap.size := block_lt_of_cell c1
  have hgw : g < w.heap.size := hr.lt
  have hd0 : decide ((l.length : Int) < 2) = false := decide_eq_false (by omega)
  unfold cfg0
  rcases duc_ue hl2 h0 h1 with ⟨hu, e2⟩ | ⟨k, oo, hu, e2, eo, r0, r1⟩
  · rw [hu]
    have fin : Hid (∀ w1 : World, But g w w1 → Row w1 g cur → UePost g off cur w none (.returned (.tuple #[.int .i64 (-1), .int .i64 (-1)])) w1) := Lib.hid (fun w1 b1 r1 => ⟨b1, r1, rfl⟩)
    rw [e2] at HD
    clear hi hr h0 h1 hu e2 hb
    go_enter Tryd.func74, Tryd.ntmps74
    go_wp2_with (go_at_call 79; refine (HD.out _ (HI.out.alloc _)).mono ?_; rintro e w1 ⟨rfl, hd⟩; replace hd := Lib.hid hd)
    go_ret2
    exact fin.out _ (((But.refl g w).alloc _).drew0 hd.out) ((R.out.alloc _).drew0 hd.out)
  · rw [hu]
    have pos := ue_pos hu
    have fin : Hid (∀ (w1 w2 : World) (e : Ending), But g w w1 → wasWritten g off cur oo w1 e w2 → e = .returned (.int .i64 oo.length) ∧ UePost g off cur w (some (k, oo)) (.returned (.tuple #[.int .i64 (k : Nat), .int .i64 oo.length])) w2) :=
      Lib.hid (fun w1 w2 e b1 h2 => ⟨h2.1, b1.trans h2.2.2, h2.2.1, rfl⟩)
    have hk : ((k : Int) == -1) = false := beq_eq_false_iff_ne.mpr (by omega)
    rw [e2] at HD
    have hol : (utf8 (duc l).1).length ≤ n := by rw [← eo]; omega
    have EO := Lib.hid eo
    clear hi hr h0 h1 hu e2 hb eo pos
    go_enter Tryd.func74, Tryd.ntmps74
    go_wp2_with (first | (go_at_call 79; refine (HD.out _ (HI.out.alloc _)).mono ?_; rintro e w1 ⟨rfl, hd⟩; replace hd := Lib.hid hd) | (go_at_call 80; refine (enc_any g off n cO (duc l).1 cur _ r0 r1 ((R.out.alloc _).drew0 hd.out) hn hol).mono ?_; rintro e w2 h2; rw [← EO.out] at h2; obtain ⟨rfl, h3⟩ := fin.out _ _ _ (((But.refl g w).alloc _).drew0 hd.out) h2; clear h2; replace h3 := Lib.hid h3))
    go_ret2
    exact h3.out

theorem ue_any (b o c g off n cO : Nat) (l : L) (cur : List Value) (w : World) (hb : ∀ x ∈ l, byt x) (hl1 : 1 ≤ l.length) (h0 : l.getD 0 0 = 92) (hlm : l.length ≤ 4294967296) (hlc : l.length ≤ c)
    (hi : In w b o l) (hr : Row w g cur) (hn : off + n ≤ cur.length) (hln : l.length ≤ n) (hT : Tab w) :
    Calls Tryd.prog 74 #[cfg0, .slice (some ⟨b, o, none⟩) l.length c, .slice (some ⟨g, off, none⟩) n cO] w (UePost g off cur w (ue l)) := by
  by_cases h2 : l.length < 2
  · have e : ue l = none := by unfold ue; rw [if_pos h2]
    rw [e]
    exact ue_none b o c g off n cO l cur w hl1 h0 (.inl h2) hlm hi hr
  by_cases hp : plainEsc (l.getD 1 0) = true
  · have e : ue l = some (2, [short (l.getD 1 0)]) := by unfold ue; rw [if_neg h2, if_pos hp]
    rw [e]
    exact ue_plain b o c g off n cO l cur w _ hp (by omega) h0 rfl hlm hi hr hn (by omega) hT
  by_cases hu : l.getD 1 0 = 117
  · exact ue_u b o c g off n cO l cur w hb (by omega) h0 hu hlm hlc hi hr hn hln
  · have e : ue l = none := by unfold ue; rw [if_neg h2, if_neg hp, if_neg hu]
    rw [e]
    exact ue_none b o c g off n cO l cur w hl1 h0 (.inr ⟨hp, hu⟩) hlm hi hr
end Go.Proofs.YthehnffmbdlopaaDoor.J

set_option linter.unusedVariables false
set_option linter.unusedSimpArgs false
namespace Go.Proofs.YthehnffmbdlopaaDoor.J
open Go.RowKit Go.Proofs.YthehnffmbdlopaaDoorW.PrintWords Go.Proofs.YthehnffmbdlopaaDoorW.PrintLast Go.Proofs.YthehnffmbdlopaaDoorW.PrintMore Go.Proofs.YthehnffmbdlopaaDoor.Aid Go.Proofs.YthehnffmbdlopaaDoor.PFnJpGetRest

theorem but_setRow {g : Nat} (w : World) (cs : Array Value) : But g w (w.setRow g cs) :=
  ⟨rfl, rfl, rfl, by simp [World.setRow], fun k hk hne => setRow_other w g k cs hne⟩
section
variable {ops : Array Oper} {rest : List Oper} {o : Oper} {a : Act} {Q : Exit → Act → World → Prop}
/-- copy(buf, src): src no longer than buf. -/
theorem copy_any {W : World} (hgd : o.guard = none) (d s : Operand) (ho : o.op = .call { callee := .builtin .copy, args := #[d, s], argTypes := #[tBs, tBs] })
    (g oA n cd b ob cs off : Nat) (q : L) (cur : List Value) (hd : a.eval d = .slice (some ⟨g, oA, none⟩) n cd) (hs : a.eval s = .slice (some ⟨b, ob, none⟩) q.length cs)
    (hR : Row W g cur) (hI : In W b ob q) (hq : q.length ≤ n) (hoff : 0 < n → oA = off) (hn : off + n ≤ cur.length)
    (h : ∀ w1, Row w1 g (splice cur off (nums .u8 q)) → But g W w1 → wpList Tryd.prog ops Q rest (a.put o.dst (goInt q.length)) w1) : wpList Tryd.prog ops Q (o :: rest) a W := by
  obtain ⟨i0, hi, _, hz1, _⟩ := info_parts infoB
  have hsz : (Tryd.prog.info? tB).map (·.size) = some 1 := by rw [hi]; simp [hz1]
  by_cases h0 : q.length = 0
  · obtain rfl : q = [] := List.eq_nil_of_length_eq_zero h0
    refine wpList_copy_nothing hgd d s tBs tBs ho tB Tryd.underlying57 hsz _ _ n cd 0 cs hd hs (by simp) ?_
    exact h W (by rw [show nums .u8 ([] : L) = [] from rfl, splice_nil]; exact hR) (But.refl _ _)
  · obtain rfl := hoff (by omega)
    obtain ⟨tt, hR⟩ := hR
    have hl : (nums .u8 q).length = q.length := by simp [nums]
    have hmin : Nat.min q.length n = q.length := Nat.min_eq_left hq
    refine wpList_copy_own hgd d s tBs tBs ho tB Tryd.underlying57 hsz g oA n cd ⟨b, ob, none⟩ q.length cs hd hs cur.toArray tt hR (nums .u8 q) (by rw [hl]; exact hmin.symm) ?_ (by rw [hl]; simpa using (by omega : oA + q.length ≤ cur.length)) (by simp [nums, Value.oneCell']) ?_
    · intro j v hj
      have hjl : j < q.length := by have := (List.getElem?_eq_some_iff.1 hj).1; rwa [hl] at this
      have e : (⟨b, ob, none⟩ : Addr).add j = ⟨b, ob + j, none⟩ := by unfold Addr.add; split <;> simp_all
      rw [e, hI j hjl, ← hj]
      simp [nums, List.getD_eq_getElem?_getD, List.getElem?_eq_getElem hjl]
    · rw [hl]
      refine h _ ?_ (but_setRow W _)
      have := setRow_heap W g cur.toArray (splice cur oA (nums .u8 q)).toArray tt (0, 0) hR
      unfold splice at this
      refine ⟨tt, ?_⟩
      rw [hl] at this
      simpa [splice, hl] using this
end

/-- Cut ahead: a list's name behind it. -/
theorem cut_in (b o c : Nat) (l : L) (k : Nat) (hk : k ≤ l.length) (hc : l.length ≤ c) : ∃ o' r c', r = l.drop k ∧ r.length + k = l.length ∧ r.length ≤ c' ∧
    (∀ W : World, (Instr.slice tBs (.slice (some ⟨b, o, none⟩) l.length c) (some (.int .i64 (k : Int))) none none).run Tryd.prog W = .ok (.slice (some ⟨b, o', none⟩) r.length c') W) ∧ (∀ w, In w b o l → In w b o' r) := by
  obtain ⟨o', h1, h2⟩ := cut_at b o l.length c k hk
  refine ⟨o', l.drop k, c - k, rfl, by rw [List.length_drop]; omega, by rw [List.length_drop]; omega, fun W => by rw [List.length_drop]; exact h1 W, fun w hi => ?_⟩
  by_cases h0 : 0 < l.length - k
  · rw [h2 h0 hc]; exact hi.drop k
  · intro j hj; rw [List.length_drop] at hj; omega
/-- The buffer cut ahead. -/
theorem cut_buf (g oA n c off : Nat) (k : Nat) (hk : k ≤ n) (hc : n ≤ c) (ho : 0 < n → oA = off) : ∃ o' n' c', n' + k = n ∧ n' ≤ c' ∧ (0 < n' → o' = off + k) ∧
    (∀ W : World, (Instr.slice tBs (.slice (some ⟨g, oA, none⟩) n c) (some (.int .i64 (k : Int))) none none).run Tryd.prog W = .ok (.slice (some ⟨g, o', none⟩) n' c') W) := by
  obtain ⟨o', h1, h2⟩ := cut_at g oA n c k hk
  exact ⟨o', n - k, c - k, by omega, by omega, fun h => by rw [h2 h hc, ho (by omega)], h1⟩
/-- Cut behind. -/
theorem cut_to (b o n c : Nat) (k : Nat) (hk : k ≤ n) (hc : n ≤ c) : ∀ W : World, (Instr.slice tBs (.slice (some ⟨b, o, none⟩) n c) none (some (.int .i64 (k : Int))) none).run Tryd.prog W = .ok (.slice (some ⟨b, o, none⟩) k c) W := by
  intro W
  obtain ⟨i, hi, _, hsz, _⟩ := info_parts infoB
  have h := (print_take_int (k := .u8) (P := Tryd.prog) tBs tB Tryd.underlying57 hi hsz (some ⟨b, o, none⟩) c (List.replicate n 0) (k : Int) (by omega) (by simp; omega) (by simp; omega)).1 W
  simp only [List.length_replicate, Int.toNat_natCast, List.length_take, Nat.min_eq_left hk] at h
  exact h

theorem pl_take (l : L) : l.take (pl l).length = pl l := by
  have := List.take_left (l₁ := pl l) (l₂ := rs l)
  rwa [pl_rs] at this
theorem rs_drop (l : L) : l.drop (pl l).length = rs l := by
  have := List.drop_left (l₁ := pl l) (l₂ := rs l)
  rwa [pl_rs] at this
theorem pl_rs_len (l : L) : (pl l).length + (rs l).length = l.length := by
  have := congrArg List.length (pl_rs l)
  rw [List.length_append] at this
  exact this
theorem In.take {w : World} {b o : Nat} {l : L} (h : In w b o l) (k : Nat) (hk : k ≤ l.length) : In w b o (l.take k) := by
  intro j hj
  rw [List.length_take] at hj
  rw [h j (by omega), List.getD_eq_getElem?_getD, List.getD_eq_getElem?_getD, List.getElem?_take_of_lt (by omega)]
theorem In.of_row {w : World} {g : Nat} {cur : List Value} {E : L} (h : Row w g cur) (he : cur.take E.length = nums .u8 E) : In w g 0 E := by
  intro j hj
  rw [Nat.zero_add, h.cell j]
  have : (cur.take E.length)[j]? = (nums .u8 E)[j]? := by rw [he]
  rw [List.getElem?_take_of_lt hj] at this
  rw [this]
  simp [nums, List.getD_eq_getElem?_getD, List.getElem?_eq_getElem hj]

theorem made_arr (n : Nat) (v : Value) : madeCells #[v] n = (List.replicate n v).toArray := by
  simp [madeCells, Nat.mod_one]
  apply Array.ext
  · simp
  · intro i h1 h2; simp
theorem In.but {w w' : World} {b o g : Nat} {l : L} (h : In w b o l) (k : But g w w') (hb : b < w.heap.size) (hne : b ≠ g) : In w' b o l := h.block (k.block b hb hne)
theorem take_splice' (cur : List Value) (E o : L) (hE : cur.take E.length = nums .u8 E) (hl : E.length + o.length ≤ cur.length) : (splice cur E.length (nums .u8 o)).take (E ++ o).length = nums .u8 (E ++ o) := by
  have h1 : (nums .u8 o).length = o.length := by simp [nums]
  have := take_splice cur E.length (nums .u8 o) (by rw [h1]; exact hl)
  rw [h1] at this
  rw [List.length_append, this, hE]
  simp [nums]
theorem Below.but {B g : Nat} {w0 w w' : World} (h : Below B w0 w) (k : But g w w') (hg : B ≤ g) (hs : B ≤ w.heap.size) : Below B w0 w' := h.trans (k.to_below hg hs)
/-- What is handed back: the bytes, or the error. -/
def UPost (B : Nat) (w0 : World) (r : Option L) (eV : Value) (e : Ending) (w' : World) : Prop :=
  Below B w0 w' ∧ match r with
    | none => e = .returned (.tuple #[.slice none 0 0, eV])
    | some q => ∃ b o c, e = .returned (.tuple #[.slice (some ⟨b, o, none⟩) q.length c, .nilIface]) ∧ In w' b o q ∧ q.length ≤ c
/-- At the loop's head: r is left to read, E is written. -/
def ULoop (B : Nat) (w0 wa : World) (b g N : Nat) (l : L) (kq : Nat) (v1 v9 : Value) (W : World) : Prop :=
  ∃ (o1 c1 oA n1 c2 : Nat) (r E : L) (cur : List Value), v1 = .slice (some ⟨b, o1, none⟩) r.length c1 ∧ v9 = .slice (some ⟨g, oA, none⟩) n1 c2 ∧ r.length = kq ∧ 1 ≤ r.length ∧ r.getD 0 0 = 92 ∧ (∀ x ∈ r, byt x) ∧ r.length ≤ c1 ∧ n1 ≤ c2 ∧
    (0 < n1 → oA = E.length) ∧ E.length + n1 = N ∧ r.length ≤ n1 ∧ N ≤ cur.length ∧ In W b o1 r ∧ Row W g cur ∧ cur.take E.length = nums .u8 E ∧ pu l = (pu r).map (E ++ ·) ∧ Below B w0 W ∧ But g wa W
end Go.Proofs.YthehnffmbdlopaaDoor.J

set_option linter.unusedVariables false
set_option linter.unusedSimpArgs false
namespace Go.Proofs.YthehnffmbdlopaaDoor.J
open Go.RowKit Go.Proofs.YthehnffmbdlopaaDoorW.PrintWords Go.Proofs.YthehnffmbdlopaaDoorW.PrintLast Go.Proofs.YthehnffmbdlopaaDoorW.PrintMore Go.Proofs.YthehnffmbdlopaaDoor.Aid Go.Proofs.YthehnffmbdlopaaDoor.PFnJpGetRest

set_option maxHeartbeats 8000000 in
set_option maxRecDepth 100000 in
theorem unescConf_any (B : Nat) (w0 w : World) (b o c g m cO : Nat) (l : L) (cur : List Value) (eV : Value) (hB : Below B w0 w) (hBs : B ≤ w.heap.size) (hBg : B ≤ g) (hbg : b ≠ g) (hbw : b < w.heap.size) (h3 : 12 < B) (h2 : 8 < B)
    (hb : ∀ x ∈ l, byt x) (hlm : l.length ≤ 4294967296) (hlc : l.length ≤ c) (hi : In w b o l) (hR : Row w g cur) (hcur : cO = cur.length) (hmc : m ≤ cO) (hT : Tab w0)
    (hE : w0.cell? ⟨8, 0, none⟩ = some eV) :
    Calls Tryd.prog 62 #[cfg0, .slice (some ⟨b, o, none⟩) l.length c, .slice (some ⟨g, 0, none⟩) m cO] w (UPost B w0 (pu l) eV) := by
  have HE := Lib.hid hE
  have HT := Lib.hid hT
  have HI := Lib.hid hi
  have HR := Lib.hid hR
  have HBy := Lib.hid hb
  have HB := Lib.hid hB
  have HIX : Hid (∀ W, In W b o l → Calls Tryd.prog 73 #[.slice (some ⟨b, o, none⟩) l.length c, .int .u8 92] W fun e w' => e = .returned (.int .i64 (ixB l)) ∧ w' = W) := Lib.hid (fun W h => IndexByte_any b o c l W hb h)
  have hgw : g < w.heap.size := hR.lt
  by_cases hr0 : rs l = []
  · have e1 : ixB l = -1 := by unfold ixB; rw [if_pos hr0]
    have e2 : pu l = some l := by rw [pu_pl, hr0, pu_nil]; have := pl_rs l; rw [hr0, List.append_nil] at this; simp [this]
    rw [e1] at HIX
    rw [e2]
    have fin : Hid (∀ ob, UPost B w0 (some l) eV (.returned (.tuple #[.slice (some ⟨b, o, none⟩) l.length c, .nilIface])) (w.alloc ob)) := Lib.hid (fun ob => ⟨HB.out.alloc hBs _, b, o, c, rfl, HI.out.alloc _, hlc⟩)
    clear hE hT hi hR hb hB hr0 e1 e2
    unfold cfg0
    go_enter Tryd.func62, Tryd.ntmps62
    go_wp2_with (go_at_call 73; refine (HIX.out _ (HI.out.alloc _)).mono ?_; rintro e w' ⟨rfl, rfl⟩)
    go_ret2
    exact fin.out _
  · obtain ⟨q, hq⟩ : ∃ q, q = pl l := ⟨_, rfl⟩
    have e1 : ixB l = (q.length : Int) := by unfold ixB; rw [if_neg hr0, hq]
    rw [e1] at HIX
    have hql : q.length + (rs l).length = l.length := by rw [hq]; exact pl_rs_len l
    have hqle : q.length ≤ l.length := by omega
    have hb1 : ((q.length : Int) == -1) = false := beq_eq_false_iff_ne.mpr (by omega)
    have kto := cut_to b o l.length c q.length (by omega) hlc
    obtain ⟨o1, r, c1, hr, hrl, hrc, kfrom, hIr⟩ := cut_in b o c l q.length (by omega) hlc
    have hr2 : r = rs l := by rw [hr, hq]; exact rs_drop l
    obtain ⟨t, ht⟩ := rs_cons hr0
    have hr92 : r.getD 0 0 = 92 := by rw [hr2, ht]; rfl
    have hr1 : 1 ≤ r.length := by rw [hr2, ht]; simp
    have hrb : ∀ x ∈ r, byt x := fun x hx => hb x (by rw [hr] at hx; exact List.mem_of_mem_drop hx)
    have hpu : pu l = (pu r).map (q ++ ·) := by rw [hr2, hq]; exact pu_pl l
    have hIq : Hid (∀ W, In W b o l → In W b o q) := Lib.hid (fun W h => by have := h.take q.length (by omega); rwa [hq, pl_take, ← hq] at this)
    have kmk : ∀ W : World, (Instr.makeSlice tBs (.int .i64 (l.length : Int)) (.int .i64 (l.length : Int))).run Tryd.prog W = .ok (.slice (some ⟨W.heap.size, 0, none⟩) l.length l.length) (W.alloc (.cells (madeCells #[.int .u8 0] l.length) tB)) := by
      intro W
      have := print_make_int (P := Tryd.prog) tBs tB (.int .u8 0) 1 Tryd.underlying57 infoB rfl (by decide) (l.length : Int) (by omega) (by rw [Int.toNat_natCast]; omega) W
      rwa [Int.toNat_natCast] at this
    replace hq := Lib.hid hq
    replace hr := Lib.hid hr
    replace hr2 := Lib.hid hr2
    replace hr92 := Lib.hid hr92
    replace hrb := Lib.hid hrb
    replace hpu := Lib.hid hpu
    replace hIr := Lib.hid hIr
    replace hcur := Lib.hid hcur
    replace hql := Lib.hid hql
    replace hrl := Lib.hid hrl
    clear hE hT hi hR hb hB hr0 e1 ht
    unfold cfg0
    go_enter Tryd.func62, Tryd.ntmps62
    go_upto_if 22 with (go_at_call 73; refine (HIX.out _ (HI.out.alloc _)).mono ?_; rintro e w' ⟨rfl, rfl⟩)
    go_cut [2] (fun v2 w' => Hid (∃ g' cO' cur', v2 = .slice (some ⟨g', 0, none⟩) l.length cO' ∧ Row w' g' cur' ∧ l.length ≤ cO' ∧ l.length ≤ cur'.length ∧ In w' b o l ∧ Below B w0 w' ∧ b ≠ g' ∧ B ≤ g' ∧ b < w'.heap.size ∧ w'.heap[w.heap.size]? = some (.cells #[.bool false, .bool false, .int .i64 0] 84 (0, 0)) ∧ w.heap.size ≠ g'))
    case first =>
      by_cases hcap : cO < l.length
      · have hd : decide ((cO : Int) < (l.length : Int)) = true := decide_eq_true (by omega)
        have hd2 : decide (cO < l.length) = true := decide_eq_true hcap
        have fin : Hid (∀ W, W = w.alloc (.cells #[.bool false, .bool false, .int .i64 0] 84) → ∃ g' cO' cur', Value.slice (some ⟨w.heap.size + 1, 0, none⟩) l.length l.length = .slice (some ⟨g', 0, none⟩) l.length cO' ∧ Row (W.alloc (.cells (madeCells #[.int .u8 0] l.length) tB)) g' cur' ∧ l.length ≤ cO' ∧ l.length ≤ cur'.length ∧ In (W.alloc (.cells (madeCells #[.int .u8 0] l.length) tB)) b o l ∧ Below B w0 (W.alloc (.cells (madeCells #[.int .u8 0] l.length) tB)) ∧ b ≠ g' ∧ B ≤ g' ∧ b < (W.alloc (.cells (madeCells #[.int .u8 0] l.length) tB)).heap.size ∧ (W.alloc (.cells (madeCells #[.int .u8 0] l.length) tB)).heap[w.heap.size]? = some (.cells #[.bool false, .bool false, .int .i64 0] 84 (0, 0)) ∧ w.heap.size ≠ g') := Lib.hid (by
          intro W hW
          have hsz : W.heap.size = w.heap.size + 1 := by rw [hW]; simp
          rw [← hsz]
          refine ⟨W.heap.size, l.length, List.replicate l.length (.int .u8 0), rfl, ?_, Nat.le_refl _, by simp, ?_, ?_, by omega, by omega, by simp; omega, ?_, by omega⟩
          · refine ⟨tB, ?_⟩; rw [made_arr]; exact heap_alloc_new W _
          · exact (show In W b o l by rw [hW]; exact HI.out.alloc _).alloc _
          · exact (show Below B w0 W by rw [hW]; exact HB.out.alloc hBs _).alloc (by omega) _
          · refine blk_alloc ?_ _
            rw [hW]; exact heap_alloc_new w _)
        go_wp2
        go_meet
        case rel => exact Lib.hid (fin.out _ rfl)
      · have hd : decide ((cO : Int) < (l.length : Int)) = false := decide_eq_false (by omega)
        have hd2 : decide (cO < l.length) = false := decide_eq_false hcap
        have hle : l.length ≤ cO := by omega
        have fin : Hid (∀ W, W = w.alloc (.cells #[.bool false, .bool false, .int .i64 0] 84) → ∃ g' cO' cur', Value.slice (some ⟨g, 0, none⟩) l.length cO = .slice (some ⟨g', 0, none⟩) l.length cO' ∧ Row W g' cur' ∧ l.length ≤ cO' ∧ l.length ≤ cur'.length ∧ In W b o l ∧ Below B w0 W ∧ b ≠ g' ∧ B ≤ g' ∧ b < W.heap.size ∧ W.heap[w.heap.size]? = some (.cells #[.bool false, .bool false, .int .i64 0] 84 (0, 0)) ∧ w.heap.size ≠ g') := Lib.hid (by
          intro W hW
          have hsz : W.heap.size = w.heap.size + 1 := by rw [hW]; simp
          refine ⟨g, cO, cur, rfl, ?_, hle, by rw [← hcur.out]; exact hle, ?_, ?_, hbg, hBg, by omega, ?_, by omega⟩
          · rw [hW]; exact HR.out.alloc _
          · rw [hW]; exact HI.out.alloc _
          · rw [hW]; exact HB.out.alloc hBs _
          · rw [hW]; exact heap_alloc_new w _)
        go_wp2
        go_meet
        case rel => exact Lib.hid (fin.out _ rfl)
    case rest =>
      obtain ⟨g', cO', cur', rfl, hR, hle, hcl, hI, hB, hne, hBg', hbw', hbox, hbne⟩ := hcut.out
      clear hcut kmk
      have R := Lib.hid hR
      have I := Lib.hid hI
      have BB := Lib.hid hB
      have BX := Lib.hid hbox
      clear hR hI hB hbox
      have gq := hql.out
      obtain ⟨oA, n1, c2, hn1, hnc1, hoA, kbuf⟩ := cut_buf g' 0 l.length cO' 0 q.length (by omega) hle (fun _ => rfl)
      replace hn1 := Lib.hid hn1
      replace hoA := Lib.hid hoA
      clear gq
      go_wp2_with ((refine copy_any rfl (.tmp 30) (.tmp 33) rfl g' 0 l.length cO' b o c 0 q cur' (by simp [go_sem]) (by simp [go_sem]) R.out (hIq.out _ I.out) (by omega) (fun _ => rfl) (by omega) ?_); intro w1 hr1' hbt1; replace hr1' := Lib.hid hr1'; replace hbt1 := Lib.hid hbt1)
      have LN := Lib.hid (show (nums .u8 q).length = q.length by simp [nums])
      go_loopg [1, 9] r.length (fun kq v1 v9 w' => Hid (ULoop B w0 wc b g' l.length l kq v1 v9 w'))
      case atStart =>
        refine Lib.hid ⟨o1, c1, oA, n1, c2, r, q, _, rfl, rfl, rfl, hr1, hr92.out, hrb.out, hrc, hnc1, fun h => by rw [hoA.out h, Nat.zero_add], by have := hn1.out; omega, by have := hn1.out; have := hrl.out; omega, ?_, ?_, hr1'.out, ?_, hpu.out, ?_, hbt1.out⟩
        · rw [length_splice _ _ _ (by rw [LN.out]; omega)]; exact hcl
        · exact (hIr.out _ I.out).but hbt1.out hbw' hne
        · have := take_splice' cur' [] q (by simp [nums]) (by simp; omega)
          simpa using this
        · exact Below.but BB.out hbt1.out hBg' (by have := R.out.lt; omega)
      case round =>
        obtain ⟨o2, c3, oB, n2, c4, r2, E, cur2, rfl, rfl, rfl, hr21, hr29, hr2b, hr2c, hn2c, hoB, hEn, hrn, hcl2, hI2, hR2, hE2, hpu2, hB2, hbt2⟩ := hrel.out
        clear hrel
        obtain rfl := hoB (by omega)
        have hbx2 := Lib.hid ((hbt2.block w.heap.size (blk_lt BX.out) hbne).trans BX.out)
        have kb0 := (blk_cell hbx2.out 0).trans rfl
        have kb1 := (blk_cell hbx2.out 1).trans rfl
        have kb2 := (blk_cell hbx2.out 2).trans rfl
        have hT2 : Tab _ := fun x hx => (hB2.cell (p := ⟨12, x.toNat, none⟩) h3).trans (HT.out x hx)
        have hbw2 : b < _ := Nat.lt_of_lt_of_le hbw' hbt2.size
        have HUE := Lib.hid (ue_any b o2 c3 g' E.length n2 c4 r2 cur2 _ hr2b hr21 hr29 (by omega) hr2c hI2 hR2 (by omega) hrn hT2)
        clear hT2
        obtain ⟨ru, hwr⟩ : ∃ z, z = ue r2 := ⟨_, rfl⟩
        rw [← hwr] at HUE
        unfold cfg0 at HUE
        have hBr : B ≤ wr.heap.size := by have := R.out.lt; have := hbt2.size; omega
        cases ru with
        | none =>
          have hfin : pu l = none := by
            rw [hpu2]
            obtain ⟨t2, rfl⟩ : ∃ t2, r2 = 92 :: t2 := by
              cases r2 with
              | nil => simp at hr21
              | cons x t2 => exact ⟨t2, by rw [show x = 92 from hr29]⟩
            rw [pu_no hwr.symm]; rfl
          have fin : Hid (∀ w3 n, But g' wc w3 → UPost B w0 (pu l) eV (.returned (.tuple #[.slice none 0 0, eV])) (w3.drewN n)) := Lib.hid (fun w3 n h3 => by rw [hfin]; exact ⟨pw_below_drewN (Below.but BB.out h3 hBg' (by have := R.out.lt; omega)) n, rfl⟩)
          have HB2 := Lib.hid hbt2
          have HBB := Lib.hid hB2
          clear hwr hfin hpu2 hE2 hR2 hI2 hr2b hr29 hbt2 hB2 hEn
          go_wp2_with (go_at_call 74; refine HUE.out.mono ?_; rintro e w3 ⟨hb3, _, rfl⟩; have cE := ((Below.but HBB.out hb3 hBg' hBr).cell (p := ⟨8, 0, none⟩) h2).trans HE.out; replace hb3 := Lib.hid (HB2.out.trans hb3))
          go_quiet (fail)
          go_wp2
          go_ret2
          exact fin.out _ _ hb3.out
        | some x =>
          obtain ⟨k, oo⟩ := x
          have hpos := ue_pos hwr.symm
          obtain ⟨t2, ht2⟩ : ∃ t2, r2 = 92 :: t2 := by
            cases r2 with
            | nil => simp at hr21
            | cons x t2 => exact ⟨t2, by rw [show x = 92 from hr29]⟩
          have hpr : pu r2 = (pu (r2.drop k)).map (oo ++ ·) := by rw [ht2] at hwr ⊢; exact pu_yes hwr.symm
          obtain ⟨o4, r3, c5, hr3, hr3l, hr3c, kin, hIn3⟩ := cut_in b o2 c3 r2 k (by omega) hr2c
          obtain ⟨o5, n5, c6, hn5, hn5c, ho5, kbf⟩ := cut_buf g' E.length n2 c4 E.length oo.length (by omega) hn2c (fun _ => rfl)
          have hr3b : ∀ x ∈ r3, byt x := fun x hx => hr2b x (by rw [hr3] at hx; exact List.mem_of_mem_drop hx)
          have hpu3 : pu l = (pu r3).map ((E ++ oo) ++ ·) := by
            rw [hpu2, hpr, ← hr3, Option.map_map]
            congr 1; funext z; simp
          have hkne : ((k : Int) == -1) = false := beq_eq_false_iff_ne.mpr (by omega)
          have HU3 : Hid (Calls Tryd.prog 74 #[.agg #[.bool false, .bool false, .int .i64 0], .slice (some ⟨b, o2, none⟩) r2.length c3, .slice (some ⟨g', E.length, none⟩) n2 c4] wr fun e w' => e = .returned (.tuple #[.int .i64 (k : Nat), .int .i64 oo.length]) ∧ Row w' g' (splice cur2 E.length (nums .u8 oo)) ∧ But g' wr w') :=
            Lib.hid (HUE.out.mono fun e w' h => ⟨h.2.2, h.2.1, h.1⟩)
          have HIX3 : Hid (∀ W, In W b o4 r3 → Calls Tryd.prog 73 #[.slice (some ⟨b, o4, none⟩) r3.length c5, .int .u8 92] W fun e w' => e = .returned (.int .i64 (ixB r3)) ∧ w' = W) := Lib.hid (fun W h => IndexByte_any b o4 c5 r3 W hr3b h)
          have hcut3 : Hid (∀ w3, But g' wr w3 → In w3 b o4 r3) := Lib.hid (fun w3 h3 => hIn3 _ (hI2.but h3 hbw2 hne))
          have hE3 : (splice cur2 E.length (nums .u8 oo)).take (E ++ oo).length = nums .u8 (E ++ oo) := take_splice' cur2 E oo hE2 (by omega)
          have hl3 : (splice cur2 E.length (nums .u8 oo)).length = cur2.length := length_splice _ _ _ (by simp [nums]; omega)
          obtain ⟨E3, hE3d⟩ : ∃ E3, E3 = E ++ oo := ⟨_, rfl⟩
          have hE3l : E3.length = E.length + oo.length := by rw [hE3d, List.length_append]
          rw [← hE3d] at hE3 hpu3
          obtain ⟨cur3, hcur3⟩ : ∃ z, z = splice cur2 E.length (nums .u8 oo) := ⟨_, rfl⟩
          rw [← hcur3] at hE3 hl3 HU3
          have HB2 := Lib.hid hbt2
          have HBB := Lib.hid hB2
          replace hE3 := Lib.hid hE3
          replace hpu3 := Lib.hid hpu3
          replace ho5 := Lib.hid ho5
          have HN := Lib.hid (show E3.length + n5 = l.length by omega)
          have hrn5 : r3.length ≤ n5 := by omega
          have hcl3 : l.length ≤ cur3.length := by omega
          have hkq3 : r3.length < r2.length := by omega
          have hoff5 := Lib.hid (show 0 < n5 → o5 = E3.length from fun h => by rw [ho5.out h, hE3l])
          have hI3 := Lib.hid hIn3
          clear hwr hpu2 hE2 hR2 hI2 hr2b hr29 hbt2 hB2 hEn hpr hl3 hcur3 hE3d hE3l hr3 hn5 hpos ht2 hIn3 hr3l
          by_cases hrs : rs r3 = []
          · have e3 : ixB r3 = -1 := by unfold ixB; rw [if_pos hrs]
            rw [e3] at HIX3
            have hpr3 : pu r3 = some r3 := by rw [pu_pl, hrs, pu_nil]; have := pl_rs r3; rw [hrs, List.append_nil] at this; simp [this]
            obtain ⟨o6, n6, c7, hn6, hn6c, _, kbf2⟩ := cut_buf g' o5 n5 c6 E3.length r3.length hrn5 hn5c hoff5.out
            obtain ⟨qf, hqf⟩ : ∃ z, z = E3 ++ r3 := ⟨_, rfl⟩
            have hqfl : qf.length + n6 = l.length := by have := HN.out; rw [hqf, List.length_append]; omega
            have kfin : ∀ W : World, (Instr.slice tBs (.slice (some ⟨g', 0, none⟩) l.length cO') none (some (.int .i64 ((l.length : Int) - (n6 : Int)))) none).run Tryd.prog W = .ok (.slice (some ⟨g', 0, none⟩) qf.length cO') W := by
              intro W
              rw [show (l.length : Int) - (n6 : Int) = (qf.length : Int) by omega]
              exact cut_to g' 0 l.length cO' qf.length (by omega) hle W
            have hsome : pu l = some qf := by rw [hpu3.out, hpr3, hqf]; rfl
            have fin : Hid (∀ w3 w4, But g' wr w3 → Row w4 g' (splice cur3 E3.length (nums .u8 r3)) → But g' w3 w4 → UPost B w0 (pu l) eV (.returned (.tuple #[.slice (some ⟨g', 0, none⟩) qf.length cO', .nilIface])) w4) := Lib.hid (fun w3 w4 h3 hR4 h4 => by rw [hsome]; exact ⟨Below.but (Below.but HBB.out h3 hBg' hBr) h4 hBg' (by have := h3.size; omega), g', 0, cO', rfl, In.of_row hR4 (by rw [hqf]; exact take_splice' cur3 E3 r3 hE3.out (by have := HN.out; omega)), by omega⟩)
            have hcl4 : E3.length + n5 ≤ cur3.length := by have := HN.out; omega
            have hn6l : n6 ≤ l.length := by omega
            clear e3 hpr3 hsome hqf hrs hqfl hn6
            go_wp2_with (first | (go_at_call 74; refine HU3.out.mono ?_; rintro e w3 ⟨rfl, hR3, hb3⟩; replace hR3 := Lib.hid hR3; replace hb3 := Lib.hid hb3) | (go_at_call 73; refine (HIX3.out _ (hcut3.out _ hb3.out)).mono ?_; rintro e w' ⟨rfl, rfl⟩) | ((refine copy_any rfl (.tmp 61) (.tmp 62) rfl g' o5 n5 c6 b o4 c5 E3.length r3 cur3 (by simp [go_sem]) (by simp [go_sem]) hR3.out (hcut3.out _ hb3.out) hrn5 hoff5.out hcl4 ?_); intro w4 hR4 hb4; replace hR4 := Lib.hid hR4; replace hb4 := Lib.hid hb4))
            go_ret2
            exact fin.out _ _ hb3.out hR4.out hb4.out
          · obtain ⟨q3, hq3⟩ : ∃ q3, q3 = pl r3 := ⟨_, rfl⟩
            have e3 : ixB r3 = (q3.length : Int) := by unfold ixB; rw [if_neg hrs, hq3]
            rw [e3] at HIX3
            have hql3 : q3.length + (rs r3).length = r3.length := by rw [hq3]; exact pl_rs_len r3
            have hb13 : ((q3.length : Int) == -1) = false := beq_eq_false_iff_ne.mpr (by omega)
            have kto3 := cut_to b o4 r3.length c5 q3.length (by omega) hr3c
            obtain ⟨o7, r4, c8, hr4, hr4l, hr4c, kin4, hIn4⟩ := cut_in b o4 c5 r3 q3.length (by omega) hr3c
            obtain ⟨o6, n6, c7, hn6, hn6c, ho6, kbf2⟩ := cut_buf g' o5 n5 c6 E3.length q3.length (by omega) hn5c hoff5.out
            have hr42 : r4 = rs r3 := by rw [hr4, hq3]; exact rs_drop r3
            obtain ⟨t4, ht4⟩ := rs_cons hrs
            have hq3I : Hid (∀ W, In W b o4 r3 → In W b o4 q3) := Lib.hid (fun W h => by have := h.take q3.length (by omega); rwa [hq3, pl_take, ← hq3] at this)
            have fin : Hid (∀ w3 w4, But g' wr w3 → Row w4 g' (splice cur3 E3.length (nums .u8 q3)) → But g' w3 w4 → ULoop B w0 wc b g' l.length l r4.length (.slice (some ⟨b, o7, none⟩) r4.length c8) (.slice (some ⟨g', o6, none⟩) n6 c7) w4) := Lib.hid (fun w3 w4 h3 hR4 h4 => by
              have hN := HN.out
              refine ⟨o7, c8, o6, n6, c7, r4, E3 ++ q3, _, rfl, rfl, rfl, by rw [hr42, ht4]; simp, by rw [hr42, ht4]; rfl, fun x hx => hr3b x (by rw [hr4] at hx; exact List.mem_of_mem_drop hx), hr4c, hn6c, fun h => by rw [List.length_append]; exact ho6 h, by rw [List.length_append]; omega, by omega, ?_, hIn4 _ ((hcut3.out _ h3).but h4 (Nat.lt_of_lt_of_le hbw2 h3.size) hne), hR4, take_splice' cur3 E3 q3 hE3.out (by omega), ?_, Below.but (Below.but HBB.out h3 hBg' hBr) h4 hBg' (by have := h3.size; omega), HB2.out.trans (h3.trans h4)⟩
              · rw [length_splice _ _ _ (by simp [nums]; omega)]; exact hcl3
              · rw [hpu3.out, pu_pl r3, ← hr42, ← hq3, Option.map_map]
                congr 1; funext z; simp)
            have hcl4 : E3.length + n5 ≤ cur3.length := by have := HN.out; omega
            have hq3n : q3.length ≤ n5 := by omega
            have hq3r : q3.length ≤ r3.length := by omega
            have hms : r4.length < r2.length := by omega
            clear e3 hrs hql3 hq3 hr4 hr42 ht4 hr4l hn6 ho6 hIn4 hr3b
            go_wp2_with (first | (go_at_call 74; refine HU3.out.mono ?_; rintro e w3 ⟨rfl, hR3, hb3⟩; replace hR3 := Lib.hid hR3; replace hb3 := Lib.hid hb3) | (go_at_call 73; refine (HIX3.out _ (hcut3.out _ hb3.out)).mono ?_; rintro e w' ⟨rfl, rfl⟩) | ((refine copy_any rfl (.tmp 68) (.tmp 71) rfl g' o5 n5 c6 b o4 c5 E3.length q3 cur3 (by simp [go_sem]) (by simp [go_sem]) hR3.out (hq3I.out _ (hcut3.out _ hb3.out)) hq3n hoff5.out hcl4 ?_); intro w4 hR4 hb4; replace hR4 := Lib.hid hR4; replace hb4 := Lib.hid hb4))
            go_roundg r4.length
            case rel => exact Lib.hid (fin.out _ _ hb3.out hR4.out hb4.out)
            case measure => exact hms
end Go.Proofs.YthehnffmbdlopaaDoor.J
