/- The parser's reading of \uXXXX, on lists: what the printed functions come to. -/
import Derived.Test.YtjpbjbcdobibbaaDoorUnPure
import Derived.Test.YtjpbjbcdobibbaaDoorPFnJpUnescapex1
set_option linter.unusedVariables false
namespace Go.Proofs.YtjpbjbcdobibbaaDoor.J
open Go.RowKit Go.Proofs.YtjpbjbcdobibbaaDoorW.PrintWords Go.Proofs.YtjpbjbcdobibbaaDoor.PFnJpUnescape

theorem rd_getD (l : L) (i : Nat) : rd l (i : Int) = l.getD i 0 := by unfold rd; rw [Int.toNat_natCast]
def byt (c : Int) : Prop := 0 ≤ c ∧ c ≤ 255
theorem h2I_f (k : Nat) (c : Int) (h : byt c) : jsonparser_h2I.f (k + 2) c = some (if hex c = true then hv c else -1) := by
  obtain ⟨h0, h1⟩ := h
  unfold jsonparser_h2I.f jsonparser_h2I.j0 jsonparser_h2I.j1
  unfold hex hv dig
  by_cases a1 : 48 ≤ c
  · by_cases a2 : c ≤ 57
    · simp [a1, a2]; omega
    · by_cases a3 : 65 ≤ c
      · by_cases a4 : c ≤ 70
        · have : ¬ 97 ≤ c := by omega
          simp [a1, a2, a3, a4, this]; omega
        · by_cases a5 : 97 ≤ c
          · by_cases a6 : c ≤ 102
            · simp [a1, a2, a3, a4, a5, a6]; omega
            · simp [a1, a2, a3, a4, a5, a6]
          · simp [a1, a2, a3, a4, a5]
      · have : ¬ 97 ≤ c := by omega
        simp [a1, a2, a3, this]
  · have b1 : ¬ 65 ≤ c := by omega
    have b2 : ¬ 97 ≤ c := by omega
    simp [a1, b1, b2]

/-- The four digits behind two bytes. -/
def hx4 (l : L) : Option Int :=
  if 6 ≤ l.length ∧ hex (l.getD 2 0) = true ∧ hex (l.getD 3 0) = true ∧ hex (l.getD 4 0) = true ∧ hex (l.getD 5 0) = true then
    some (((hv (l.getD 2 0) * 16 + hv (l.getD 3 0)) * 16 + hv (l.getD 4 0)) * 16 + hv (l.getD 5 0)) else none
theorem unit_hx4 {l : L} (h0 : l.getD 0 0 = 92) (h1 : l.getD 1 0 = 117) : unit l = hx4 l := by
  unfold unit hx4
  simp only [h0, h1, true_and]
theorem hx4_range {l : L} {n : Int} (h : hx4 l = some n) : 0 ≤ n ∧ n ≤ 65535 := by
  unfold hx4 at h
  split at h
  · rename_i hh
    obtain ⟨_, h2, h3, h4, h5⟩ := hh
    have := hv_range h2; have := hv_range h3; have := hv_range h4; have := hv_range h5
    injection h with h; omega
  · cases h
def dec1 (l : L) : Int × Bool := match hx4 l with
  | some n => (n, true)
  | none => (65533, false)
theorem byt_getD {l : L} (hb : ∀ x ∈ l, byt x) (i : Nat) : byt (l.getD i 0) := by
  rw [List.getD_eq_getElem?_getD]
  cases h : l[i]? with
  | none => exact ⟨by simp, by simp⟩
  | some x => exact hb x (List.mem_of_getElem? h)
theorem dec1_f (k : Nat) (l : L) (hb : ∀ x ∈ l, byt x) : jsonparser_decodeSingleUnicodeEscape.f (k + 2) l = some (dec1 l) := by
  unfold jsonparser_decodeSingleUnicodeEscape.f dec1 hx4
  by_cases h6 : (l.length : Int) < 6
  · rw [if_pos h6, if_neg (by omega)]
  · rw [if_neg h6, if_pos (show 2 < (l.length : Int) by omega)]
    have e2 : rd l 2 = l.getD 2 0 := rd_getD l 2
    have e3 : rd l 3 = l.getD 3 0 := rd_getD l 3
    have e4 : rd l 4 = l.getD 4 0 := rd_getD l 4
    have e5 : rd l 5 = l.getD 5 0 := rd_getD l 5
    rw [e2, h2I_f k _ (byt_getD hb 2), Option.bind_some, if_pos (show 3 < (l.length : Int) by omega)]
    rw [e3, h2I_f k _ (byt_getD hb 3), Option.bind_some, if_pos (show 4 < (l.length : Int) by omega)]
    rw [e4, h2I_f k _ (byt_getD hb 4), Option.bind_some, if_pos (show 5 < (l.length : Int) by omega)]
    rw [e5, h2I_f k _ (byt_getD hb 5), Option.bind_some]
    by_cases a2 : hex (l.getD 2 0) = true
    · have r2 := hv_range a2
      rw [if_pos a2, if_neg (show ¬ hv (l.getD 2 0) = -1 by omega)]
      by_cases a3 : hex (l.getD 3 0) = true
      · have r3 := hv_range a3
        rw [if_pos a3, if_neg (show ¬ hv (l.getD 3 0) = -1 by omega)]
        by_cases a4 : hex (l.getD 4 0) = true
        · have r4 := hv_range a4
          rw [if_pos a4, if_neg (show ¬ hv (l.getD 4 0) = -1 by omega)]
          by_cases a5 : hex (l.getD 5 0) = true
          · have r5 := hv_range a5
            rw [if_pos a5, if_neg (show ¬ hv (l.getD 5 0) = -1 by omega), if_pos ⟨by omega, a2, a3, a4, a5⟩]
            simp only [Option.some.injEq, Prod.mk.injEq, and_true]
            unfold wrap32 wrap64
            omega
          · rw [if_neg a5, if_pos rfl, if_neg (fun h => a5 h.2.2.2.2)]
        · rw [if_neg a4, if_pos rfl, if_neg (fun h => a4 h.2.2.2.1)]
      · rw [if_neg a3, if_pos rfl, if_neg (fun h => a3 h.2.2.1)]
    · rw [if_neg a2, if_pos rfl, if_neg (fun h => a2 h.2.1)]
/-- An escape behind "\u": its character (U+FFFD for half a pair), and how many bytes it has. -/
def duc (l : L) : Int × Int := match hx4 l with
  | none => (65533, -1)
  | some n => if high n = true then (if l.length < 8 ∨ l.getD 6 0 ≠ 92 ∨ l.getD 7 0 ≠ 117 then (65533, 6) else match hx4 (l.drop 6) with
      | none => (65533, -1)
      | some m => if low m = true then (comb n m, 12) else (65533, 6))
    else if low n = true then (65533, 6) else (n, 6)
theorem j0_true (k : Nat) (l : L) (x : Int) : jsonparser_decodeUnicodeEscape.j0 (k + 1) l x true = some (65533, 6) := by unfold jsonparser_decodeUnicodeEscape.j0; rfl
theorem duc_f (k : Nat) (l : L) (hb : ∀ x ∈ l, byt x) : jsonparser_decodeUnicodeEscape.f (k + 3) l = some (duc l) := by
  unfold jsonparser_decodeUnicodeEscape.f
  rw [dec1_f (k + 1) l hb]
  simp only [Option.bind_some]
  unfold dec1 duc
  cases e : hx4 l with
  | none => rfl
  | some n =>
    have hn := hx4_range e
    simp only [if_true]
    unfold jsonparser_isUTF16EncodedRune.f
    by_cases s1 : 55296 ≤ n
    · rw [if_pos s1]
      simp only [Option.bind_some, decide_eq_true_eq]
      by_cases s2 : n ≤ 57343
      · rw [if_pos s2]
        by_cases s3 : 56320 ≤ n
        · rw [if_pos (show n ≥ 56320 from s3), if_neg (by unfold high; simp; omega), if_pos (by unfold low; simp; omega)]
        · rw [if_neg (show ¬ n ≥ 56320 from s3), if_pos (show high n = true by unfold high; simp; omega)]
          by_cases s4 : (l.length : Int) < 8
          · rw [if_pos s4, j0_true, if_pos (Or.inl (by omega))]
          · have e6 : rd l 6 = l.getD 6 0 := rd_getD l 6
            have e7 : rd l 7 = l.getD 7 0 := rd_getD l 7
            rw [if_neg s4, if_pos (show 6 < (l.length : Int) by omega), e6, e7]
            by_cases s5 : l.getD 6 0 = 92
            · rw [if_pos s5, if_pos (show 7 < (l.length : Int) by omega)]
              by_cases s6 : l.getD 7 0 = 117
              · rw [if_neg (show ¬ (l.length < 8 ∨ l.getD 6 0 ≠ 92 ∨ l.getD 7 0 ≠ 117) by simp only [s5, s6]; omega), s6]
                unfold jsonparser_decodeUnicodeEscape.j0
                simp only [bne_self_eq_false, Bool.false_eq_true, if_false]
                rw [if_pos (show 6 ≤ (l.length : Int) by omega), dec1_f k (l.drop 6) (fun x hx => hb x (List.mem_of_mem_drop hx))]
                simp only [Option.bind_some]
                unfold dec1
                cases e2 : hx4 (l.drop 6) with
                | none => rfl
                | some m =>
                  have hm := hx4_range e2
                  simp only [if_true]
                  by_cases t1 : m < 56320
                  · rw [if_pos t1, if_neg (by unfold low; simp; omega)]
                  · rw [if_neg t1]
                    by_cases t2 : m > 57343
                    · rw [if_pos t2, if_neg (by unfold low; simp; omega)]
                    · rw [if_neg t2, if_pos (show low m = true by unfold low; simp; omega)]
                      unfold jsonparser_combineUTF16Surrogates.f comb
                      simp only [Option.bind_some, Option.some.injEq, Prod.mk.injEq, and_true]
                      unfold wrap32
                      omega
              · rw [if_pos (show (l.length < 8 ∨ l.getD 6 0 ≠ 92 ∨ l.getD 7 0 ≠ 117) from .inr (.inr s6)), show (l.getD 7 0 != 117) = true from bne_iff_ne.mpr s6, j0_true]
            · rw [if_neg s5, j0_true, if_pos (.inr (.inl s5))]
      · rw [if_neg s2, if_neg (by unfold high; simp; omega), if_neg (by unfold low; simp; omega)]
    · rw [if_neg s1]
      simp only [Option.bind_some, Bool.false_eq_true, if_false]
      rw [if_neg (by unfold high; simp; omega), if_neg (by unfold low; simp; omega)]
/-- What it is to the parser. -/
theorem duc_ue {l : L} (h2 : 2 ≤ l.length) (h0 : l.getD 0 0 = 92) (h1 : l.getD 1 0 = 117) :
    (ue l = none ∧ (duc l).2 = -1) ∨ ∃ k o, ue l = some (k, o) ∧ (duc l).2 = (k : Int) ∧ o = utf8 (duc l).1 ∧ 0 ≤ (duc l).1 ∧ (duc l).1 ≤ 1114111 := by
  have r : utf8 65533 = [239, 191, 189] := by decide
  unfold ue duc
  rw [if_neg (by omega), h1, if_neg (by decide), if_pos rfl, unit_hx4 h0 h1]
  cases e : hx4 l with
  | none => exact .inl ⟨rfl, rfl⟩
  | some n =>
    have hn := hx4_range e
    simp only []
    by_cases hh : high n = true
    · rw [if_pos hh, if_pos hh]
      by_cases hc : l.length < 8 ∨ l.getD 6 0 ≠ 92 ∨ l.getD 7 0 ≠ 117
      · rw [if_pos hc, if_pos hc]
        exact .inr ⟨6, _, rfl, rfl, r.symm, by decide, by decide⟩
      · rw [if_neg hc, if_neg hc]
        have d0 : (l.drop 6).getD 0 0 = 92 := by rw [getD_drop']; exact Classical.not_not.1 fun h => hc (.inr (.inl h))
        have d1 : (l.drop 6).getD 1 0 = 117 := by rw [getD_drop']; exact Classical.not_not.1 fun h => hc (.inr (.inr h))
        rw [unit_hx4 d0 d1]
        cases e2 : hx4 (l.drop 6) with
        | none => exact .inl ⟨rfl, rfl⟩
        | some m =>
          have hm := hx4_range e2
          simp only []
          by_cases hl : low m = true
          · rw [if_pos hl, if_pos hl]
            refine .inr ⟨12, _, rfl, rfl, rfl, ?_, ?_⟩
            · unfold high at hh; unfold low at hl; unfold comb; simp at hh hl ⊢; omega
            · unfold high at hh; unfold low at hl; unfold comb; simp at hh hl ⊢; omega
          · rw [if_neg hl, if_neg hl]
            exact .inr ⟨6, _, rfl, rfl, r.symm, by decide, by decide⟩
    · rw [if_neg hh, if_neg hh]
      by_cases hl : low n = true
      · rw [if_pos hl]
        exact .inr ⟨6, _, rfl, rfl, by rw [r, utf8_sur (.inr hl)], by decide, by decide⟩
      · rw [if_neg hl]
        exact .inr ⟨6, _, rfl, rfl, rfl, hn.1, by show n ≤ 1114111; omega⟩
end Go.Proofs.YtjpbjbcdobibbaaDoor.J
