/- The walks of fastjson's lexical functions: blanks, folded words, raw strings and keys, numbers, errors. -/
import Derived.Test.YtkmdcckiehbcmaaDoorFpPure
import Derived.Test.YtkmdcckiehbcmaaDoorFuA
import Derived.Test.YtkmdcckiehbcmaaDoorPFnFjStringx2
import Derived.Deep.CutRange
set_option linter.unusedVariables false
set_option linter.unusedSimpArgs false
namespace Go.Proofs.YtkmdcckiehbcmaaDoor.Fp
open Go.RowKit Go.Proofs.YtkmdcckiehbcmaaDoorW.PrintWords Go.Proofs.YtkmdcckiehbcmaaDoorW.PrintLast Go.Proofs.YtkmdcckiehbcmaaDoorW.PrintMore Go.Proofs.YtkmdcckiehbcmaaDoor.Aid Go.Proofs.YtkmdcckiehbcmaaDoor.J Go.Proofs.YtkmdcckiehbcmaaDoor.PFnFjString

theorem w64 {x : Int} (h0 : -1000000000000 ≤ x) (h1 : x ≤ 1000000000000) : wrap64 x = x := by unfold wrap64; omega
theorem from_cons' (s : ByteArray) (a : Nat) (h : a < s.size) : from_ s a = bt s (a : Int) :: from_ s (a + 1) := by
  have hl : a < (bytesOf s).length := by rw [bytesOf_length]; exact h
  unfold from_
  rw [List.drop_eq_getElem_cons hl]
  congr 1
  have := bytesOf_get? s a h
  rw [List.getElem?_eq_getElem hl] at this
  exact Option.some.inj this
theorem from_end' (s : ByteArray) : from_ s s.size = [] := List.eq_nil_of_length_eq_zero (by rw [from_len]; omega)
theorem from0 (s : ByteArray) : from_ s 0 = bytesOf s := rfl
theorem ext_str (s : ByteArray) (i : Nat) : s.extract i s.size = strOfNums (from_ s i) := by
  have := by_from s i
  rw [← str_of_bytes (s.extract i s.size), this]; rfl
theorem ws_cons (c : Int) (t : L) : ws (c :: t) = if wsB c = true then ws t else c :: t := by
  unfold ws
  rw [List.dropWhile_cons]
theorem slow_l0 (s : ByteArray) (hs : s.size ≤ 100000) : ∀ (m i : Nat), i + m = s.size → fastjson_skipWSSlow.l0 (m + 1) s (i : Int) = some (strOfNums (ws (from_ s i))) := by
  intro m
  induction m with
  | zero =>
    intro i h
    obtain rfl : i = s.size := by omega
    rw [from_end', fastjson_skipWSSlow.l0, if_neg (by omega)]; rfl
  | succ m ih =>
    intro i h
    have hw : wrap64 ((i : Int) + 1) = ((i + 1 : Nat) : Int) := by rw [w64 (by omega) (by omega)]; rfl
    have ih2 := ih (i + 1) (by omega)
    rw [fastjson_skipWSSlow.l0, if_pos (by omega), if_pos (by omega), hw, ih2, from_cons' s i (by omega), ws_cons]
    unfold wsB
    by_cases h1 : bt s (i : Int) = 32
    · rw [if_pos h1, h1]; rfl
    rw [if_neg h1]
    by_cases h2 : bt s (i : Int) = 10
    · rw [if_pos h2, h2]; rfl
    rw [if_neg h2]
    by_cases h3 : bt s (i : Int) = 9
    · rw [if_pos h3, h3]; rfl
    rw [if_neg h3]
    by_cases h4 : bt s (i : Int) = 13
    · rw [if_pos h4, h4]; rfl
    rw [if_neg h4, if_pos (by omega), if_neg (by simp [h1, h2, h3, h4]), Int.toNat_natCast, ext_str, from_cons' s i (by omega)]
theorem ws_f (s : ByteArray) (hs : s.size ≤ 100000) : ∃ k, fastjson_skipWS.f k s = some (strOfNums (ws (bytesOf s))) := by
  have e0 : s = strOfNums (bytesOf s) := (str_of_bytes s).symm
  unfold fastjson_skipWS.f
  by_cases c0 : (s.size : Int) = 0
  · refine ⟨0, ?_⟩
    rw [if_pos c0]
    have : bytesOf s = [] := List.eq_nil_of_length_eq_zero (by rw [bytesOf_length]; omega)
    rw [this] at e0 ⊢
    exact congrArg some e0
  have hf : bytesOf s = bt s 0 :: from_ s 1 := from_cons' s 0 (by omega)
  have hsl : ∀ b, (wsB (bt s 0) = !b) → fastjson_skipWSSlow.j0 (s.size + 2) s b = some (strOfNums (ws (bytesOf s))) := fun b hb => by
    rw [fastjson_skipWSSlow.j0]
    cases b with
    | true =>
      rw [if_pos rfl, hf, ws_cons, hb, if_neg (by decide), ← hf]
      exact congrArg some e0
    | false =>
      have := slow_l0 s hs (s.size - 1) 1 (by omega)
      have h2 : fastjson_skipWSSlow.l0 (s.size + 1) s 1 = some (strOfNums (ws (from_ s 1))) := by
        have m1 : ∀ k, LeO (fastjson_skipWSSlow.l0 k s 1) (fastjson_skipWSSlow.l0 (k + 1) s 1) := fun k => (fastjson_skipWSSlow.mono_l k).2 _ _
        have e1 : s.size - 1 + 1 = s.size := by omega
        rw [e1] at this
        exact m1 _ _ this
      rw [if_neg (by decide), h2, hf, ws_cons, hb, if_pos (by decide)]
  refine ⟨s.size + 2, ?_⟩
  rw [if_neg c0, if_pos (by omega)]
  by_cases h32 : bt s 0 > 32
  · rw [if_pos h32]
    have hb : wsB (bt s 0) = false := by
      unfold wsB
      simp only [Bool.or_eq_false_iff, beq_eq_false_iff_ne]
      omega
    rw [hf, ws_cons, hb, if_neg (by decide), ← hf]
    exact congrArg some e0
  rw [if_neg h32]
  unfold fastjson_skipWSSlow.f
  rw [if_neg c0, if_pos (by omega)]
  by_cases h1 : bt s 0 = 32
  · rw [if_pos h1, hsl false (by rw [h1]; rfl)]; rfl
  rw [if_neg h1]
  by_cases h2 : bt s 0 = 10
  · rw [if_pos h2, hsl false (by rw [h2]; rfl)]; rfl
  rw [if_neg h2]
  by_cases h3 : bt s 0 = 9
  · rw [if_pos h3, hsl false (by rw [h3]; rfl)]; rfl
  rw [if_neg h3]
  have hb : wsB (bt s 0) = !(bt s 0 != 13) := by
    unfold wsB
    rw [beq_eq_false_iff_ne.mpr h1, beq_eq_false_iff_ne.mpr h2, beq_eq_false_iff_ne.mpr h3]
    cases e : (bt s 0 == 13) <;> simp [bne, e]
  rw [hsl (bt s 0 != 13) hb]; rfl
theorem ws_any (s : ByteArray) (w : World) (hs : s.size ≤ 100000) : Calls Tryd.prog 53 #[.string s] w fun e w' => e = .returned (.string (strOfNums (ws (bytesOf s)))) ∧ Drawn0 w w' := by
  obtain ⟨k, hk⟩ := ws_f s hs
  exact fastjson_skipWS.calls k s _ w hk
theorem fold_l0 (s t : ByteArray) (hs : s.size ≤ 100000) (hst : s.size = t.size) : ∀ (m i : Nat), i + m = s.size → fastjson_zzFold.l0 (2 * m + 1) s t (i : Int) = some ((from_ s i).map low == from_ t i) := by
  intro m
  induction m with
  | zero =>
    intro i h
    obtain rfl : i = s.size := by omega
    rw [from_end', hst, from_end', fastjson_zzFold.l0, if_neg (by omega)]; rfl
  | succ m ih =>
    intro i h
    have hw : wrap64 ((i : Int) + 1) = ((i + 1 : Nat) : Int) := by rw [w64 (by omega) (by omega)]; rfl
    have ih2 := ih (i + 1) (by omega)
    have hb := bytesOf_range s (bt s (i : Int)) (by have := from_cons' s i (by omega); exact List.mem_of_mem_drop (by unfold from_ at this; rw [this]; exact List.mem_cons_self))
    have j : ∀ b, (b = true ↔ 65 ≤ bt s (i : Int) ∧ bt s (i : Int) ≤ 90) → fastjson_zzFold.j1 (2 * m + 2) s t (i : Int) (bt s (i : Int)) b = some ((from_ s i).map low == from_ t i) := fun b hbb => by
      rw [fastjson_zzFold.j1, hw, ih2, from_cons' s i (by omega), from_cons' t i (by omega), List.map_cons, List.cons_beq_cons]
      simp only [if_pos (show (0 : Int) ≤ i by omega), if_pos (show (i : Int) < t.size by omega)]
      cases b with
      | true =>
        have hr := hbb.1 rfl
        have hl : low (bt s (i : Int)) = bt s (i : Int) + 32 := by unfold low; rw [if_pos hr]
        rw [if_pos rfl, hl, show (bt s (i : Int) + 32) % 256 = bt s (i : Int) + 32 by omega]
        by_cases e : bt s (i : Int) + 32 = bt t (i : Int)
        · rw [if_pos e, beq_iff_eq.mpr e, Bool.true_and]
        · rw [if_neg e, beq_eq_false_iff_ne.mpr e, Bool.false_and]
      | false =>
        have hl : low (bt s (i : Int)) = bt s (i : Int) := by unfold low; rw [if_neg]; intro hr; have := hbb.2 hr; cases this
        rw [if_neg (by decide), hl]
        by_cases e : bt s (i : Int) = bt t (i : Int)
        · rw [if_pos e, beq_iff_eq.mpr e, Bool.true_and]
        · rw [if_neg e, beq_eq_false_iff_ne.mpr e, Bool.false_and]
    rw [show 2 * (m + 1) + 1 = (2 * m + 2) + 1 by omega, fastjson_zzFold.l0, if_pos (by omega), if_pos (by omega)]
    by_cases h65 : 65 ≤ bt s (i : Int)
    · rw [if_pos h65, j _ (by simp [h65])]
    · rw [if_neg h65, j _ (by simp [h65])]
theorem fold_any (s t : ByteArray) (w : World) (hs : s.size ≤ 100000) (hst : s.size = t.size) : Calls Tryd.prog 74 #[.string s, .string t] w fun e w' => e = .returned (.bool ((bytesOf s).map low == bytesOf t)) ∧ Drawn0 w w' := by
  refine fastjson_zzFold.calls (2 * s.size + 1) s t _ w ?_
  unfold fastjson_zzFold.f
  rw [if_pos (by omega)]
  exact fold_l0 s t hs hst s.size 0 (by omega)
/-- An error of errors.New. -/
abbrev eI (N : Nat) : Value := .iface 97 (.pointer (some ⟨N, 0, none⟩))
theorem new_any (s : ByteArray) (w : World) : Calls Tryd.prog 46 #[.string s] w fun e w' => (∃ N, e = .returned (eI N)) ∧ Below w.heap.size w w' := by
  go_enter Tryd.func46, Tryd.ntmps46
  go_wp2
  go_ret
  refine ⟨⟨_, rfl⟩, ?_⟩
  first
    | exact (Below.refl _ _).alloc (Nat.le_refl _) _
    | exact below_set (below_alloc (Below.refl _ _) _) (Nat.le_refl _)
end Go.Proofs.YtkmdcckiehbcmaaDoor.Fp
