/- The walks of gjson's stringLessInsensitive, and of Less at two strings. -/
import Derived.Test.YtbpiooeklkjilaaDoorZPFnGjLessFoldx6
import Derived.Test.YtbpiooeklkjilaaDoorZLessPure
import Derived.Test.YtbpiooeklkjilaaDoorZAid
import Derived.BigQuiet
set_option linter.unusedVariables false
set_option linter.unusedSimpArgs false
namespace Go.Proofs.YtbpiooeklkjilaaDoor.LessA
open Go.Proofs.YtbpiooeklkjilaaDoor.LessPure Go.Proofs.YtbpiooeklkjilaaDoor.Aid Go.RowKit Go.Proofs.YtbpiooeklkjilaaDoorW.PrintWords Go.Proofs.YtbpiooeklkjilaaDoorW.PrintLast Go.Proofs.YtbpiooeklkjilaaDoorW.PrintMore

section
open Go.Proofs.YtbpiooeklkjilaaDoor.PFnGjLessFold
theorem fold_up {c : Int} (h1 : c ≥ 65) (h2 : c ≤ 90) : fold c = c + 32 := by unfold fold; rw [if_pos ⟨h1, h2⟩]
theorem fold_no {c : Int} (h : ¬ (c ≥ 65 ∧ c ≤ 90)) : fold c = c := by unfold fold; rw [if_neg h]

/-- What one round decides of two bytes. -/
def step (k : Nat) (a b : ByteArray) (i : Int) : Option Bool :=
  if fold (bt a i) < fold (bt b i) then some true else if fold (bt b i) < fold (bt a i) then some false else gjson_stringLessInsensitive.l0 k a b (wrap64 (i + 1))
theorem three_ifs {p q : Prop} [Decidable p] [Decidable q] {p' q' : Prop} [Decidable p'] [Decidable q'] {x : Option Bool} (h1 : p ↔ p') (h2 : q ↔ q') : (if p then some true else if q then some false else x) = (if p' then some true else if q' then some false else x) := by
  by_cases c1 : p
  · rw [if_pos c1, if_pos (h1.1 c1)]
  · rw [if_neg c1, if_neg (fun h => c1 (h1.2 h))]
    by_cases c2 : q
    · rw [if_pos c2, if_pos (h2.1 c2)]
    · rw [if_neg c2, if_neg (fun h => c2 (h2.2 h))]
theorem j3_is (k : Nat) (a b : ByteArray) (i : Int) (u : Bool) (h0 : 0 ≤ i) (ha : i < a.size) (hb : i < b.size) (hu : bt a i ≥ 65 ∧ bt a i ≤ 90) (hv : u = true ↔ bt b i ≥ 65 ∧ bt b i ≤ 90) :
    gjson_stringLessInsensitive.j3 (k + 1) a b i u = step k a b i := by
  have r1 := bt_range a i
  rw [gjson_stringLessInsensitive.j3.eq_def]; simp only
  unfold step
  rw [fold_up hu.1 hu.2]
  cases u with
  | true =>
    have hv' := hv.1 rfl
    rw [if_pos rfl, if_pos h0, if_pos ha, if_pos hb, fold_up hv'.1 hv'.2]
    try exact three_ifs (by omega) (by omega)
  | false =>
    have hv' : ¬ (bt b i ≥ 65 ∧ bt b i ≤ 90) := fun h => by cases hv.2 h
    rw [if_neg (by simp), if_pos h0, if_pos ha, if_pos hb, fold_no hv']
    try exact three_ifs (by omega) (by omega)
theorem j4_is (k : Nat) (a b : ByteArray) (i : Int) (u : Bool) (h0 : 0 ≤ i) (ha : i < a.size) (hb : i < b.size) (hu : ¬ (bt a i ≥ 65 ∧ bt a i ≤ 90)) (hv : u = true ↔ bt b i ≥ 65 ∧ bt b i ≤ 90) :
    gjson_stringLessInsensitive.j4 (k + 1) a b i u = step k a b i := by
  have r1 := bt_range b i
  rw [gjson_stringLessInsensitive.j4.eq_def]; simp only
  unfold step
  rw [fold_no hu]
  cases u with
  | true =>
    have hv' := hv.1 rfl
    rw [if_pos rfl, if_pos h0, if_pos ha, if_pos hb, fold_up hv'.1 hv'.2]
    try exact three_ifs (by omega) (by omega)
  | false =>
    have hv' : ¬ (bt b i ≥ 65 ∧ bt b i ≤ 90) := fun h => by cases hv.2 h
    rw [if_neg (by simp), if_pos h0, if_pos ha, if_pos hb, fold_no hv']
    try exact three_ifs (by omega) (by omega)
theorem j2_is (k : Nat) (a b : ByteArray) (i : Int) (u : Bool) (h0 : 0 ≤ i) (ha : i < a.size) (hb : i < b.size) (hu : u = true ↔ bt a i ≥ 65 ∧ bt a i ≤ 90) :
    gjson_stringLessInsensitive.j2 (k + 2) a b i u = step k a b i := by
  rw [gjson_stringLessInsensitive.j2.eq_def]; simp only
  cases u with
  | true =>
    have hu' := hu.1 rfl
    rw [if_pos rfl, if_pos h0, if_pos hb]
    by_cases c : bt b i ≥ 65
    · rw [if_pos c]; exact j3_is k a b i _ h0 ha hb hu' ⟨fun h => ⟨c, by simpa using h⟩, fun h => by simpa using h.2⟩
    · rw [if_neg c]; exact j3_is k a b i _ h0 ha hb hu' ⟨(fun h => by cases h), fun h => absurd h.1 c⟩
  | false =>
    have hu' : ¬ (bt a i ≥ 65 ∧ bt a i ≤ 90) := fun h => by cases hu.2 h
    rw [if_neg (by simp), if_pos h0, if_pos hb]
    by_cases c : bt b i ≥ 65
    · rw [if_pos c]; exact j4_is k a b i _ h0 ha hb hu' ⟨fun h => ⟨c, by simpa using h⟩, fun h => by simpa using h.2⟩
    · rw [if_neg c]; exact j4_is k a b i _ h0 ha hb hu' ⟨(fun h => by cases h), fun h => absurd h.1 c⟩
theorem round_is (k : Nat) (a b : ByteArray) (i : Int) (h0 : 0 ≤ i) (ha : i < a.size) (hb : i < b.size) :
    gjson_stringLessInsensitive.l0 (k + 4) a b i = step k a b i := by
  rw [gjson_stringLessInsensitive.l0.eq_def]; simp only
  rw [if_pos ha, decide_eq_true hb, gjson_stringLessInsensitive.j1.eq_def]; simp only
  rw [if_pos trivial, if_pos h0, if_pos ha]
  by_cases c : bt a i ≥ 65
  · rw [if_pos c]; exact j2_is k a b i _ h0 ha hb ⟨fun h => ⟨c, by simpa using h⟩, fun h => by simpa using h.2⟩
  · rw [if_neg c]; exact j2_is k a b i _ h0 ha hb ⟨(fun h => by cases h), fun h => absurd h.1 c⟩
theorem end_is (k : Nat) (a b : ByteArray) (i : Int) (h : ¬ (i < a.size ∧ i < b.size)) :
    gjson_stringLessInsensitive.l0 (k + 2) a b i = some (decide ((a.size : Int) < b.size)) := by
  rw [gjson_stringLessInsensitive.l0.eq_def]; simp only
  by_cases ha : i < (a.size : Int)
  · rw [if_pos ha, decide_eq_false (by omega), gjson_stringLessInsensitive.j1.eq_def]; rfl
  · rw [if_neg ha, gjson_stringLessInsensitive.j1.eq_def]; rfl
theorem small_length (s : ByteArray) : (small s).length = s.size := by simp [small, bytesOf_length]
theorem small_drop (s : ByteArray) (i : Nat) (h : i < s.size) : (small s).drop i = fold (bt s i) :: (small s).drop (i + 1) := by
  rw [List.drop_eq_getElem_cons (by rw [small_length]; exact h)]
  congr 1
  have := bytesOf_get? s i h
  rw [List.getElem?_eq_getElem (by rw [bytesOf_length]; exact h)] at this
  simp only [small, List.getElem_map]
  rw [Option.some.inj this]
theorem ins_from (a b : ByteArray) (ha : a.size ≤ 140737488351232) (d : Nat) : ∀ (k i : Nat), i ≤ a.size → i ≤ b.size → a.size - i = d → 4 * d + 4 ≤ k →
    gjson_stringLessInsensitive.l0 k a b i = some (lex ((small a).drop i) ((small b).drop i)) := by
  induction d with
  | zero =>
    intro k i h1 h2 hd hk
    obtain ⟨k, rfl⟩ : ∃ m, k = m + 2 := ⟨k - 2, by omega⟩
    rw [end_is k a b i (by omega), show (small a).drop i = [] from List.drop_eq_nil_of_le (by rw [small_length]; omega)]
    congr 1
    by_cases e : i < b.size
    · rw [small_drop b i e, decide_eq_true (by omega)]; rfl
    · rw [List.drop_eq_nil_of_le (by rw [small_length]; omega), decide_eq_false (by omega)]; rfl
  | succ d ih =>
    intro k i h1 h2 hd hk
    obtain ⟨k, rfl⟩ : ∃ m, k = m + 4 := ⟨k - 4, by omega⟩
    by_cases e : i < b.size
    · rw [round_is k a b i (by omega) (by omega) (by omega), small_drop a i (by omega), small_drop b i e]
      unfold step
      simp only [lex]
      by_cases c1 : fold (bt a i) < fold (bt b i)
      · rw [if_pos c1]; simp [c1]
      · rw [if_neg c1]
        by_cases c2 : fold (bt b i) < fold (bt a i)
        · rw [if_pos c2]
          have : (fold (bt a i) == fold (bt b i)) = false := beq_eq_false_iff_ne.mpr (by omega)
          simp [c1, this]
        · rw [if_neg c2]
          have e1 : wrap64 ((i : Int) + 1) = ((i + 1 : Nat) : Int) := by unfold wrap64; omega
          have : fold (bt a i) = fold (bt b i) := by omega
          rw [e1, ih k (i + 1) (by omega) (by omega) (by omega) (by omega)]
          simp [this]
    · rw [end_is (k + 2) a b i (by omega), small_drop a i (by omega), show (small b).drop i = [] from List.drop_eq_nil_of_le (by rw [small_length]; omega), decide_eq_false (by omega)]
      rfl
theorem ins_is (a b : ByteArray) (ha : a.size ≤ 140737488351232) : gjson_stringLessInsensitive.f (4 * a.size + 4) a b = some (lex (small a) (small b)) := by
  have := ins_from a b ha a.size (4 * a.size + 4) 0 (by omega) (by omega) (by omega) (by omega)
  simpa [gjson_stringLessInsensitive.f] using this
theorem ins_any (a b : ByteArray) (w : World) (ha : a.size ≤ 140737488351232) :
    Calls Tryd.prog 19 #[.string a, .string b] w fun e w' => e = .returned (.bool (lex (small a) (small b))) ∧ Drawn0 w w' :=
  gjson_stringLessInsensitive.calls _ a b _ w (ins_is a b ha)
end

set_option maxHeartbeats 1000000 in
theorem less3_any (raw str : ByteArray) (num : Nat) (i : Int) (raw' str' : ByteArray) (num' : Nat) (i' : Int) (w : World) (hs : str.size ≤ 140737488351232) :
    Calls Tryd.prog 10 #[.agg #[.int .i64 3, .string raw, .string str, .float .f64 num, .int .i64 i, .slice none 0 0], .agg #[.int .i64 3, .string raw', .string str', .float .f64 num', .int .i64 i', .slice none 0 0], .bool false] w fun e w' => e = .returned (.bool (lex (small str) (small str'))) ∧ Below w.heap.size w w' := by
  go_enter Tryd.func10, Tryd.ntmps10
  go_wp2_with (go_at_call 19; refine (ins_any _ _ _ hs).mono ?_; rintro e w' ⟨rfl, ⟨nd, rfl⟩⟩)
  go_ret
  exact ⟨rfl, pw_below_drewN (((Below.refl _ _).alloc (Nat.le_refl _) _).alloc (by simp) _) _⟩
end Go.Proofs.YtbpiooeklkjilaaDoor.LessA
