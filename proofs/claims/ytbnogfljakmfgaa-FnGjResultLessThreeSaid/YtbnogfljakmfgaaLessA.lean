/- The walks of gjson's Result.Less, and of what calls it. -/
import Derived.Test.YtbnogfljakmfgaaPFnGjResultLessThreex2
import Derived.Test.YtbnogfljakmfgaaLessPure
import Derived.Deep.RegionHeld3
import Derived.Deep.Quiet
import Derived.BigQuiet
import Derived.Laws.Cover2
set_option linter.unusedVariables false
namespace Go.Proofs.Ytbnogfljakmfgaa.LessA
open Go.Proofs.Ytbnogfljakmfgaa.LessPure Go.Proofs.Ytbnogfljakmfgaa.Aid Go.RowKit Go.Proofs.YtbnogfljakmfgaaW.PrintWords Go.Proofs.YtbnogfljakmfgaaW.PrintLast Go.Proofs.YtbnogfljakmfgaaW.PrintMore

theorem run_store_float' (P : Program) (w : World) (a : Addr) (k : FloatKind) (n : Nat) (m : Mode) : (store a (.float k n) m).run P w = stored P w a (.float k n) m := run_store P w a _ m rfl
attribute [local go_sem] run_store_float'

section
open Go.Proofs.Ytbnogfljakmfgaa.PFnGjResultLessThree
theorem fold_up {c : Int} (h1 : c ≥ 65) (h2 : c ≤ 90) : fold c = c + 32 := by unfold fold; rw [if_pos ⟨h1, h2⟩]
theorem fold_no {c : Int} (h : ¬ (c ≥ 65 ∧ c ≤ 90)) : fold c = c := by unfold fold; rw [if_neg h]

/-- What one round decides of two bytes. -/
def step (k : Nat) (a b : ByteArray) (i : Int) : Option Bool :=
  if fold (bt a i) < fold (bt b i) then some true else if fold (bt b i) < fold (bt a i) then some false else gjson_stringLessInsensitive.l0 k a b (wrap64 (i + 1))
theorem three_ifs {p q : Prop} [Decidable p] [Decidable q] {p' q' : Prop} [Decidable p'] [Decidable q'] {x : Option Bool} (h1 : p ↔ p') (h2 : q ↔ q') : (if p then some true else if q then some false else x) = (if p' then some true else if q' then some false else x) := by
  by_cases c1 : p
  · rw [if_pos c1, if_pos (h1.1 c1)]
  · rw [if_neg c1, if_neg (fun h => c1 (h1.2 h))]
    by_cases c2 : q
    · rw [if_pos c2, if_pos (h2.1 c2)]
    · rw [if_neg c2, if_neg (fun h => c2 (h2.2 h))]
theorem j3_is (k : Nat) (a b : ByteArray) (i : Int) (u : Bool) (h0 : 0 ≤ i) (ha : i < a.size) (hb : i < b.size) (hu : bt a i ≥ 65 ∧ bt a i ≤ 90) (hv : u = true ↔ bt b i ≥ 65 ∧ bt b i ≤ 90) :
    gjson_stringLessInsensitive.j3 (k + 1) a b i u = step k a b i := by
  have r1 := bt_range a i
  rw [gjson_stringLessInsensitive.j3.eq_def]; simp only
  unfold step
  rw [fold_up hu.1 hu.2]
  cases u with
  | true =>
    have hv' := hv.1 rfl
    rw [if_pos rfl, if_pos h0, if_pos ha, if_pos hb, fold_up hv'.1 hv'.2]
    try exact three_ifs (by omega) (by omega)
  | false =>
    have hv' : ¬ (bt b i ≥ 65 ∧ bt b i ≤ 90) := fun h => by cases hv.2 h
    rw [if_neg (by simp), if_pos h0, if_pos ha, if_pos hb, fold_no hv']
    try exact three_ifs (by omega) (by omega)
theorem j4_is (k : Nat) (a b : ByteArray) (i : Int) (u : Bool) (h0 : 0 ≤ i) (ha : i < a.size) (hb : i < b.size) (hu : ¬ (bt a i ≥ 65 ∧ bt a i ≤ 90)) (hv : u = true ↔ bt b i ≥ 65 ∧ bt b i ≤ 90) :
    gjson_stringLessInsensitive.j4 (k + 1) a b i u = step k a b i := by
  have r1 := bt_range b i
  rw [gjson_stringLessInsensitive.j4.eq_def]; simp only
  unfold step
  rw [fold_no hu]
  cases u with
  | true =>
    have hv' := hv.1 rfl
    rw [if_pos rfl, if_pos h0, if_pos ha, if_pos hb, fold_up hv'.1 hv'.2]
    try exact three_ifs (by omega) (by omega)
  | false =>
    have hv' : ¬ (bt b i ≥ 65 ∧ bt b i ≤ 90) := fun h => by cases hv.2 h
    rw [if_neg (by simp), if_pos h0, if_pos ha, if_pos hb, fold_no hv']
    try exact three_ifs (by omega) (by omega)
theorem j2_is (k : Nat) (a b : ByteArray) (i : Int) (u : Bool) (h0 : 0 ≤ i) (ha : i < a.size) (hb : i < b.size) (hu : u = true ↔ bt a i ≥ 65 ∧ bt a i ≤ 90) :
    gjson_stringLessInsensitive.j2 (k + 2) a b i u = step k a b i := by
  rw [gjson_stringLessInsensitive.j2.eq_def]; simp only
  cases u with
  | true =>
    have hu' := hu.1 rfl
    rw [if_pos rfl, if_pos h0, if_pos hb]
    by_cases c : bt b i ≥ 65
    · rw [if_pos c]; exact j3_is k a b i _ h0 ha hb hu' ⟨fun h => ⟨c, by simpa using h⟩, fun h => by simpa using h.2⟩
    · rw [if_neg c]; exact j3_is k a b i _ h0 ha hb hu' ⟨(fun h => by cases h), fun h => absurd h.1 c⟩
  | false =>
    have hu' : ¬ (bt a i ≥ 65 ∧ bt a i ≤ 90) := fun h => by cases hu.2 h
    rw [if_neg (by simp), if_pos h0, if_pos hb]
    by_cases c : bt b i ≥ 65
    · rw [if_pos c]; exact j4_is k a b i _ h0 ha hb hu' ⟨fun h => ⟨c, by simpa using h⟩, fun h => by simpa using h.2⟩
    · rw [if_neg c]; exact j4_is k a b i _ h0 ha hb hu' ⟨(fun h => by cases h), fun h => absurd h.1 c⟩
theorem round_is (k : Nat) (a b : ByteArray) (i : Int) (h0 : 0 ≤ i) (ha : i < a.size) (hb : i < b.size) :
    gjson_stringLessInsensitive.l0 (k + 4) a b i = step k a b i := by
  rw [gjson_stringLessInsensitive.l0.eq_def]; simp only
  rw [if_pos ha, decide_eq_true hb, gjson_stringLessInsensitive.j1.eq_def]; simp only
  rw [if_pos trivial, if_pos h0, if_pos ha]
  by_cases c : bt a i ≥ 65
  · rw [if_pos c]; exact j2_is k a b i _ h0 ha hb ⟨fun h => ⟨c, by simpa using h⟩, fun h => by simpa using h.2⟩
  · rw [if_neg c]; exact j2_is k a b i _ h0 ha hb ⟨(fun h => by cases h), fun h => absurd h.1 c⟩
theorem end_is (k : Nat) (a b : ByteArray) (i : Int) (h : ¬ (i < a.size ∧ i < b.size)) :
    gjson_stringLessInsensitive.l0 (k + 2) a b i = some (decide ((a.size : Int) < b.size)) := by
  rw [gjson_stringLessInsensitive.l0.eq_def]; simp only
  by_cases ha : i < (a.size : Int)
  · rw [if_pos ha, decide_eq_false (by omega), gjson_stringLessInsensitive.j1.eq_def]; rfl
  · rw [if_neg ha, gjson_stringLessInsensitive.j1.eq_def]; rfl
theorem small_length (s : ByteArray) : (small s).length = s.size := by simp [small, bytesOf_length]
theorem small_drop (s : ByteArray) (i : Nat) (h : i < s.size) : (small s).drop i = fold (bt s i) :: (small s).drop (i + 1) := by
  rw [List.drop_eq_getElem_cons (by rw [small_length]; exact h)]
  congr 1
  have := bytesOf_get? s i h
  rw [List.getElem?_eq_getElem (by rw [bytesOf_length]; exact h)] at this
  simp only [small, List.getElem_map]
  rw [Option.some.inj this]
theorem ins_from (a b : ByteArray) (ha : a.size ≤ 140737488351232) (d : Nat) : ∀ (k i : Nat), i ≤ a.size → i ≤ b.size → a.size - i = d → 4 * d + 4 ≤ k →
    gjson_stringLessInsensitive.l0 k a b i = some (lex ((small a).drop i) ((small b).drop i)) := by
  induction d with
  | zero =>
    intro k i h1 h2 hd hk
    obtain ⟨k, rfl⟩ : ∃ m, k = m + 2 := ⟨k - 2, by omega⟩
    rw [end_is k a b i (by omega), show (small a).drop i = [] from List.drop_eq_nil_of_le (by rw [small_length]; omega)]
    congr 1
    by_cases e : i < b.size
    · rw [small_drop b i e, decide_eq_true (by omega)]; rfl
    · rw [List.drop_eq_nil_of_le (by rw [small_length]; omega), decide_eq_false (by omega)]; rfl
  | succ d ih =>
    intro k i h1 h2 hd hk
    obtain ⟨k, rfl⟩ : ∃ m, k = m + 4 := ⟨k - 4, by omega⟩
    by_cases e : i < b.size
    · rw [round_is k a b i (by omega) (by omega) (by omega), small_drop a i (by omega), small_drop b i e]
      unfold step
      simp only [lex]
      by_cases c1 : fold (bt a i) < fold (bt b i)
      · rw [if_pos c1]; simp [c1]
      · rw [if_neg c1]
        by_cases c2 : fold (bt b i) < fold (bt a i)
        · rw [if_pos c2]
          have : (fold (bt a i) == fold (bt b i)) = false := beq_eq_false_iff_ne.mpr (by omega)
          simp [c1, this]
        · rw [if_neg c2]
          have e1 : wrap64 ((i : Int) + 1) = ((i + 1 : Nat) : Int) := by unfold wrap64; omega
          have : fold (bt a i) = fold (bt b i) := by omega
          rw [e1, ih k (i + 1) (by omega) (by omega) (by omega) (by omega)]
          simp [this]
    · rw [end_is (k + 2) a b i (by omega), small_drop a i (by omega), show (small b).drop i = [] from List.drop_eq_nil_of_le (by rw [small_length]; omega), decide_eq_false (by omega)]
      rfl
theorem ins_is (a b : ByteArray) (ha : a.size ≤ 140737488351232) : gjson_stringLessInsensitive.f (4 * a.size + 4) a b = some (lex (small a) (small b)) := by
  have := ins_from a b ha a.size (4 * a.size + 4) 0 (by omega) (by omega) (by omega) (by omega)
  simpa [gjson_stringLessInsensitive.f] using this
theorem ins_any (a b : ByteArray) (w : World) (ha : a.size ≤ 140737488351232) :
    Calls Try.prog 30 #[.string a, .string b] w fun e w' => e = .returned (.bool (lex (small a) (small b))) ∧ Drawn0 w w' :=
  gjson_stringLessInsensitive.calls _ a b _ w (ins_is a b ha)
end

set_option maxHeartbeats 1000000 in
theorem gjOf_any (k : Int) (raw str : ByteArray) (num : Nat) (ex : Bool) (w : World) :
    Calls Try.prog 22 #[.agg #[.int .i64 k, .string raw, .string str, .float .f64 num, .bool ex]] w fun e w' => e = .returned (.agg #[.int .i64 k, .string raw, .string str, .float .f64 num, .int .i64 0, .slice none 0 0]) ∧ Below w.heap.size w w' := by
  go_enter Try.func22, Try.ntmps22
  go_wp2
  exact bodyPost_ret (v := .agg #[.int .i64 k, .string raw, .string str, .float .f64 num, .int .i64 0, .slice none 0 0]) (by simp [results, Try.results22, go_sem]) rfl ⟨rfl, ((Below.refl _ _).alloc (Nat.le_refl _) _).alloc (by simp) _⟩

def lessV (cased : Bool) (k : Int) (raw str : ByteArray) (num : Nat) (k' : Int) (raw' str' : ByteArray) (num' : Nat) : Bool := lessR cased ⟨k, raw, str, num⟩ ⟨k', raw', str', num'⟩
set_option maxHeartbeats 1000000 in
theorem less_any (k : Int) (raw str : ByteArray) (num : Nat) (k' : Int) (raw' str' : ByteArray) (num' : Nat) (cased : Bool) (w : World) (hs : str.size ≤ 140737488351232) :
    Calls Try.prog 23 #[.agg #[.int .i64 k, .string raw, .string str, .float .f64 num, .int .i64 0, .slice none 0 0], .agg #[.int .i64 k', .string raw', .string str', .float .f64 num', .int .i64 0, .slice none 0 0], .bool cased] w fun e w' => e = .returned (.bool (lessV cased k raw str num k' raw' str' num')) ∧ Below w.heap.size w w' := by
  go_enter Try.func23, Try.ntmps23
  go_wp2_with (go_at_call 30; refine (ins_any _ _ _ hs).mono ?_; rintro e w' ⟨rfl, ⟨nd, rfl⟩⟩)
  · go_ret
    exact ⟨ret_bool (by simp [lessV, lessR]; omega), ((Below.refl _ _).alloc (Nat.le_refl _) _).alloc (by simp) _⟩
  · go_ret
    exact ⟨ret_bool (by simp [lessV, lessR]; omega), ((Below.refl _ _).alloc (Nat.le_refl _) _).alloc (by simp) _⟩
  · have h3 : (k == 3) = true := by assumption
    have h4 : cased = true := by assumption
    have e3 : k = 3 := by simpa using h3
    have e4 : k' = 3 := by omega
    subst e3 e4
    have e5 : cased = true := by simpa using h4
    subst e5
    go_ret
    exact ⟨ret_bool (by simp [lessV, lessR]), ((Below.refl _ _).alloc (Nat.le_refl _) _).alloc (by simp) _⟩
  · have h3 : (k == 3) = true := by assumption
    have h4 : cased = false := by assumption
    have e3 : k = 3 := by simpa using h3
    have e4 : k' = 3 := by omega
    subst e3 e4
    have e5 : cased = false := by simpa using h4
    subst e5
    go_ret
    exact ⟨ret_bool (by simp [lessV, lessR]), pw_below_drewN (((Below.refl _ _).alloc (Nat.le_refl _) _).alloc (by simp) _) _⟩
  · have h4 : (k == 2) = true := by assumption
    have e3 : k = 2 := by simpa using h4
    have e4 : k' = 2 := by omega
    subst e3 e4
    go_ret
    exact ⟨ret_bool (by simp [lessV, lessR]), ((Below.refl _ _).alloc (Nat.le_refl _) _).alloc (by simp) _⟩
  · have h3 : (k == 3) = false := by assumption
    have h4 : (k == 2) = false := by assumption
    have e3 : k ≠ 3 := by simpa using h3
    have e4 : k ≠ 2 := by simpa using h4
    obtain rfl : k = k' := by omega
    go_ret
    exact ⟨ret_bool (by simp [lessV, lessR, e3, e4]), ((Below.refl _ _).alloc (Nat.le_refl _) _).alloc (by simp) _⟩

section
variable {P : Program} {ops : Array Oper} {C : World → Prop} {a : Act} {o : Oper} {K : Act → Prop}
theorem quiet_val (v : Value) (h : ∀ W, C W → (execOp a.eval o).run P W = .ok (.value v) W) (hk : K (a.put o.dst v)) : o.quiet P a C K :=
  ⟨v, fun W hW => by unfold Oper.quietAt; rw [h W hW]; exact ⟨rfl, rfl⟩, hk⟩
theorem quiet_call (f : FuncId) (args : Array Value) (v : Value) (he : ∀ W, C W → (execOp a.eval o).run P W = .ok (.enter f args) W) (h : ∀ W, C W → Calls P f args W fun e w'' => e = .returned v ∧ C w'') (hk : K (a.put o.dst v)) : o.quiet P a C K :=
  ⟨v, fun W hW => by unfold Oper.quietAt; rw [he W hW]; exact ⟨rfl, h W hW⟩, hk⟩
end
theorem fits_any (k : Int) (raw str : ByteArray) (num : Nat) (ex : Bool) (w : World) :
    Calls Try.prog 14 #[.agg #[.int .i64 k, .string raw, .string str, .float .f64 num, .bool ex]] w fun e w' => e = .returned (.bool (decide ((raw.size : Int) ≤ 2147483647) && decide ((str.size : Int) ≤ 2147483647))) ∧ Below w.heap.size w w' := by
  by_cases h1 : (2147483647 : Int) < raw.size
  · go_enter Try.func14, Try.ntmps14
    go_wp2
    go_ret
    exact ⟨ret_bool (by simp <;> omega), (Below.refl _ _).alloc (Nat.le_refl _) _⟩
  by_cases h2 : (2147483647 : Int) < str.size
  · go_enter Try.func14, Try.ntmps14
    go_wp2
    go_ret
    exact ⟨ret_bool (by simp <;> omega), (Below.refl _ _).alloc (Nat.le_refl _) _⟩
  · go_enter Try.func14, Try.ntmps14
    go_wp2
    go_ret
    exact ⟨ret_bool (by simp <;> omega), (Below.refl _ _).alloc (Nat.le_refl _) _⟩

/-- The two boxes stand as they were made; what was there before, too. -/
structure InC (w : World) (k : Int) (raw str : ByteArray) (num : Nat) (ex : Bool) (k' : Int) (raw' str' : ByteArray) (num' : Nat) (ex' : Bool) (W : World) : Prop where mk ::
  (out : Below (w.heap.size + 2) ((w.alloc (.cells #[.int .i64 k, .string raw, .string str, .float .f64 num, .bool ex] 36)).alloc (.cells #[.int .i64 k', .string raw', .string str', .float .f64 num', .bool ex'] 36)) W)
theorem cells0 {w : World} {k : Int} {raw str : ByteArray} {num : Nat} {ex : Bool} {k' : Int} {raw' str' : ByteArray} {num' : Nat} {ex' : Bool} {W : World} (h : InC w k raw str num ex k' raw' str' num' ex' W) :
    (W.cell? ⟨w.heap.size, 0, none⟩ = some (.int .i64 k) ∧ W.cell? ⟨w.heap.size, 1, none⟩ = some (.string raw) ∧ W.cell? ⟨w.heap.size, 2, none⟩ = some (.string str) ∧ W.cell? ⟨w.heap.size, 3, none⟩ = some (.float .f64 num) ∧ W.cell? ⟨w.heap.size, 4, none⟩ = some (.bool ex)) ∧
    (W.cell? ⟨w.heap.size + 1, 0, none⟩ = some (.int .i64 k') ∧ W.cell? ⟨w.heap.size + 1, 1, none⟩ = some (.string raw') ∧ W.cell? ⟨w.heap.size + 1, 2, none⟩ = some (.string str') ∧ W.cell? ⟨w.heap.size + 1, 3, none⟩ = some (.float .f64 num') ∧ W.cell? ⟨w.heap.size + 1, 4, none⟩ = some (.bool ex')) := by
  have hb := h.out
  refine ⟨⟨?_, ?_, ?_, ?_, ?_⟩, ?_, ?_, ?_, ?_, ?_⟩ <;> (rw [hb.cell (by simp)]; go_simp)
theorem InC.then {w : World} {k : Int} {raw str : ByteArray} {num : Nat} {ex : Bool} {k' : Int} {raw' str' : ByteArray} {num' : Nat} {ex' : Bool} {W W' : World} (h : InC w k raw str num ex k' raw' str' num' ex' W) (hb : Below W.heap.size W W') : InC w k raw str num ex k' raw' str' num' ex' W' :=
  ⟨below_then h.out (by have := h.out.size; simpa using this) hb⟩
theorem InC.below {w : World} {k : Int} {raw str : ByteArray} {num : Nat} {ex : Bool} {k' : Int} {raw' str' : ByteArray} {num' : Nat} {ex' : Bool} {W : World} (h : InC w k raw str num ex k' raw' str' num' ex' W) : Below w.heap.size w W :=
  ((((Below.refl _ _).alloc (Nat.le_refl _) _).alloc (by simp) _).trans (h.out.mono (by omega)))
set_option maxHeartbeats 1000000 in
theorem grl_any (k : Int) (raw str : ByteArray) (num : Nat) (ex : Bool) (k' : Int) (raw' str' : ByteArray) (num' : Nat) (ex' : Bool) (cased : Bool) (w : World) (hs : str.size ≤ 140737488351232) :
    Calls Try.prog 15 #[.agg #[.int .i64 k, .string raw, .string str, .float .f64 num, .bool ex], .agg #[.int .i64 k', .string raw', .string str', .float .f64 num', .bool ex'], .bool cased] w fun e w' => e = .returned (.bool (lessV cased k raw str num k' raw' str' num')) ∧ Below w.heap.size w w' := by
  go_enter Try.func15, Try.ntmps15
  go_wp2
  refine wp_region_quiet (C := InC w k raw str num ex k' raw' str' num' ex') (by kernel_rfl) (by kernel_rfl) ?_ ?_
  · exact ⟨below_drew (Below.refl _ _)⟩
  refine wpQuiet_step (fun K hK => ?_)
  rw [if_pos (by rfl)]
  refine quiet_val (.agg #[.int .i64 k, .string raw, .string str, .float .f64 num, .bool ex]) ?_ (hK _ ?_)
  · intro W hW
    obtain ⟨c0, c1, c2, c3, c4⟩ := (cells0 hW).1
    clear hK
    go_simp
  simp only [Act.put, List.setIfInBounds_toArray, List.set_cons_zero, List.set_cons_succ]
  clear hK K
  refine wpQuiet_step (fun K hK => ?_)
  rw [if_pos (by rfl)]
  refine quiet_call 22 #[.agg #[.int .i64 k, .string raw, .string str, .float .f64 num, .bool ex]] (.agg #[.int .i64 k, .string raw, .string str, .float .f64 num, .int .i64 0, .slice none 0 0]) ?_ ?_ (hK _ ?_)
  · intro W hW
    clear hK
    go_simp
  · intro W hW
    refine (gjOf_any k raw str num ex W).mono ?_
    rintro e w'' ⟨rfl, hb⟩
    exact ⟨rfl, hW.then hb⟩
  simp only [Act.put, List.setIfInBounds_toArray, List.set_cons_zero, List.set_cons_succ]
  clear hK K
  refine wpQuiet_step (fun K hK => ?_)
  rw [if_pos (by rfl)]
  refine quiet_val (.agg #[.int .i64 k', .string raw', .string str', .float .f64 num', .bool ex']) ?_ (hK _ ?_)
  · intro W hW
    obtain ⟨c0, c1, c2, c3, c4⟩ := (cells0 hW).2
    clear hK
    go_simp
  simp only [Act.put, List.setIfInBounds_toArray, List.set_cons_zero, List.set_cons_succ]
  clear hK K
  refine wpQuiet_step (fun K hK => ?_)
  rw [if_pos (by rfl)]
  refine quiet_call 22 #[.agg #[.int .i64 k', .string raw', .string str', .float .f64 num', .bool ex']] (.agg #[.int .i64 k', .string raw', .string str', .float .f64 num', .int .i64 0, .slice none 0 0]) ?_ ?_ (hK _ ?_)
  · intro W hW
    clear hK
    go_simp
  · intro W hW
    refine (gjOf_any k' raw' str' num' ex' W).mono ?_
    rintro e w'' ⟨rfl, hb⟩
    exact ⟨rfl, hW.then hb⟩
  simp only [Act.put, List.setIfInBounds_toArray, List.set_cons_zero, List.set_cons_succ]
  clear hK K
  refine wpQuiet_step (fun K hK => ?_)
  rw [if_pos (by rfl)]
  refine quiet_val (.bool cased) ?_ (hK _ ?_)
  · intro W hW
    clear hK
    go_simp
  simp only [Act.put, List.setIfInBounds_toArray, List.set_cons_zero, List.set_cons_succ]
  clear hK K
  refine wpQuiet_step (fun K hK => ?_)
  rw [if_pos (by rfl)]
  refine quiet_call 23 #[.agg #[.int .i64 k, .string raw, .string str, .float .f64 num, .int .i64 0, .slice none 0 0], .agg #[.int .i64 k', .string raw', .string str', .float .f64 num', .int .i64 0, .slice none 0 0], .bool cased] (.bool (lessV cased k raw str num k' raw' str' num')) ?_ ?_ (hK _ ?_)
  · intro W hW
    clear hK
    go_simp
  · intro W hW
    refine (less_any k raw str num k' raw' str' num' cased W hs).mono ?_
    rintro e w'' ⟨rfl, hb⟩
    exact ⟨rfl, hW.then hb⟩
  simp only [Act.put, List.setIfInBounds_toArray, List.set_cons_zero, List.set_cons_succ]
  clear hK K
  refine wpQuiet_step (fun K hK => ?_)
  rw [if_pos (by rfl)]
  refine quiet_val (.bool (lessV cased k raw str num k' raw' str' num')) ?_ (hK _ ?_)
  · intro W hW
    clear hK
    go_simp
  simp only [Act.put, List.setIfInBounds_toArray, List.set_cons_zero, List.set_cons_succ]
  clear hK K
  refine wpQuiet_nil ?_
  intro W hW
  go_wp2
  go_ret
  exact ⟨rfl, hW.below⟩

theorem fits_ex (k : Int) (raw str : ByteArray) (num : Nat) (ex : Bool) : ∃ f : Bool, ∀ w : World, Calls Try.prog 14 #[.agg #[.int .i64 k, .string raw, .string str, .float .f64 num, .bool ex]] w fun e w' => e = .returned (.bool f) ∧ Below w.heap.size w w' :=
  ⟨_, fun w => fits_any k raw str num ex w⟩

structure X where
  k : Int
  raw : ByteArray
  str : ByteArray
  num : Nat
  ex : Bool
def X.v (x : X) : Value := .agg #[.int .i64 x.k, .string x.raw, .string x.str, .float .f64 x.num, .bool x.ex]
def X.box (x : X) : Obj := .cells #[.int .i64 x.k, .string x.raw, .string x.str, .float .f64 x.num, .bool x.ex] 36
/-- Three boxes stand as they were made; what was there before, too. -/
structure In3 (w : World) (a b c : X) (W : World) : Prop where mk ::
  (out : Below (w.heap.size + 3) (((w.alloc a.box).alloc b.box).alloc c.box) W)
def Cells (W : World) (n : Nat) (x : X) : Prop := W.cell? ⟨n, 0, none⟩ = some (.int .i64 x.k) ∧ W.cell? ⟨n, 1, none⟩ = some (.string x.raw) ∧ W.cell? ⟨n, 2, none⟩ = some (.string x.str) ∧ W.cell? ⟨n, 3, none⟩ = some (.float .f64 x.num) ∧ W.cell? ⟨n, 4, none⟩ = some (.bool x.ex)
theorem In3.cells {w : World} {a b c : X} {W : World} (h : In3 w a b c W) : Cells W w.heap.size a ∧ Cells W (w.heap.size + 1) b ∧ Cells W (w.heap.size + 2) c := by
  have hb := h.out
  unfold Cells X.box at *
  refine ⟨⟨?_, ?_, ?_, ?_, ?_⟩, ⟨?_, ?_, ?_, ?_, ?_⟩, ?_, ?_, ?_, ?_, ?_⟩ <;> (rw [hb.cell (by simp)]; go_simp)
theorem In3.cells' {w : World} {k0 : Int} {raw0 str0 : ByteArray} {num0 : Nat} {ex0 : Bool} {k1 : Int} {raw1 str1 : ByteArray} {num1 : Nat} {ex1 : Bool} {k2 : Int} {raw2 str2 : ByteArray} {num2 : Nat} {ex2 : Bool} {W : World}
    (h : In3 w ⟨k0, raw0, str0, num0, ex0⟩ ⟨k1, raw1, str1, num1, ex1⟩ ⟨k2, raw2, str2, num2, ex2⟩ W) :
    (W.cell? ⟨w.heap.size, 0, none⟩ = some (.int .i64 k0) ∧ W.cell? ⟨w.heap.size, 1, none⟩ = some (.string raw0) ∧ W.cell? ⟨w.heap.size, 2, none⟩ = some (.string str0) ∧ W.cell? ⟨w.heap.size, 3, none⟩ = some (.float .f64 num0) ∧ W.cell? ⟨w.heap.size, 4, none⟩ = some (.bool ex0)) ∧
    (W.cell? ⟨w.heap.size + 1, 0, none⟩ = some (.int .i64 k1) ∧ W.cell? ⟨w.heap.size + 1, 1, none⟩ = some (.string raw1) ∧ W.cell? ⟨w.heap.size + 1, 2, none⟩ = some (.string str1) ∧ W.cell? ⟨w.heap.size + 1, 3, none⟩ = some (.float .f64 num1) ∧ W.cell? ⟨w.heap.size + 1, 4, none⟩ = some (.bool ex1)) ∧
    (W.cell? ⟨w.heap.size + 2, 0, none⟩ = some (.int .i64 k2) ∧ W.cell? ⟨w.heap.size + 2, 1, none⟩ = some (.string raw2) ∧ W.cell? ⟨w.heap.size + 2, 2, none⟩ = some (.string str2) ∧ W.cell? ⟨w.heap.size + 2, 3, none⟩ = some (.float .f64 num2) ∧ W.cell? ⟨w.heap.size + 2, 4, none⟩ = some (.bool ex2)) := h.cells
theorem In3.then {w : World} {a b c : X} {W W' : World} (h : In3 w a b c W) (hb : Below W.heap.size W W') : In3 w a b c W' := ⟨below_then h.out (by have := h.out.size; simpa using this) hb⟩
theorem In3.below {w : World} {a b c : X} {W : World} (h : In3 w a b c W) : Below w.heap.size w W :=
  (((((Below.refl _ _).alloc (Nat.le_refl _) _).alloc (by simp) _).alloc (by simp; omega) _).trans (h.out.mono (by omega)))
theorem In3.start (w : World) (a b c : X) : In3 w a b c (((w.alloc a.box).alloc b.box).alloc c.box) := ⟨Below.refl _ _⟩

set_option maxRecDepth 100000 in
set_option maxHeartbeats 1000000 in
theorem law_any (k0 : Int) (raw0 str0 : ByteArray) (num0 : Nat) (ex0 : Bool) (k1 : Int) (raw1 str1 : ByteArray) (num1 : Nat) (ex1 : Bool) (k2 : Int) (raw2 str2 : ByteArray) (num2 : Nat) (ex2 : Bool) (cased : Bool) (w : World)
    (h0 : str0.size ≤ 140737488351232) (h1 : str1.size ≤ 140737488351232) (h2 : str2.size ≤ 140737488351232) :
    Calls Try.prog 6 #[.agg #[.int .i64 k0, .string raw0, .string str0, .float .f64 num0, .bool ex0], .agg #[.int .i64 k1, .string raw1, .string str1, .float .f64 num1, .bool ex1], .agg #[.int .i64 k2, .string raw2, .string str2, .float .f64 num2, .bool ex2], .bool cased] w fun e w' => e = .returned (.bool true) ∧ Below w.heap.size w w' := by
  obtain ⟨f0, F0⟩ := fits_ex k0 raw0 str0 num0 ex0
  obtain ⟨f1, F1⟩ := fits_ex k1 raw1 str1 num1 ex1
  obtain ⟨f2, F2⟩ := fits_ex k2 raw2 str2 num2 ex2
  replace F0 := Lib.hid F0
  replace F1 := Lib.hid F1
  replace F2 := Lib.hid F2
  go_enter Try.func6, Try.ntmps6
  go_wp2_with fail
  have hW := In3.start w ⟨k0, raw0, str0, num0, ex0⟩ ⟨k1, raw1, str1, num1, ex1⟩ ⟨k2, raw2, str2, num2, ex2⟩
  simp only [X.box] at hW
  generalize (((w.alloc _).alloc _).alloc _ : World) = W at hW ⊢
  refine (F0.out _).mono ?_
  rintro e W' ⟨rfl, hb⟩
  replace hW := hW.then hb
  clear hb
  try clear a0 a1 a2 a3 a4 b0 b1 b2 b3 b4 c0 c1 c2 c3 c4
  obtain ⟨⟨a0, a1, a2, a3, a4⟩, ⟨b0, b1, b2, b3, b4⟩, c0, c1, c2, c3, c4⟩ := hW.cells'
  cases f0 with
  | false =>
    go_wp2
    go_ret
    exact ⟨rfl, hW.below⟩
  | true =>
    go_wp2_with fail
    refine (F1.out _).mono ?_
    rintro e W' ⟨rfl, hb⟩
    replace hW := hW.then hb
    clear hb
    try clear a0 a1 a2 a3 a4 b0 b1 b2 b3 b4 c0 c1 c2 c3 c4
    obtain ⟨⟨a0, a1, a2, a3, a4⟩, ⟨b0, b1, b2, b3, b4⟩, c0, c1, c2, c3, c4⟩ := hW.cells'
    cases f1 with
    | false =>
      go_wp2
      go_ret
      exact ⟨rfl, hW.below⟩
    | true =>
      go_wp2_with fail
      refine (F2.out _).mono ?_
      rintro e W' ⟨rfl, hb⟩
      replace hW := hW.then hb
      clear hb
      try clear a0 a1 a2 a3 a4 b0 b1 b2 b3 b4 c0 c1 c2 c3 c4
      obtain ⟨⟨a0, a1, a2, a3, a4⟩, ⟨b0, b1, b2, b3, b4⟩, c0, c1, c2, c3, c4⟩ := hW.cells'
      cases f2 with
      | false =>
        go_wp2
        go_ret
        exact ⟨rfl, hW.below⟩
      | true =>
        by_cases n0 : (FloatKind.f64.format.order num0 num0 == some .eq) = true
        case neg =>
          have m0 : (FloatKind.f64.format.order num0 num0 == some .eq) = false := by simpa using n0
          have p0 : (FloatKind.f64.format.order num0 num0 != some .eq) = true := by simp only [bne, m0]; rfl
          clear n0
          go_wp2
          go_ret
          exact ⟨rfl, hW.below⟩
        have p0 : (FloatKind.f64.format.order num0 num0 != some .eq) = false := by simp only [bne, n0]; rfl
        by_cases n1 : (FloatKind.f64.format.order num1 num1 == some .eq) = true
        case neg =>
          have m1 : (FloatKind.f64.format.order num1 num1 == some .eq) = false := by simpa using n1
          have p1 : (FloatKind.f64.format.order num1 num1 != some .eq) = true := by simp only [bne, m1]; rfl
          clear n1
          go_wp2
          go_ret
          exact ⟨rfl, hW.below⟩
        have p1 : (FloatKind.f64.format.order num1 num1 != some .eq) = false := by simp only [bne, n1]; rfl
        by_cases n2 : (FloatKind.f64.format.order num2 num2 == some .eq) = true
        case neg =>
          have m2 : (FloatKind.f64.format.order num2 num2 == some .eq) = false := by simpa using n2
          have p2 : (FloatKind.f64.format.order num2 num2 != some .eq) = true := by simp only [bne, m2]; rfl
          clear n2
          go_wp2
          go_ret
          exact ⟨rfl, hW.below⟩
        have p2 : (FloatKind.f64.format.order num2 num2 != some .eq) = false := by simp only [bne, n2]; rfl
        have HN := Lib.hid (show lessV cased 0 { data := #[] } { data := #[] } 0 1 { data := #[] } { data := #[] } 0 = true by simp [lessV, lessR])
        go_wp2_with fail
        refine (grl_any 0 _ _ 0 false 1 _ _ 0 false cased _ (by decide)).mono ?_
        rw [show lessV cased 0 _ _ 0 1 _ _ 0 = true from HN.out]
        rintro e W' ⟨rfl, hb⟩
        replace hW := hW.then hb
        clear hb
        try clear a0 a1 a2 a3 a4 b0 b1 b2 b3 b4 c0 c1 c2 c3 c4
        obtain ⟨⟨a0, a1, a2, a3, a4⟩, ⟨b0, b1, b2, b3, b4⟩, c0, c1, c2, c3, c4⟩ := hW.cells'
        have FACT := Lib.hid (three cased ⟨k0, raw0, str0, num0⟩ ⟨k1, raw1, str1, num1⟩ ⟨k2, raw2, str2, num2⟩ ((nonNaN_eq _).1 n0) ((nonNaN_eq _).1 n1) ((nonNaN_eq _).1 n2))
        have H01 := Lib.hid (fun W => grl_any k0 raw0 str0 num0 ex0 k1 raw1 str1 num1 ex1 cased W h0)
        have H10 := Lib.hid (fun W => grl_any k1 raw1 str1 num1 ex1 k0 raw0 str0 num0 ex0 cased W h1)
        have H12 := Lib.hid (fun W => grl_any k1 raw1 str1 num1 ex1 k2 raw2 str2 num2 ex2 cased W h1)
        have H02 := Lib.hid (fun W => grl_any k0 raw0 str0 num0 ex0 k2 raw2 str2 num2 ex2 cased W h0)
        have H00 := Lib.hid (fun W => grl_any k0 raw0 str0 num0 ex0 k0 raw0 str0 num0 ex0 cased W h0)
        have H20 := Lib.hid (fun W => grl_any k2 raw2 str2 num2 ex2 k0 raw0 str0 num0 ex0 cased W h2)
        have H21 := Lib.hid (fun W => grl_any k2 raw2 str2 num2 ex2 k1 raw1 str1 num1 ex1 cased W h2)
        change Hid (∀ W, Calls Try.prog 15 _ W fun e w' => e = .returned (.bool (lessR cased ⟨k0, raw0, str0, num0⟩ ⟨k1, raw1, str1, num1⟩)) ∧ Below W.heap.size W w') at H01
        change Hid (∀ W, Calls Try.prog 15 _ W fun e w' => e = .returned (.bool (lessR cased ⟨k1, raw1, str1, num1⟩ ⟨k0, raw0, str0, num0⟩)) ∧ Below W.heap.size W w') at H10
        change Hid (∀ W, Calls Try.prog 15 _ W fun e w' => e = .returned (.bool (lessR cased ⟨k1, raw1, str1, num1⟩ ⟨k2, raw2, str2, num2⟩)) ∧ Below W.heap.size W w') at H12
        change Hid (∀ W, Calls Try.prog 15 _ W fun e w' => e = .returned (.bool (lessR cased ⟨k0, raw0, str0, num0⟩ ⟨k2, raw2, str2, num2⟩)) ∧ Below W.heap.size W w') at H02
        change Hid (∀ W, Calls Try.prog 15 _ W fun e w' => e = .returned (.bool (lessR cased ⟨k0, raw0, str0, num0⟩ ⟨k0, raw0, str0, num0⟩)) ∧ Below W.heap.size W w') at H00
        change Hid (∀ W, Calls Try.prog 15 _ W fun e w' => e = .returned (.bool (lessR cased ⟨k2, raw2, str2, num2⟩ ⟨k0, raw0, str0, num0⟩)) ∧ Below W.heap.size W w') at H20
        change Hid (∀ W, Calls Try.prog 15 _ W fun e w' => e = .returned (.bool (lessR cased ⟨k2, raw2, str2, num2⟩ ⟨k1, raw1, str1, num1⟩)) ∧ Below W.heap.size W w') at H21
        generalize lessR cased ⟨k0, raw0, str0, num0⟩ ⟨k1, raw1, str1, num1⟩ = l01 at FACT H01
        generalize lessR cased ⟨k1, raw1, str1, num1⟩ ⟨k0, raw0, str0, num0⟩ = l10 at FACT H10
        generalize lessR cased ⟨k1, raw1, str1, num1⟩ ⟨k2, raw2, str2, num2⟩ = l12 at FACT H12
        generalize lessR cased ⟨k0, raw0, str0, num0⟩ ⟨k2, raw2, str2, num2⟩ = l02 at FACT H02
        generalize lessR cased ⟨k0, raw0, str0, num0⟩ ⟨k0, raw0, str0, num0⟩ = l00 at FACT H00
        generalize lessR cased ⟨k2, raw2, str2, num2⟩ ⟨k0, raw0, str0, num0⟩ = l20 at FACT H20
        generalize lessR cased ⟨k2, raw2, str2, num2⟩ ⟨k1, raw1, str1, num1⟩ = l21 at FACT H21
        clear n0 n1 n2 p0 p1 p2 h0 h1 h2 HN F0 F1 F2
        go_wp2
        refine wp_region_quiet (C := In3 w ⟨k0, raw0, str0, num0, ex0⟩ ⟨k1, raw1, str1, num1, ex1⟩ ⟨k2, raw2, str2, num2, ex2⟩) (by kernel_rfl) (by kernel_rfl) ?_ ?_
        · exact ⟨below_drew hW.out⟩
        clear hW a0 a1 a2 a3 a4 b0 b1 b2 b3 b4 c0 c1 c2 c3 c4
        refine wpQuiet_step (fun K hK => ?_)
        rw [if_pos (by rfl)]
        refine quiet_val (.agg #[.int .i64 k0, .string raw0, .string str0, .float .f64 num0, .bool ex0]) ?_ (hK _ ?_)
        · intro W hW
          obtain ⟨⟨a0, a1, a2, a3, a4⟩, ⟨b0, b1, b2, b3, b4⟩, c0, c1, c2, c3, c4⟩ := hW.cells'
          clear hK
          go_simp
        simp only [Act.put, List.setIfInBounds_toArray, List.set_cons_zero, List.set_cons_succ]
        clear hK K
        refine wpQuiet_step (fun K hK => ?_)
        rw [if_pos (by rfl)]
        refine quiet_val (.agg #[.int .i64 k1, .string raw1, .string str1, .float .f64 num1, .bool ex1]) ?_ (hK _ ?_)
        · intro W hW
          obtain ⟨⟨a0, a1, a2, a3, a4⟩, ⟨b0, b1, b2, b3, b4⟩, c0, c1, c2, c3, c4⟩ := hW.cells'
          clear hK
          go_simp
        simp only [Act.put, List.setIfInBounds_toArray, List.set_cons_zero, List.set_cons_succ]
        clear hK K
        refine wpQuiet_step (fun K hK => ?_)
        rw [if_pos (by rfl)]
        refine quiet_val (.bool cased) ?_ (hK _ ?_)
        · intro W hW
          clear hK
          go_simp
        simp only [Act.put, List.setIfInBounds_toArray, List.set_cons_zero, List.set_cons_succ]
        clear hK K
        refine wpQuiet_step (fun K hK => ?_)
        rw [if_pos (by rfl)]
        refine quiet_call 15 #[.agg #[.int .i64 k0, .string raw0, .string str0, .float .f64 num0, .bool ex0], .agg #[.int .i64 k1, .string raw1, .string str1, .float .f64 num1, .bool ex1], .bool cased] (.bool l01) ?_ ?_ (hK _ ?_)
        · intro W hW
          clear hK
          go_simp
        · intro W hW
          refine (H01.out W).mono ?_
          rintro e w'' ⟨rfl, hb⟩
          exact ⟨rfl, hW.then hb⟩
        simp only [Act.put, List.setIfInBounds_toArray, List.set_cons_zero, List.set_cons_succ]
        clear hK K
        refine wpQuiet_step (fun K hK => ?_)
        rw [if_pos (by rfl)]
        refine quiet_val (.agg #[.int .i64 k1, .string raw1, .string str1, .float .f64 num1, .bool ex1]) ?_ (hK _ ?_)
        · intro W hW
          obtain ⟨⟨a0, a1, a2, a3, a4⟩, ⟨b0, b1, b2, b3, b4⟩, c0, c1, c2, c3, c4⟩ := hW.cells'
          clear hK
          go_simp
        simp only [Act.put, List.setIfInBounds_toArray, List.set_cons_zero, List.set_cons_succ]
        clear hK K
        refine wpQuiet_step (fun K hK => ?_)
        rw [if_pos (by rfl)]
        refine quiet_val (.agg #[.int .i64 k0, .string raw0, .string str0, .float .f64 num0, .bool ex0]) ?_ (hK _ ?_)
        · intro W hW
          obtain ⟨⟨a0, a1, a2, a3, a4⟩, ⟨b0, b1, b2, b3, b4⟩, c0, c1, c2, c3, c4⟩ := hW.cells'
          clear hK
          go_simp
        simp only [Act.put, List.setIfInBounds_toArray, List.set_cons_zero, List.set_cons_succ]
        clear hK K
        refine wpQuiet_step (fun K hK => ?_)
        rw [if_pos (by rfl)]
        refine quiet_val (.bool cased) ?_ (hK _ ?_)
        · intro W hW
          clear hK
          go_simp
        simp only [Act.put, List.setIfInBounds_toArray, List.set_cons_zero, List.set_cons_succ]
        clear hK K
        refine wpQuiet_step (fun K hK => ?_)
        rw [if_pos (by rfl)]
        refine quiet_call 15 #[.agg #[.int .i64 k1, .string raw1, .string str1, .float .f64 num1, .bool ex1], .agg #[.int .i64 k0, .string raw0, .string str0, .float .f64 num0, .bool ex0], .bool cased] (.bool l10) ?_ ?_ (hK _ ?_)
        · intro W hW
          clear hK
          go_simp
        · intro W hW
          refine (H10.out W).mono ?_
          rintro e w'' ⟨rfl, hb⟩
          exact ⟨rfl, hW.then hb⟩
        simp only [Act.put, List.setIfInBounds_toArray, List.set_cons_zero, List.set_cons_succ]
        clear hK K
        refine wpQuiet_step (fun K hK => ?_)
        rw [if_pos (by rfl)]
        refine quiet_val (.agg #[.int .i64 k1, .string raw1, .string str1, .float .f64 num1, .bool ex1]) ?_ (hK _ ?_)
        · intro W hW
          obtain ⟨⟨a0, a1, a2, a3, a4⟩, ⟨b0, b1, b2, b3, b4⟩, c0, c1, c2, c3, c4⟩ := hW.cells'
          clear hK
          go_simp
        simp only [Act.put, List.setIfInBounds_toArray, List.set_cons_zero, List.set_cons_succ]
        clear hK K
        refine wpQuiet_step (fun K hK => ?_)
        rw [if_pos (by rfl)]
        refine quiet_val (.agg #[.int .i64 k2, .string raw2, .string str2, .float .f64 num2, .bool ex2]) ?_ (hK _ ?_)
        · intro W hW
          obtain ⟨⟨a0, a1, a2, a3, a4⟩, ⟨b0, b1, b2, b3, b4⟩, c0, c1, c2, c3, c4⟩ := hW.cells'
          clear hK
          go_simp
        simp only [Act.put, List.setIfInBounds_toArray, List.set_cons_zero, List.set_cons_succ]
        clear hK K
        refine wpQuiet_step (fun K hK => ?_)
        rw [if_pos (by rfl)]
        refine quiet_val (.bool cased) ?_ (hK _ ?_)
        · intro W hW
          clear hK
          go_simp
        simp only [Act.put, List.setIfInBounds_toArray, List.set_cons_zero, List.set_cons_succ]
        clear hK K
        refine wpQuiet_step (fun K hK => ?_)
        rw [if_pos (by rfl)]
        refine quiet_call 15 #[.agg #[.int .i64 k1, .string raw1, .string str1, .float .f64 num1, .bool ex1], .agg #[.int .i64 k2, .string raw2, .string str2, .float .f64 num2, .bool ex2], .bool cased] (.bool l12) ?_ ?_ (hK _ ?_)
        · intro W hW
          clear hK
          go_simp
        · intro W hW
          refine (H12.out W).mono ?_
          rintro e w'' ⟨rfl, hb⟩
          exact ⟨rfl, hW.then hb⟩
        simp only [Act.put, List.setIfInBounds_toArray, List.set_cons_zero, List.set_cons_succ]
        clear hK K
        refine wpQuiet_step (fun K hK => ?_)
        rw [if_pos (by rfl)]
        refine quiet_val (.agg #[.int .i64 k0, .string raw0, .string str0, .float .f64 num0, .bool ex0]) ?_ (hK _ ?_)
        · intro W hW
          obtain ⟨⟨a0, a1, a2, a3, a4⟩, ⟨b0, b1, b2, b3, b4⟩, c0, c1, c2, c3, c4⟩ := hW.cells'
          clear hK
          go_simp
        simp only [Act.put, List.setIfInBounds_toArray, List.set_cons_zero, List.set_cons_succ]
        clear hK K
        refine wpQuiet_step (fun K hK => ?_)
        rw [if_pos (by rfl)]
        refine quiet_val (.agg #[.int .i64 k2, .string raw2, .string str2, .float .f64 num2, .bool ex2]) ?_ (hK _ ?_)
        · intro W hW
          obtain ⟨⟨a0, a1, a2, a3, a4⟩, ⟨b0, b1, b2, b3, b4⟩, c0, c1, c2, c3, c4⟩ := hW.cells'
          clear hK
          go_simp
        simp only [Act.put, List.setIfInBounds_toArray, List.set_cons_zero, List.set_cons_succ]
        clear hK K
        refine wpQuiet_step (fun K hK => ?_)
        rw [if_pos (by rfl)]
        refine quiet_val (.bool cased) ?_ (hK _ ?_)
        · intro W hW
          clear hK
          go_simp
        simp only [Act.put, List.setIfInBounds_toArray, List.set_cons_zero, List.set_cons_succ]
        clear hK K
        refine wpQuiet_step (fun K hK => ?_)
        rw [if_pos (by rfl)]
        refine quiet_call 15 #[.agg #[.int .i64 k0, .string raw0, .string str0, .float .f64 num0, .bool ex0], .agg #[.int .i64 k2, .string raw2, .string str2, .float .f64 num2, .bool ex2], .bool cased] (.bool l02) ?_ ?_ (hK _ ?_)
        · intro W hW
          clear hK
          go_simp
        · intro W hW
          refine (H02.out W).mono ?_
          rintro e w'' ⟨rfl, hb⟩
          exact ⟨rfl, hW.then hb⟩
        simp only [Act.put, List.setIfInBounds_toArray, List.set_cons_zero, List.set_cons_succ]
        clear hK K
        refine wpQuiet_step (fun K hK => ?_)
        rw [if_pos (by rfl)]
        refine quiet_val (.bool l01) ?_ (hK _ ?_)
        · intro W hW
          clear hK
          go_simp
        simp only [Act.put, List.setIfInBounds_toArray, List.set_cons_zero, List.set_cons_succ]
        clear hK K
        refine wpQuiet_step (fun K hK => ?_)
        rw [if_pos (by rfl)]
        refine quiet_val (.bool l10) ?_ (hK _ ?_)
        · intro W hW
          clear hK
          go_simp
        simp only [Act.put, List.setIfInBounds_toArray, List.set_cons_zero, List.set_cons_succ]
        clear hK K
        refine wpQuiet_step (fun K hK => ?_)
        rw [if_pos (by rfl)]
        refine quiet_val (.bool l12) ?_ (hK _ ?_)
        · intro W hW
          clear hK
          go_simp
        simp only [Act.put, List.setIfInBounds_toArray, List.set_cons_zero, List.set_cons_succ]
        clear hK K
        refine wpQuiet_step (fun K hK => ?_)
        rw [if_pos (by rfl)]
        refine quiet_val (.bool l02) ?_ (hK _ ?_)
        · intro W hW
          clear hK
          go_simp
        simp only [Act.put, List.setIfInBounds_toArray, List.set_cons_zero, List.set_cons_succ]
        clear hK K
        refine wpQuiet_nil ?_
        intro W hW
        obtain ⟨⟨a0, a1, a2, a3, a4⟩, ⟨b0, b1, b2, b3, b4⟩, c0, c1, c2, c3, c4⟩ := hW.cells'
        obtain ⟨g0, g1, g2, g3⟩ := FACT.out
        clear FACT
        subst g0
        cases l01 with
        | true =>
          have e := g1 rfl
          subst e
          clear g1 g3
          cases l12 with
          | true =>
            have e := g2 rfl rfl
            subst e
            clear g2
            go_wp2_with (go_at_call 15; refine (H00.out _).mono ?_; rintro e W' ⟨rfl, hb⟩)
            replace hW := hW.then hb
            clear hb H00 H01 H10 H12 H02 a0 a1 a2 a3 a4 b0 b1 b2 b3 b4 c0 c1 c2 c3 c4
            go_quiet (fail)
            go_wp2
            go_ret
            exact ⟨rfl, pw_below_drewN hW.below _⟩
          | false =>
            clear g2
            go_wp2_with (go_at_call 15; refine (H00.out _).mono ?_; rintro e W' ⟨rfl, hb⟩)
            replace hW := hW.then hb
            clear hb H00 H01 H10 H12 H02 a0 a1 a2 a3 a4 b0 b1 b2 b3 b4 c0 c1 c2 c3 c4
            go_quiet (fail)
            go_wp2
            go_ret
            exact ⟨rfl, pw_below_drewN hW.below _⟩
        | false =>
          cases l10 with
          | true =>
            clear g1 g2 g3
            go_wp2_with (go_at_call 15; refine (H00.out _).mono ?_; rintro e W' ⟨rfl, hb⟩)
            replace hW := hW.then hb
            clear hb H00 H01 H10 H12 H02 a0 a1 a2 a3 a4 b0 b1 b2 b3 b4 c0 c1 c2 c3 c4
            go_quiet (fail)
            go_wp2
            go_ret
            exact ⟨rfl, pw_below_drewN hW.below _⟩
          | false =>
            obtain ⟨g4, g5⟩ := g3 rfl rfl
            subst g4 g5
            clear g1 g2 g3
            go_wp2_with (go_at_call 15; refine (H00.out _).mono ?_; rintro e W' ⟨rfl, hb⟩)
            replace hW := hW.then hb
            clear hb
            refine wp_region_quiet (C := In3 w ⟨k0, raw0, str0, num0, ex0⟩ ⟨k1, raw1, str1, num1, ex1⟩ ⟨k2, raw2, str2, num2, ex2⟩) (by kernel_rfl) (by kernel_rfl) ?_ ?_
            · exact ⟨below_drew hW.out⟩
            clear hW a0 a1 a2 a3 a4 b0 b1 b2 b3 b4 c0 c1 c2 c3 c4
            refine wpQuiet_step (fun K hK => ?_)
            rw [if_pos (by rfl)]
            refine quiet_val (.bool false) ?_ (hK _ ?_)
            · intro W hW
              clear hK
              go_simp
            simp only [Act.put, List.setIfInBounds_toArray, List.set_cons_zero, List.set_cons_succ]
            clear hK K
            refine wpQuiet_step (fun K hK => ?_)
            rw [if_pos (by rfl)]
            refine quiet_val (.bool false) ?_ (hK _ ?_)
            · intro W hW
              clear hK
              go_simp
            simp only [Act.put, List.setIfInBounds_toArray, List.set_cons_zero, List.set_cons_succ]
            clear hK K
            refine wpQuiet_step (fun K hK => ?_)
            rw [if_pos (by rfl)]
            refine quiet_val (.bool false) ?_ (hK _ ?_)
            · intro W hW
              clear hK
              go_simp
            simp only [Act.put, List.setIfInBounds_toArray, List.set_cons_zero, List.set_cons_succ]
            clear hK K
            refine wpQuiet_step (fun K hK => ?_)
            rw [if_pos (by rfl)]
            refine quiet_val (.bool false) ?_ (hK _ ?_)
            · intro W hW
              clear hK
              go_simp
            simp only [Act.put, List.setIfInBounds_toArray, List.set_cons_zero, List.set_cons_succ]
            clear hK K
            refine wpQuiet_step (fun K hK => ?_)
            rw [if_pos (by rfl)]
            refine quiet_val (.bool false) ?_ (hK _ ?_)
            · intro W hW
              clear hK
              go_simp
            simp only [Act.put, List.setIfInBounds_toArray, List.set_cons_zero, List.set_cons_succ]
            clear hK K
            refine wpQuiet_step (fun K hK => ?_)
            rw [if_pos (by rfl)]
            refine quiet_val (.bool l02) ?_ (hK _ ?_)
            · intro W hW
              clear hK
              go_simp
            simp only [Act.put, List.setIfInBounds_toArray, List.set_cons_zero, List.set_cons_succ]
            clear hK K
            refine wpQuiet_step (fun K hK => ?_)
            rw [if_pos (by rfl)]
            refine quiet_val (.bool l02) ?_ (hK _ ?_)
            · intro W hW
              clear hK
              go_simp
            simp only [Act.put, List.setIfInBounds_toArray, List.set_cons_zero, List.set_cons_succ]
            clear hK K
            refine wpQuiet_step (fun K hK => ?_)
            rw [if_pos (by rfl)]
            refine quiet_val (.bool true) ?_ (hK _ ?_)
            · intro W hW
              clear hK
              go_simp
            simp only [Act.put, List.setIfInBounds_toArray, List.set_cons_zero, List.set_cons_succ]
            clear hK K
            refine wpQuiet_step (fun K hK => ?_)
            rw [if_pos (by rfl)]
            refine quiet_val (.bool true) ?_ (hK _ ?_)
            · intro W hW
              clear hK
              go_simp
            simp only [Act.put, List.setIfInBounds_toArray, List.set_cons_zero, List.set_cons_succ]
            clear hK K
            refine wpQuiet_step (fun K hK => ?_)
            rw [if_pos (by rfl)]
            refine quiet_val (.agg #[.int .i64 k2, .string raw2, .string str2, .float .f64 num2, .bool ex2]) ?_ (hK _ ?_)
            · intro W hW
              obtain ⟨⟨a0, a1, a2, a3, a4⟩, ⟨b0, b1, b2, b3, b4⟩, c0, c1, c2, c3, c4⟩ := hW.cells'
              clear hK
              go_simp
            simp only [Act.put, List.setIfInBounds_toArray, List.set_cons_zero, List.set_cons_succ]
            clear hK K
            refine wpQuiet_step (fun K hK => ?_)
            rw [if_pos (by rfl)]
            refine quiet_val (.agg #[.int .i64 k0, .string raw0, .string str0, .float .f64 num0, .bool ex0]) ?_ (hK _ ?_)
            · intro W hW
              obtain ⟨⟨a0, a1, a2, a3, a4⟩, ⟨b0, b1, b2, b3, b4⟩, c0, c1, c2, c3, c4⟩ := hW.cells'
              clear hK
              go_simp
            simp only [Act.put, List.setIfInBounds_toArray, List.set_cons_zero, List.set_cons_succ]
            clear hK K
            refine wpQuiet_step (fun K hK => ?_)
            rw [if_pos (by rfl)]
            refine quiet_val (.bool cased) ?_ (hK _ ?_)
            · intro W hW
              clear hK
              go_simp
            simp only [Act.put, List.setIfInBounds_toArray, List.set_cons_zero, List.set_cons_succ]
            clear hK K
            refine wpQuiet_step (fun K hK => ?_)
            rw [if_pos (by rfl)]
            refine quiet_call 15 #[.agg #[.int .i64 k2, .string raw2, .string str2, .float .f64 num2, .bool ex2], .agg #[.int .i64 k0, .string raw0, .string str0, .float .f64 num0, .bool ex0], .bool cased] (.bool l20) ?_ ?_ (hK _ ?_)
            · intro W hW
              clear hK
              go_simp
            · intro W hW
              refine (H20.out W).mono ?_
              rintro e w'' ⟨rfl, hb⟩
              exact ⟨rfl, hW.then hb⟩
            simp only [Act.put, List.setIfInBounds_toArray, List.set_cons_zero, List.set_cons_succ]
            clear hK K
            refine wpQuiet_step (fun K hK => ?_)
            rw [if_pos (by rfl)]
            refine quiet_val (.agg #[.int .i64 k2, .string raw2, .string str2, .float .f64 num2, .bool ex2]) ?_ (hK _ ?_)
            · intro W hW
              obtain ⟨⟨a0, a1, a2, a3, a4⟩, ⟨b0, b1, b2, b3, b4⟩, c0, c1, c2, c3, c4⟩ := hW.cells'
              clear hK
              go_simp
            simp only [Act.put, List.setIfInBounds_toArray, List.set_cons_zero, List.set_cons_succ]
            clear hK K
            refine wpQuiet_step (fun K hK => ?_)
            rw [if_pos (by rfl)]
            refine quiet_val (.agg #[.int .i64 k1, .string raw1, .string str1, .float .f64 num1, .bool ex1]) ?_ (hK _ ?_)
            · intro W hW
              obtain ⟨⟨a0, a1, a2, a3, a4⟩, ⟨b0, b1, b2, b3, b4⟩, c0, c1, c2, c3, c4⟩ := hW.cells'
              clear hK
              go_simp
            simp only [Act.put, List.setIfInBounds_toArray, List.set_cons_zero, List.set_cons_succ]
            clear hK K
            refine wpQuiet_step (fun K hK => ?_)
            rw [if_pos (by rfl)]
            refine quiet_val (.bool cased) ?_ (hK _ ?_)
            · intro W hW
              clear hK
              go_simp
            simp only [Act.put, List.setIfInBounds_toArray, List.set_cons_zero, List.set_cons_succ]
            clear hK K
            refine wpQuiet_step (fun K hK => ?_)
            rw [if_pos (by rfl)]
            refine quiet_call 15 #[.agg #[.int .i64 k2, .string raw2, .string str2, .float .f64 num2, .bool ex2], .agg #[.int .i64 k1, .string raw1, .string str1, .float .f64 num1, .bool ex1], .bool cased] (.bool l20) ?_ ?_ (hK _ ?_)
            · intro W hW
              clear hK
              go_simp
            · intro W hW
              refine (H21.out W).mono ?_
              rintro e w'' ⟨rfl, hb⟩
              exact ⟨rfl, hW.then hb⟩
            simp only [Act.put, List.setIfInBounds_toArray, List.set_cons_zero, List.set_cons_succ]
            clear hK K
            refine wpQuiet_step (fun K hK => ?_)
            rw [if_pos (by rfl)]
            refine quiet_val (.bool true) ?_ (hK _ ?_)
            · intro W hW
              clear hK
              go_simp
            simp only [Act.put, List.setIfInBounds_toArray, List.set_cons_zero, List.set_cons_succ]
            clear hK K
            refine wpQuiet_step (fun K hK => ?_)
            rw [if_pos (by rfl)]
            refine quiet_val (.bool true) ?_ (hK _ ?_)
            · intro W hW
              clear hK
              go_simp
            simp only [Act.put, List.setIfInBounds_toArray, List.set_cons_zero, List.set_cons_succ]
            clear hK K
            refine wpQuiet_step (fun K hK => ?_)
            rw [if_pos (by rfl)]
            refine quiet_val (.bool true) ?_ (hK _ ?_)
            · intro W hW
              clear hK
              go_simp
            simp only [Act.put, List.setIfInBounds_toArray, List.set_cons_zero, List.set_cons_succ]
            clear hK K
            refine wpQuiet_step (fun K hK => ?_)
            rw [if_pos (by rfl)]
            refine quiet_val (.bool true) ?_ (hK _ ?_)
            · intro W hW
              clear hK
              go_simp
            simp only [Act.put, List.setIfInBounds_toArray, List.set_cons_zero, List.set_cons_succ]
            clear hK K
            refine wpQuiet_nil ?_
            intro W hW
            go_wp2
            go_ret
            exact ⟨rfl, hW.below⟩
/-- The same, the facts as the row hands them on. -/
theorem law_row (k0 : Int) (raw0 str0 : ByteArray) (num0 : Nat) (ex0 : Bool) (k1 : Int) (raw1 str1 : ByteArray) (num1 : Nat) (ex1 : Bool) (k2 : Int) (raw2 str2 : ByteArray) (num2 : Nat) (ex2 : Bool) (cased : Bool) (w : World)
    (_ : raw0.size ≤ 140737488351232) (h0 : str0.size ≤ 140737488351232) (_ : raw1.size ≤ 140737488351232) (h1 : str1.size ≤ 140737488351232) (_ : raw2.size ≤ 140737488351232) (h2 : str2.size ≤ 140737488351232) :
    Calls Try.prog 6 #[.agg #[.int .i64 k0, .string raw0, .string str0, .float .f64 num0, .bool ex0], .agg #[.int .i64 k1, .string raw1, .string str1, .float .f64 num1, .bool ex1], .agg #[.int .i64 k2, .string raw2, .string str2, .float .f64 num2, .bool ex2], .bool cased] w fun e w' => e = .returned (.bool true) ∧ Below w.heap.size w w' :=
  law_any k0 raw0 str0 num0 ex0 k1 raw1 str1 num1 ex1 k2 raw2 str2 num2 ex2 cased w h0 h1 h2
end Go.Proofs.Ytbnogfljakmfgaa.LessA
