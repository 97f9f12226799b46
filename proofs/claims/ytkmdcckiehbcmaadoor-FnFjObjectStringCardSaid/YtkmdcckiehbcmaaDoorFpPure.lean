/- fastjson's grammar, in plain Lean: trees with the texts of strings and numbers as they are written. -/
import Derived.Test.YtkmdcckiehbcmaaDoorJPure
set_option linter.unusedVariables false
set_option linter.unusedSimpArgs false
namespace Go.Proofs.YtkmdcckiehbcmaaDoor.Fp
open Go.RowKit Go.Proofs.YtkmdcckiehbcmaaDoor.J

mutual
inductive T where
  | leaf (t : Int) (s : L)
  | arr (l : TL)
  | obj (l : OL)
inductive TL where
  | nil
  | cons (t : T) (l : TL)
inductive OL where
  | nil
  | cons (k : L) (t : T) (l : OL)
end
def TL.len : TL → Nat
  | .nil => 0
  | .cons _ l => l.len + 1
def OL.len : OL → Nat
  | .nil => 0
  | .cons _ _ l => l.len + 1
def TL.snoc : TL → T → TL
  | .nil, t => .cons t .nil
  | .cons u l, t => .cons u (l.snoc t)
def OL.snoc : OL → L → T → OL
  | .nil, k, t => .cons k t .nil
  | .cons j u l, k, t => .cons j u (l.snoc k t)
def TL.app : TL → TL → TL
  | .nil, m => m
  | .cons u l, m => .cons u (l.app m)
def OL.app : OL → OL → OL
  | .nil, m => m
  | .cons j u l, m => .cons j u (l.app m)
theorem TL.len_snoc : ∀ (l : TL) (t : T), (l.snoc t).len = l.len + 1
  | .nil, _ => rfl
  | .cons u l, t => by rw [TL.snoc, TL.len, TL.len, TL.len_snoc l t]
theorem OL.len_snoc : ∀ (l : OL) (k : L) (t : T), (l.snoc k t).len = l.len + 1
  | .nil, _, _ => rfl
  | .cons j u l, k, t => by rw [OL.snoc, OL.len, OL.len, OL.len_snoc l k t]
theorem TL.snoc_app : ∀ (l : TL) (t : T) (m : TL), (l.snoc t).app m = l.app (.cons t m)
  | .nil, _, _ => rfl
  | .cons u l, t, m => by rw [TL.snoc, TL.app, TL.app, TL.snoc_app l t m]
theorem OL.snoc_app : ∀ (l : OL) (k : L) (t : T) (m : OL), (l.snoc k t).app m = l.app (.cons k t m)
  | .nil, _, _, _ => rfl
  | .cons j u l, k, t, m => by rw [OL.snoc, OL.app, OL.app, OL.snoc_app l k t m]

def wsB (c : Int) : Bool := c == 32 || c == 10 || c == 9 || c == 13
def ws (l : L) : L := l.dropWhile wsB
theorem ws_le (l : L) : (ws l).length ≤ l.length := (List.dropWhile_sublist _).length_le
/-- What a raw string goes up to: the first quotation mark ahead of which no odd number of backslashes stands. -/
def rs : Bool → L → Option (L × L)
  | _, [] => none
  | o, c :: t =>
    if c = 34 ∧ o = false then some ([], t) else (rs (c == 92 && !o) t).map fun x => (c :: x.1, x.2)
theorem rs_len : ∀ (l : L) (o : Bool) (a r : L), rs o l = some (a, r) → a.length + r.length + 1 = l.length
  | [], o, a, r, h => by cases h
  | c :: t, o, a, r, h => by
    rw [rs] at h
    split at h
    · injection h with h; injection h with h1 h2; subst h1; subst h2; simp
    · cases e : rs (c == 92 && !o) t with
      | none => rw [e] at h; cases h
      | some x =>
        rw [e] at h
        injection h with h; injection h with h1 h2; subst h1; subst h2
        have := rs_len t _ x.1 x.2 e
        simp only [List.length_cons]; omega
def nb (c : Int) : Bool := (decide (48 ≤ c) && decide (c ≤ 57)) || c == 46 || c == 45 || c == 101 || c == 69 || c == 43
def low (c : Int) : Int := if 65 ≤ c ∧ c ≤ 90 then c + 32 else c
def fold3 (w l : L) : Bool := decide (3 ≤ l.length) && ((l.take 3).map low == w)
def wInf : L := [105, 110, 102]
def wNan : L := [110, 97, 110]
def odd3 (l : L) : Bool := fold3 wInf l || fold3 wNan l
/-- A number as Parse takes it. -/
def num (l : L) : Option (L × L) :=
  let a := l.takeWhile nb
  let r := l.dropWhile nb
  if r = [] then some (l, [])
  else if a = [] then (if odd3 r then some (r.take 3, r.drop 3) else none)
  else if a = [45] ∨ a = [43] then (if odd3 r then some (a ++ r.take 3, r.drop 3) else none)
  else some (a, r)
def wTrue : L := [116, 114, 117, 101]
def wFalse : L := [102, 97, 108, 115, 101]
def wNull : L := [110, 117, 108, 108]
def arr0 (f : L → Option (TL × L)) (l : L) : Option (T × L) :=
  match ws l with
  | [] => none
  | c :: q => if c = 93 then some (.arr .nil, q) else (f (c :: q)).map fun x => (.arr x.1, x.2)
def obj0 (f : L → Option (OL × L)) (l : L) : Option (T × L) :=
  match ws l with
  | [] => none
  | c :: q => if c = 125 then some (.obj .nil, q) else (f (c :: q)).map fun x => (.obj x.1, x.2)
mutual
/-- A value at a depth. -/
def pv : Nat → Nat → L → Option (T × L)
  | 0, _, _ => none
  | n + 1, d, l =>
    match l with
    | [] => none
    | c :: t =>
      if 300 < d + 1 then none
      else if c = 123 then obj0 (po n (d + 1)) t
      else if c = 91 then arr0 (pa n (d + 1)) t
      else if c = 34 then (rs false t).map fun x => (.leaf 7 x.1, x.2)
      else if c = 116 then (if (c :: t).take 4 = wTrue then some (.leaf 5 [], (c :: t).drop 4) else none)
      else if c = 102 then (if (c :: t).take 5 = wFalse then some (.leaf 6 [], (c :: t).drop 5) else none)
      else if c = 110 then (if (c :: t).take 4 = wNull then some (.leaf 0 [], (c :: t).drop 4) else if fold3 wNan (c :: t) then some (.leaf 4 ((c :: t).take 3), (c :: t).drop 3) else none)
      else (num (c :: t)).map fun x => (.leaf 4 x.1, x.2)
/-- The elements of an array. -/
def pa : Nat → Nat → L → Option (TL × L)
  | 0, _, _ => none
  | n + 1, d, l =>
    match pv n d (ws l) with
    | none => none
    | some (t, r) =>
      match ws r with
      | [] => none
      | c :: q => if c = 44 then (pa n d q).map fun x => (.cons t x.1, x.2) else if c = 93 then some (.cons t .nil, q) else none
/-- The members of an object. -/
def po : Nat → Nat → L → Option (OL × L)
  | 0, _, _ => none
  | n + 1, d, l =>
    match ws l with
    | [] => none
    | c :: q =>
      if c = 34 then
        match rs false q with
        | none => none
        | some (k, r) =>
          match ws r with
          | [] => none
          | c2 :: q2 =>
            if c2 = 58 then
              match pv n d (ws q2) with
              | none => none
              | some (t, r2) =>
                match ws r2 with
                | [] => none
                | c3 :: q3 => if c3 = 44 then (po n d q3).map fun x => (.cons k t x.1, x.2) else if c3 = 125 then some (.cons k t .nil, q3) else none
            else none
      else none
end
/-- What MarshalTo writes. -/
def word (t : Int) : L := if t = 5 then wTrue else if t = 6 then wFalse else wNull
mutual
def out : T → L
  | .leaf t s => if t = 7 then 34 :: (s ++ [34]) else if t = 4 then s else word t
  | .arr l => 91 :: (outL l ++ [93])
  | .obj l => 123 :: (outO l ++ [125])
def outL : TL → L
  | .nil => []
  | .cons t .nil => out t
  | .cons t l => out t ++ 44 :: outL l
def outO : OL → L
  | .nil => []
  | .cons k t .nil => 34 :: (k ++ 34 :: 58 :: out t)
  | .cons k t l => 34 :: (k ++ 34 :: 58 :: (out t ++ 44 :: outO l))
end
theorem num_len {l a r : L} (h : num l = some (a, r)) (hl : l ≠ []) : a.length + r.length = l.length ∧ r.length < l.length := by
  have e : (l.takeWhile nb).length + (l.dropWhile nb).length = l.length := by rw [← List.length_append, List.takeWhile_append_dropWhile]
  have hp : 0 < l.length := List.length_pos_iff.2 hl
  have h3 : ∀ x : L, odd3 x = true → 3 ≤ x.length := fun x hx => by
    unfold odd3 fold3 at hx
    simp only [Bool.or_eq_true, Bool.and_eq_true, decide_eq_true_eq] at hx
    rcases hx with h | h <;> exact h.1
  unfold num at h
  simp only [] at h
  split at h
  · injection h with h; injection h with h1 h2; subst h1; subst h2; simp; exact hp
  · split at h
    · rename_i ha
      split at h
      · rename_i ho
        injection h with h; injection h with h1 h2; subst h1; subst h2
        have := h3 _ ho
        rw [ha] at e
        simp only [List.length_take, List.length_drop, List.length_nil] at *
        omega
      · cases h
    · split at h
      · split at h
        · rename_i ho
          injection h with h; injection h with h1 h2; subst h1; subst h2
          have := h3 _ ho
          simp only [List.length_append, List.length_take, List.length_drop] at *
          omega
        · cases h
      · rename_i ha _
        injection h with h; injection h with h1 h2; subst h1; subst h2
        have := List.length_pos_iff.2 ha
        omega
theorem outL1 (t : T) : outL (.cons t .nil) = out t := by simp only [outL]
theorem outL2 (t u : T) (m : TL) : outL (.cons t (.cons u m)) = out t ++ 44 :: outL (.cons u m) := by
  rw [outL]
  intro h; cases h
theorem outO1 (k : L) (t : T) : outO (.cons k t .nil) = 34 :: (k ++ 34 :: 58 :: out t) := by simp only [outO]
theorem outO2 (k j : L) (t u : T) (m : OL) : outO (.cons k t (.cons j u m)) = 34 :: (k ++ 34 :: 58 :: (out t ++ 44 :: outO (.cons j u m))) := by
  rw [outO]
  intro h; cases h
theorem outL_cons (t : T) (l : TL) : (outL (.cons t l)).length ≤ (out t).length + (outL l).length + 1 := by
  cases l with
  | nil => rw [outL1]; omega
  | cons u m => rw [outL2]; simp [List.length_append]; omega
theorem outO_cons (k : L) (t : T) (l : OL) : (outO (.cons k t l)).length ≤ k.length + (out t).length + (outO l).length + 4 := by
  cases l with
  | nil => rw [outO1]; simp [List.length_append]; omega
  | cons j u m => rw [outO2]; simp [List.length_append]; omega
/-- What is written is no longer than what was read. -/
theorem sizes : ∀ n, (∀ d l t r, pv n d l = some (t, r) → (out t).length + r.length ≤ l.length ∧ r.length < l.length) ∧ (∀ d l t r, pa n d l = some (t, r) → (outL t).length + r.length + 1 ≤ l.length) ∧ (∀ d l t r, po n d l = some (t, r) → (outO t).length + r.length + 1 ≤ l.length) := by
  intro n
  induction n with
  | zero => exact ⟨fun d l t r h => (by rw [pv] at h; cases h), fun d l t r h => (by rw [pa] at h; cases h), fun d l t r h => (by rw [po] at h; cases h)⟩
  | succ n ih =>
    obtain ⟨iv, ia, io⟩ := ih
    refine ⟨fun d l t r h => ?_, fun d l t r h => ?_, fun d l t r h => ?_⟩
    · cases l with
      | nil => rw [pv] at h; cases h
      | cons c l =>
        rw [pv] at h
        split at h
        · cases h
        split at h
        · unfold obj0 at h
          have hw := ws_le l
          cases e : ws l with
          | nil => rw [e] at h; cases h
          | cons c2 q =>
            rw [e] at h hw
            simp only [List.length_cons] at hw
            simp only [] at h
            split at h
            · injection h with h; injection h with h1 h2; subst h1; subst h2
              rw [out, outO]; simp; omega
            · cases e2 : po n (d + 1) (c2 :: q) with
              | none => rw [e2] at h; cases h
              | some x =>
                rw [e2] at h
                injection h with h; injection h with h1 h2; subst h1; subst h2
                have := io _ _ x.1 x.2 e2
                rw [out]; simp at this ⊢; omega
        split at h
        · unfold arr0 at h
          have hw := ws_le l
          cases e : ws l with
          | nil => rw [e] at h; cases h
          | cons c2 q =>
            rw [e] at h hw
            simp only [List.length_cons] at hw
            simp only [] at h
            split at h
            · injection h with h; injection h with h1 h2; subst h1; subst h2
              rw [out, outL]; simp; omega
            · cases e2 : pa n (d + 1) (c2 :: q) with
              | none => rw [e2] at h; cases h
              | some x =>
                rw [e2] at h
                injection h with h; injection h with h1 h2; subst h1; subst h2
                have := ia _ _ x.1 x.2 e2
                rw [out]; simp at this ⊢; omega
        split at h
        · cases e : rs false l with
          | none => rw [e] at h; cases h
          | some x =>
            rw [e] at h
            injection h with h; injection h with h1 h2; subst h1; subst h2
            have := rs_len l false x.1 x.2 e
            rw [out, if_pos rfl]; simp; omega
        have ht : ∀ (w : L) (k : Nat), (c :: l).take k = w → w.length = k → k ≤ (c :: l).length := fun w k e hk => by
          have := congrArg List.length e
          rw [List.length_take] at this
          omega
        split at h
        · split at h
          · rename_i e
            injection h with h; injection h with h1 h2; subst h1; subst h2
            have := ht _ 4 e rfl
            rw [out, if_neg (by decide), if_neg (by decide), List.length_drop]
            have : (word 5).length = 4 := rfl
            omega
          · cases h
        split at h
        · split at h
          · rename_i e
            injection h with h; injection h with h1 h2; subst h1; subst h2
            have := ht _ 5 e rfl
            rw [out, if_neg (by decide), if_neg (by decide), List.length_drop]
            have : (word 6).length = 5 := rfl
            omega
          · cases h
        split at h
        · split at h
          · rename_i e
            injection h with h; injection h with h1 h2; subst h1; subst h2
            have := ht _ 4 e rfl
            rw [out, if_neg (by decide), if_neg (by decide), List.length_drop]
            have : (word 0).length = 4 := rfl
            omega
          · split at h
            · rename_i e
              injection h with h; injection h with h1 h2; subst h1; subst h2
              unfold fold3 at e
              simp only [Bool.and_eq_true, decide_eq_true_eq] at e
              have := e.1
              rw [out, if_neg (by decide), if_pos rfl, List.length_drop, List.length_take]
              omega
            · cases h
        cases e : num (c :: l) with
        | none => rw [e] at h; cases h
        | some x =>
          rw [e] at h
          injection h with h; injection h with h1 h2; subst h1; subst h2
          have := num_len (a := x.1) (r := x.2) e (by simp)
          rw [out, if_neg (by decide), if_pos rfl]
          omega
    · rw [pa] at h
      have hw := ws_le l
      cases e : pv n d (ws l) with
      | none => rw [e] at h; cases h
      | some x =>
        rw [e] at h
        have h1 := iv _ _ x.1 x.2 e
        have hw2 := ws_le x.2
        simp only [] at h
        cases e2 : ws x.2 with
        | nil => rw [e2] at h; cases h
        | cons c q =>
          rw [e2] at h hw2
          simp only [List.length_cons] at hw2
          simp only [] at h
          split at h
          · cases e3 : pa n d q with
            | none => rw [e3] at h; cases h
            | some y =>
              rw [e3] at h
              injection h with h; injection h with h3 h4; subst h3; subst h4
              have := ia _ _ y.1 y.2 e3
              have := outL_cons x.1 y.1
              omega
          · split at h
            · injection h with h; injection h with h3 h4; subst h3; subst h4
              rw [outL1]
              omega
            · cases h
    · rw [po] at h
      have hw := ws_le l
      cases e0 : ws l with
      | nil => rw [e0] at h; cases h
      | cons c0 q0 =>
        rw [e0] at h hw
        simp only [List.length_cons] at hw
        simp only [] at h
        split at h
        · cases e1 : rs false q0 with
          | none => rw [e1] at h; cases h
          | some k =>
            rw [e1] at h
            have hk := rs_len q0 false k.1 k.2 e1
            have hw1 := ws_le k.2
            simp only [] at h
            cases e2 : ws k.2 with
            | nil => rw [e2] at h; cases h
            | cons c2 q2 =>
              rw [e2] at h hw1
              simp only [List.length_cons] at hw1
              simp only [] at h
              split at h
              · have hw2 := ws_le q2
                cases e : pv n d (ws q2) with
                | none => rw [e] at h; cases h
                | some x =>
                  rw [e] at h
                  have h1 := iv _ _ x.1 x.2 e
                  have hw3 := ws_le x.2
                  simp only [] at h
                  cases e3 : ws x.2 with
                  | nil => rw [e3] at h; cases h
                  | cons c q =>
                    rw [e3] at h hw3
                    simp only [List.length_cons] at hw3
                    simp only [] at h
                    split at h
                    · cases e4 : po n d q with
                      | none => rw [e4] at h; cases h
                      | some y =>
                        rw [e4] at h
                        injection h with h; injection h with h3 h4; subst h3; subst h4
                        have := io _ _ y.1 y.2 e4
                        have := outO_cons k.1 x.1 y.1
                        omega
                    · split at h
                      · injection h with h; injection h with h3 h4; subst h3; subst h4
                        rw [outO1]
                        simp
                        omega
                      · cases h
              · cases h
        · cases h
end Go.Proofs.YtkmdcckiehbcmaaDoor.Fp
