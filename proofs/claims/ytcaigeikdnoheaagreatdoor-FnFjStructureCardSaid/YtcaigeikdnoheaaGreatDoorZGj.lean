/- Several texts in one. -/
import Derived.Test.YtcaigeikdnoheaaGreatDoorZGa
import Derived.Test.YtcaigeikdnoheaaGreatDoorZGf
import Derived.Test.YtcaigeikdnoheaaGreatDoorZPFnFjStructurex11
import Derived.Deep.CutRange
set_option linter.unusedVariables false
set_option linter.unusedSimpArgs false
namespace Go.Proofs.YtcaigeikdnoheaaGreatDoor.Fp
open Go.RowKit Go.Proofs.YtcaigeikdnoheaaGreatDoor.J

mutual
inductive T where
  | leaf (t : Int) (s : L)
  | arr (l : TL)
  | obj (l : OL)
inductive TL where
  | nil
  | cons (t : T) (l : TL)
inductive OL where
  | nil
  | cons (k : L) (t : T) (l : OL)
end
def TL.len : TL → Nat
  | .nil => 0
  | .cons _ l => l.len + 1
def OL.len : OL → Nat
  | .nil => 0
  | .cons _ _ l => l.len + 1
def TL.snoc : TL → T → TL
  | .nil, t => .cons t .nil
  | .cons u l, t => .cons u (l.snoc t)
def OL.snoc : OL → L → T → OL
  | .nil, k, t => .cons k t .nil
  | .cons j u l, k, t => .cons j u (l.snoc k t)
def TL.app : TL → TL → TL
  | .nil, m => m
  | .cons u l, m => .cons u (l.app m)
def OL.app : OL → OL → OL
  | .nil, m => m
  | .cons j u l, m => .cons j u (l.app m)
theorem TL.len_snoc : ∀ (l : TL) (t : T), (l.snoc t).len = l.len + 1
  | .nil, _ => rfl
  | .cons u l, t => by rw [TL.snoc, TL.len, TL.len, TL.len_snoc l t]
theorem OL.len_snoc : ∀ (l : OL) (k : L) (t : T), (l.snoc k t).len = l.len + 1
  | .nil, _, _ => rfl
  | .cons j u l, k, t => by rw [OL.snoc, OL.len, OL.len, OL.len_snoc l k t]
theorem TL.snoc_app : ∀ (l : TL) (t : T) (m : TL), (l.snoc t).app m = l.app (.cons t m)
  | .nil, _, _ => rfl
  | .cons u l, t, m => by rw [TL.snoc, TL.app, TL.app, TL.snoc_app l t m]
theorem OL.snoc_app : ∀ (l : OL) (k : L) (t : T) (m : OL), (l.snoc k t).app m = l.app (.cons k t m)
  | .nil, _, _, _ => rfl
  | .cons j u l, k, t, m => by rw [OL.snoc, OL.app, OL.app, OL.snoc_app l k t m]

def wsB (c : Int) : Bool := c == 32 || c == 10 || c == 9 || c == 13
def ws (l : L) : L := l.dropWhile wsB
theorem ws_le (l : L) : (ws l).length ≤ l.length := (List.dropWhile_sublist _).length_le
/-- What a raw string goes up to: the first quotation mark ahead of which no odd number of backslashes stands. -/
def rs : Bool → L → Option (L × L)
  | _, [] => none
  | o, c :: t =>
    if c = 34 ∧ o = false then some ([], t) else (rs (c == 92 && !o) t).map fun x => (c :: x.1, x.2)
theorem rs_len : ∀ (l : L) (o : Bool) (a r : L), rs o l = some (a, r) → a.length + r.length + 1 = l.length
  | [], o, a, r, h => by cases h
  | c :: t, o, a, r, h => by
    rw [rs] at h
    split at h
    · injection h with h; injection h with h1 h2; subst h1; subst h2; simp
    · cases e : rs (c == 92 && !o) t with
      | none => rw [e] at h; cases h
      | some x =>
        rw [e] at h
        injection h with h; injection h with h1 h2; subst h1; subst h2
        have := rs_len t _ x.1 x.2 e
        simp only [List.length_cons]; omega
def nb (c : Int) : Bool := (decide (48 ≤ c) && decide (c ≤ 57)) || c == 46 || c == 45 || c == 101 || c == 69 || c == 43
def low (c : Int) : Int := if 65 ≤ c ∧ c ≤ 90 then c + 32 else c
def fold3 (w l : L) : Bool := decide (3 ≤ l.length) && ((l.take 3).map low == w)
def wInf : L := [105, 110, 102]
def wNan : L := [110, 97, 110]
def odd3 (l : L) : Bool := fold3 wInf l || fold3 wNan l
/-- A number as Parse takes it. -/
def num (l : L) : Option (L × L) :=
  let a := l.takeWhile nb
  let r := l.dropWhile nb
  if r = [] then some (l, [])
  else if a = [] then (if odd3 r then some (r.take 3, r.drop 3) else none)
  else if a = [45] ∨ a = [43] then (if odd3 r then some (a ++ r.take 3, r.drop 3) else none)
  else some (a, r)
def wTrue : L := [116, 114, 117, 101]
def wFalse : L := [102, 97, 108, 115, 101]
def wNull : L := [110, 117, 108, 108]
def arr0 (f : L → Option (TL × L)) (l : L) : Option (T × L) :=
  match ws l with
  | [] => none
  | c :: q => if c = 93 then some (.arr .nil, q) else (f (c :: q)).map fun x => (.arr x.1, x.2)
def obj0 (f : L → Option (OL × L)) (l : L) : Option (T × L) :=
  match ws l with
  | [] => none
  | c :: q => if c = 125 then some (.obj .nil, q) else (f (c :: q)).map fun x => (.obj x.1, x.2)
mutual
/-- A value at a depth. -/
def pv : Nat → Nat → L → Option (T × L)
  | 0, _, _ => none
  | n + 1, d, l =>
    match l with
    | [] => none
    | c :: t =>
      if 300 < d + 1 then none
      else if c = 123 then obj0 (po n (d + 1)) t
      else if c = 91 then arr0 (pa n (d + 1)) t
      else if c = 34 then (rs false t).map fun x => (.leaf 7 x.1, x.2)
      else if c = 116 then (if (c :: t).take 4 = wTrue then some (.leaf 5 [], (c :: t).drop 4) else none)
      else if c = 102 then (if (c :: t).take 5 = wFalse then some (.leaf 6 [], (c :: t).drop 5) else none)
      else if c = 110 then (if (c :: t).take 4 = wNull then some (.leaf 0 [], (c :: t).drop 4) else if fold3 wNan (c :: t) then some (.leaf 4 ((c :: t).take 3), (c :: t).drop 3) else none)
      else (num (c :: t)).map fun x => (.leaf 4 x.1, x.2)
/-- The elements of an array. -/
def pa : Nat → Nat → L → Option (TL × L)
  | 0, _, _ => none
  | n + 1, d, l =>
    match pv n d (ws l) with
    | none => none
    | some (t, r) =>
      match ws r with
      | [] => none
      | c :: q => if c = 44 then (pa n d q).map fun x => (.cons t x.1, x.2) else if c = 93 then some (.cons t .nil, q) else none
/-- The members of an object. -/
def po : Nat → Nat → L → Option (OL × L)
  | 0, _, _ => none
  | n + 1, d, l =>
    match ws l with
    | [] => none
    | c :: q =>
      if c = 34 then
        match rs false q with
        | none => none
        | some (k, r) =>
          match ws r with
          | [] => none
          | c2 :: q2 =>
            if c2 = 58 then
              match pv n d (ws q2) with
              | none => none
              | some (t, r2) =>
                match ws r2 with
                | [] => none
                | c3 :: q3 => if c3 = 44 then (po n d q3).map fun x => (.cons k t x.1, x.2) else if c3 = 125 then some (.cons k t .nil, q3) else none
            else none
      else none
end
/-- What MarshalTo writes. -/
def word (t : Int) : L := if t = 5 then wTrue else if t = 6 then wFalse else wNull
mutual
def out : T → L
  | .leaf t s => if t = 7 then 34 :: (s ++ [34]) else if t = 4 then s else word t
  | .arr l => 91 :: (outL l ++ [93])
  | .obj l => 123 :: (outO l ++ [125])
def outL : TL → L
  | .nil => []
  | .cons t .nil => out t
  | .cons t l => out t ++ 44 :: outL l
def outO : OL → L
  | .nil => []
  | .cons k t .nil => 34 :: (k ++ 34 :: 58 :: out t)
  | .cons k t l => 34 :: (k ++ 34 :: 58 :: (out t ++ 44 :: outO l))
end
theorem num_len {l a r : L} (h : num l = some (a, r)) (hl : l ≠ []) : a.length + r.length = l.length ∧ r.length < l.length := by
  have e : (l.takeWhile nb).length + (l.dropWhile nb).length = l.length := by rw [← List.length_append, List.takeWhile_append_dropWhile]
  have hp : 0 < l.length := List.length_pos_iff.2 hl
  have h3 : ∀ x : L, odd3 x = true → 3 ≤ x.length := fun x hx => by
    unfold odd3 fold3 at hx
    simp only [Bool.or_eq_true, Bool.and_eq_true, decide_eq_true_eq] at hx
    rcases hx with h | h <;> exact h.1
  unfold num at h
  simp only [] at h
  split at h
  · injection h with h; injection h with h1 h2; subst h1; subst h2; simp; exact hp
  · split at h
    · rename_i ha
      split at h
      · rename_i ho
        injection h with h; injection h with h1 h2; subst h1; subst h2
        have := h3 _ ho
        rw [ha] at e
        simp only [List.length_take, List.length_drop, List.length_nil] at *
        omega
      · cases h
    · split at h
      · split at h
        · rename_i ho
          injection h with h; injection h with h1 h2; subst h1; subst h2
          have := h3 _ ho
          simp only [List.length_append, List.length_take, List.length_drop] at *
          omega
        · cases h
      · rename_i ha _
        injection h with h; injection h with h1 h2; subst h1; subst h2
        have := List.length_pos_iff.2 ha
        omega
theorem outL1 (t : T) : outL (.cons t .nil) = out t := by simp only [outL]
theorem outL2 (t u : T) (m : TL) : outL (.cons t (.cons u m)) = out t ++ 44 :: outL (.cons u m) := by
  rw [outL]
  intro h; cases h
theorem outO1 (k : L) (t : T) : outO (.cons k t .nil) = 34 :: (k ++ 34 :: 58 :: out t) := by simp only [outO]
theorem outO2 (k j : L) (t u : T) (m : OL) : outO (.cons k t (.cons j u m)) = 34 :: (k ++ 34 :: 58 :: (out t ++ 44 :: outO (.cons j u m))) := by
  rw [outO]
  intro h; cases h
theorem outL_cons (t : T) (l : TL) : (outL (.cons t l)).length ≤ (out t).length + (outL l).length + 1 := by
  cases l with
  | nil => rw [outL1]; omega
  | cons u m => rw [outL2]; simp [List.length_append]; omega
theorem outO_cons (k : L) (t : T) (l : OL) : (outO (.cons k t l)).length ≤ k.length + (out t).length + (outO l).length + 4 := by
  cases l with
  | nil => rw [outO1]; simp [List.length_append]; omega
  | cons j u m => rw [outO2]; simp [List.length_append]; omega
/-- What is written is no longer than what was read. -/
theorem sizes : ∀ n, (∀ d l t r, pv n d l = some (t, r) → (out t).length + r.length ≤ l.length ∧ r.length < l.length) ∧ (∀ d l t r, pa n d l = some (t, r) → (outL t).length + r.length + 1 ≤ l.length) ∧ (∀ d l t r, po n d l = some (t, r) → (outO t).length + r.length + 1 ≤ l.length) := by
  intro n
  induction n with
  | zero => exact ⟨fun d l t r h => (by rw [pv] at h; cases h), fun d l t r h => (by rw [pa] at h; cases h), fun d l t r h => (by rw [po] at h; cases h)⟩
  | succ n ih =>
    obtain ⟨iv, ia, io⟩ := ih
    refine ⟨fun d l t r h => ?_, fun d l t r h => ?_, fun d l t r h => ?_⟩
    · cases l with
      | nil => rw [pv] at h; cases h
      | cons c l =>
        rw [pv] at h
        split at h
        · cases h
        split at h
        · unfold obj0 at h
          have hw := ws_le l
          cases e : ws l with
          | nil => rw [e] at h; cases h
          | cons c2 q =>
            rw [e] at h hw
            simp only [List.length_cons] at hw
            simp only [] at h
            split at h
            · injection h with h; injection h with h1 h2; subst h1; subst h2
              rw [out, outO]; simp; omega
            · cases e2 : po n (d + 1) (c2 :: q) with
              | none => rw [e2] at h; cases h
              | some x =>
                rw [e2] at h
                injection h with h; injection h with h1 h2; subst h1; subst h2
                have := io _ _ x.1 x.2 e2
                rw [out]; simp at this ⊢; omega
        split at h
        · unfold arr0 at h
          have hw := ws_le l
          cases e : ws l with
          | nil => rw [e] at h; cases h
          | cons c2 q =>
            rw [e] at h hw
            simp only [List.length_cons] at hw
            simp only [] at h
            split at h
            · injection h with h; injection h with h1 h2; subst h1; subst h2
              rw [out, outL]; simp; omega
            · cases e2 : pa n (d + 1) (c2 :: q) with
              | none => rw [e2] at h; cases h
              | some x =>
                rw [e2] at h
                injection h with h; injection h with h1 h2; subst h1; subst h2
                have := ia _ _ x.1 x.2 e2
                rw [out]; simp at this ⊢; omega
        split at h
        · cases e : rs false l with
          | none => rw [e] at h; cases h
          | some x =>
            rw [e] at h
            injection h with h; injection h with h1 h2; subst h1; subst h2
            have := rs_len l false x.1 x.2 e
            rw [out, if_pos rfl]; simp; omega
        have ht : ∀ (w : L) (k : Nat), (c :: l).take k = w → w.length = k → k ≤ (c :: l).length := fun w k e hk => by
          have := congrArg List.length e
          rw [List.length_take] at this
          omega
        split at h
        · split at h
          · rename_i e
            injection h with h; injection h with h1 h2; subst h1; subst h2
            have := ht _ 4 e rfl
            rw [out, if_neg (by decide), if_neg (by decide), List.length_drop]
            have : (word 5).length = 4 := rfl
            omega
          · cases h
        split at h
        · split at h
          · rename_i e
            injection h with h; injection h with h1 h2; subst h1; subst h2
            have := ht _ 5 e rfl
            rw [out, if_neg (by decide), if_neg (by decide), List.length_drop]
            have : (word 6).length = 5 := rfl
            omega
          · cases h
        split at h
        · split at h
          · rename_i e
            injection h with h; injection h with h1 h2; subst h1; subst h2
            have := ht _ 4 e rfl
            rw [out, if_neg (by decide), if_neg (by decide), List.length_drop]
            have : (word 0).length = 4 := rfl
            omega
          · split at h
            · rename_i e
              injection h with h; injection h with h1 h2; subst h1; subst h2
              unfold fold3 at e
              simp only [Bool.and_eq_true, decide_eq_true_eq] at e
              have := e.1
              rw [out, if_neg (by decide), if_pos rfl, List.length_drop, List.length_take]
              omega
            · cases h
        cases e : num (c :: l) with
        | none => rw [e] at h; cases h
        | some x =>
          rw [e] at h
          injection h with h; injection h with h1 h2; subst h1; subst h2
          have := num_len (a := x.1) (r := x.2) e (by simp)
          rw [out, if_neg (by decide), if_pos rfl]
          omega
    · rw [pa] at h
      have hw := ws_le l
      cases e : pv n d (ws l) with
      | none => rw [e] at h; cases h
      | some x =>
        rw [e] at h
        have h1 := iv _ _ x.1 x.2 e
        have hw2 := ws_le x.2
        simp only [] at h
        cases e2 : ws x.2 with
        | nil => rw [e2] at h; cases h
        | cons c q =>
          rw [e2] at h hw2
          simp only [List.length_cons] at hw2
          simp only [] at h
          split at h
          · cases e3 : pa n d q with
            | none => rw [e3] at h; cases h
            | some y =>
              rw [e3] at h
              injection h with h; injection h with h3 h4; subst h3; subst h4
              have := ia _ _ y.1 y.2 e3
              have := outL_cons x.1 y.1
              omega
          · split at h
            · injection h with h; injection h with h3 h4; subst h3; subst h4
              rw [outL1]
              omega
            · cases h
    · rw [po] at h
      have hw := ws_le l
      cases e0 : ws l with
      | nil => rw [e0] at h; cases h
      | cons c0 q0 =>
        rw [e0] at h hw
        simp only [List.length_cons] at hw
        simp only [] at h
        split at h
        · cases e1 : rs false q0 with
          | none => rw [e1] at h; cases h
          | some k =>
            rw [e1] at h
            have hk := rs_len q0 false k.1 k.2 e1
            have hw1 := ws_le k.2
            simp only [] at h
            cases e2 : ws k.2 with
            | nil => rw [e2] at h; cases h
            | cons c2 q2 =>
              rw [e2] at h hw1
              simp only [List.length_cons] at hw1
              simp only [] at h
              split at h
              · have hw2 := ws_le q2
                cases e : pv n d (ws q2) with
                | none => rw [e] at h; cases h
                | some x =>
                  rw [e] at h
                  have h1 := iv _ _ x.1 x.2 e
                  have hw3 := ws_le x.2
                  simp only [] at h
                  cases e3 : ws x.2 with
                  | nil => rw [e3] at h; cases h
                  | cons c q =>
                    rw [e3] at h hw3
                    simp only [List.length_cons] at hw3
                    simp only [] at h
                    split at h
                    · cases e4 : po n d q with
                      | none => rw [e4] at h; cases h
                      | some y =>
                        rw [e4] at h
                        injection h with h; injection h with h3 h4; subst h3; subst h4
                        have := io _ _ y.1 y.2 e4
                        have := outO_cons k.1 x.1 y.1
                        omega
                    · split at h
                      · injection h with h; injection h with h3 h4; subst h3; subst h4
                        rw [outO1]
                        simp
                        omega
                      · cases h
              · cases h
        · cases h
/-- What Parse gives. -/
def parse0 (l : L) : Option T := match pv (2 * (ws l).length + 2) 0 (ws l) with
  | none => none
  | some x => if ws x.2 = [] then some x.1 else none
end Go.Proofs.YtcaigeikdnoheaaGreatDoor.Fp

set_option linter.unusedVariables false
set_option linter.unusedSimpArgs false
namespace Go.Proofs.YtcaigeikdnoheaaGreatDoor.Fp
open Go.RowKit Go.Proofs.YtcaigeikdnoheaaGreatDoorW.PrintWords Go.Proofs.YtcaigeikdnoheaaGreatDoorW.PrintLast Go.Proofs.YtcaigeikdnoheaaGreatDoorW.PrintMore Go.Proofs.YtcaigeikdnoheaaGreatDoor.Aid Go.Proofs.YtcaigeikdnoheaaGreatDoor.J Go.Proofs.YtcaigeikdnoheaaGreatDoor.PFnFjStructure

theorem w64 {x : Int} (h0 : -1000000000000 ≤ x) (h1 : x ≤ 1000000000000) : wrap64 x = x := by unfold wrap64; omega
theorem from_cons' (s : ByteArray) (a : Nat) (h : a < s.size) : from_ s a = bt s (a : Int) :: from_ s (a + 1) := by
  have hl : a < (bytesOf s).length := by rw [bytesOf_length]; exact h
  unfold from_
  rw [List.drop_eq_getElem_cons hl]
  congr 1
  have := bytesOf_get? s a h
  rw [List.getElem?_eq_getElem hl] at this
  exact Option.some.inj this
theorem from_end' (s : ByteArray) : from_ s s.size = [] := List.eq_nil_of_length_eq_zero (by rw [from_len]; omega)
theorem ext_str (s : ByteArray) (i : Nat) : s.extract i s.size = strOfNums (from_ s i) := by
  have := by_from s i
  rw [← str_of_bytes (s.extract i s.size), this]; rfl
theorem ws_cons (c : Int) (t : L) : ws (c :: t) = if wsB c = true then ws t else c :: t := by
  unfold ws
  rw [List.dropWhile_cons]
theorem slow_l0 (s : ByteArray) (hs : s.size ≤ 100000) : ∀ (m i : Nat), i + m = s.size → fastjson_skipWSSlow.l0 (m + 1) s (i : Int) = some (strOfNums (ws (from_ s i))) := by
  intro m
  induction m with
  | zero =>
    intro i h
    obtain rfl : i = s.size := by omega
    rw [from_end', fastjson_skipWSSlow.l0, if_neg (by omega)]; rfl
  | succ m ih =>
    intro i h
    have hw : wrap64 ((i : Int) + 1) = ((i + 1 : Nat) : Int) := by rw [w64 (by omega) (by omega)]; rfl
    have ih2 := ih (i + 1) (by omega)
    rw [fastjson_skipWSSlow.l0, if_pos (by omega), if_pos (by omega), hw, ih2, from_cons' s i (by omega), ws_cons]
    unfold wsB
    by_cases h1 : bt s (i : Int) = 32
    · rw [if_pos h1, h1]; rfl
    rw [if_neg h1]
    by_cases h2 : bt s (i : Int) = 10
    · rw [if_pos h2, h2]; rfl
    rw [if_neg h2]
    by_cases h3 : bt s (i : Int) = 9
    · rw [if_pos h3, h3]; rfl
    rw [if_neg h3]
    by_cases h4 : bt s (i : Int) = 13
    · rw [if_pos h4, h4]; rfl
    rw [if_neg h4, if_pos (by omega), if_neg (by simp [h1, h2, h3, h4]), Int.toNat_natCast, ext_str, from_cons' s i (by omega)]
theorem ws_f (s : ByteArray) (hs : s.size ≤ 100000) : ∃ k, fastjson_skipWS.f k s = some (strOfNums (ws (bytesOf s))) := by
  have e0 : s = strOfNums (bytesOf s) := (str_of_bytes s).symm
  unfold fastjson_skipWS.f
  by_cases c0 : (s.size : Int) = 0
  · refine ⟨0, ?_⟩
    rw [if_pos c0]
    have : bytesOf s = [] := List.eq_nil_of_length_eq_zero (by rw [bytesOf_length]; omega)
    rw [this] at e0 ⊢
    exact congrArg some e0
  have hf : bytesOf s = bt s 0 :: from_ s 1 := from_cons' s 0 (by omega)
  have hsl : ∀ b, (wsB (bt s 0) = !b) → fastjson_skipWSSlow.j0 (s.size + 2) s b = some (strOfNums (ws (bytesOf s))) := fun b hb => by
    rw [fastjson_skipWSSlow.j0]
    cases b with
    | true =>
      rw [if_pos rfl, hf, ws_cons, hb, if_neg (by decide), ← hf]
      exact congrArg some e0
    | false =>
      have := slow_l0 s hs (s.size - 1) 1 (by omega)
      have h2 : fastjson_skipWSSlow.l0 (s.size + 1) s 1 = some (strOfNums (ws (from_ s 1))) := by
        have m1 : ∀ k, LeO (fastjson_skipWSSlow.l0 k s 1) (fastjson_skipWSSlow.l0 (k + 1) s 1) := fun k => (fastjson_skipWSSlow.mono_l k).2 _ _
        have e1 : s.size - 1 + 1 = s.size := by omega
        rw [e1] at this
        exact m1 _ _ this
      rw [if_neg (by decide), h2, hf, ws_cons, hb, if_pos (by decide)]
  refine ⟨s.size + 2, ?_⟩
  rw [if_neg c0, if_pos (by omega)]
  by_cases h32 : bt s 0 > 32
  · rw [if_pos h32]
    have hb : wsB (bt s 0) = false := by
      unfold wsB
      simp only [Bool.or_eq_false_iff, beq_eq_false_iff_ne]
      omega
    rw [hf, ws_cons, hb, if_neg (by decide), ← hf]
    exact congrArg some e0
  rw [if_neg h32]
  unfold fastjson_skipWSSlow.f
  rw [if_neg c0, if_pos (by omega)]
  by_cases h1 : bt s 0 = 32
  · rw [if_pos h1, hsl false (by rw [h1]; rfl)]; rfl
  rw [if_neg h1]
  by_cases h2 : bt s 0 = 10
  · rw [if_pos h2, hsl false (by rw [h2]; rfl)]; rfl
  rw [if_neg h2]
  by_cases h3 : bt s 0 = 9
  · rw [if_pos h3, hsl false (by rw [h3]; rfl)]; rfl
  rw [if_neg h3]
  have hb : wsB (bt s 0) = !(bt s 0 != 13) := by
    unfold wsB
    rw [beq_eq_false_iff_ne.mpr h1, beq_eq_false_iff_ne.mpr h2, beq_eq_false_iff_ne.mpr h3]
    cases e : (bt s 0 == 13) <;> simp [bne, e]
  rw [hsl (bt s 0 != 13) hb]; rfl
theorem ws_any (s : ByteArray) (w : World) (hs : s.size ≤ 100000) : Calls Tryz.prog 77 #[.string s] w fun e w' => e = .returned (.string (strOfNums (ws (bytesOf s)))) ∧ Drawn0 w w' := by
  obtain ⟨k, hk⟩ := ws_f s hs
  exact fastjson_skipWS.calls k s _ w hk
theorem fold_l0 (s t : ByteArray) (hs : s.size ≤ 100000) (hst : s.size = t.size) : ∀ (m i : Nat), i + m = s.size → fastjson_zzFold.l0 (2 * m + 1) s t (i : Int) = some ((from_ s i).map low == from_ t i) := by
  intro m
  induction m with
  | zero =>
    intro i h
    obtain rfl : i = s.size := by omega
    rw [from_end', hst, from_end', fastjson_zzFold.l0, if_neg (by omega)]; rfl
  | succ m ih =>
    intro i h
    have hw : wrap64 ((i : Int) + 1) = ((i + 1 : Nat) : Int) := by rw [w64 (by omega) (by omega)]; rfl
    have ih2 := ih (i + 1) (by omega)
    have hb := bytesOf_range s (bt s (i : Int)) (by have := from_cons' s i (by omega); exact List.mem_of_mem_drop (by unfold from_ at this; rw [this]; exact List.mem_cons_self))
    have j : ∀ b, (b = true ↔ 65 ≤ bt s (i : Int) ∧ bt s (i : Int) ≤ 90) → fastjson_zzFold.j1 (2 * m + 2) s t (i : Int) (bt s (i : Int)) b = some ((from_ s i).map low == from_ t i) := fun b hbb => by
      rw [fastjson_zzFold.j1, hw, ih2, from_cons' s i (by omega), from_cons' t i (by omega), List.map_cons, List.cons_beq_cons]
      simp only [if_pos (show (0 : Int) ≤ i by omega), if_pos (show (i : Int) < t.size by omega)]
      cases b with
      | true =>
        have hr := hbb.1 rfl
        have hl : low (bt s (i : Int)) = bt s (i : Int) + 32 := by unfold low; rw [if_pos hr]
        rw [if_pos rfl, hl, show (bt s (i : Int) + 32) % 256 = bt s (i : Int) + 32 by omega]
        by_cases e : bt s (i : Int) + 32 = bt t (i : Int)
        · rw [if_pos e, beq_iff_eq.mpr e, Bool.true_and]
        · rw [if_neg e, beq_eq_false_iff_ne.mpr e, Bool.false_and]
      | false =>
        have hl : low (bt s (i : Int)) = bt s (i : Int) := by unfold low; rw [if_neg]; intro hr; have := hbb.2 hr; cases this
        rw [if_neg (by decide), hl]
        by_cases e : bt s (i : Int) = bt t (i : Int)
        · rw [if_pos e, beq_iff_eq.mpr e, Bool.true_and]
        · rw [if_neg e, beq_eq_false_iff_ne.mpr e, Bool.false_and]
    rw [show 2 * (m + 1) + 1 = (2 * m + 2) + 1 by omega, fastjson_zzFold.l0, if_pos (by omega), if_pos (by omega)]
    by_cases h65 : 65 ≤ bt s (i : Int)
    · rw [if_pos h65, j _ (by simp [h65])]
    · rw [if_neg h65, j _ (by simp [h65])]
theorem fold_any (s t : ByteArray) (w : World) (hs : s.size ≤ 100000) (hst : s.size = t.size) : Calls Tryz.prog 96 #[.string s, .string t] w fun e w' => e = .returned (.bool ((bytesOf s).map low == bytesOf t)) ∧ Drawn0 w w' := by
  refine fastjson_zzFold.calls (2 * s.size + 1) s t _ w ?_
  unfold fastjson_zzFold.f
  rw [if_pos (by omega)]
  exact fold_l0 s t hs hst s.size 0 (by omega)
/-- An error of errors.New. -/
abbrev eI (N : Nat) : Value := .iface 127 (.pointer (some ⟨N, 0, none⟩))
theorem new_any (s : ByteArray) (w : World) : Calls Tryz.prog 54 #[.string s] w fun e w' => (∃ N, e = .returned (eI N)) ∧ Below w.heap.size w w' := by
  go_enter Tryz.func54, Tryz.ntmps54
  go_wp2
  go_ret
  refine ⟨⟨_, rfl⟩, ?_⟩
  first
    | exact (Below.refl _ _).alloc (Nat.le_refl _) _
    | exact below_set (below_alloc (Below.refl _ _) _) (Nat.le_refl _)
end Go.Proofs.YtcaigeikdnoheaaGreatDoor.Fp
