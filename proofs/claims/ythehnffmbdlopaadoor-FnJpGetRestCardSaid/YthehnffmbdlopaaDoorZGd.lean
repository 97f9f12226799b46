/- Several texts in one. -/
import Derived.Test.YthehnffmbdlopaaDoorZGa
import Derived.Test.YthehnffmbdlopaaDoorZGc
import Derived.Lib.ParseIntB
set_option linter.unusedVariables false
namespace Go.Proofs.YthehnffmbdlopaaDoor.J

end Go.Proofs.YthehnffmbdlopaaDoor.J

set_option linter.unusedVariables false
set_option linter.unusedSimpArgs false
namespace Go.Proofs.YthehnffmbdlopaaDoor.Fp
open Go.RowKit Go.Proofs.YthehnffmbdlopaaDoor.J

mutual
inductive T where
  | leaf (t : Int) (s : L)
  | arr (l : TL)
  | obj (l : OL)
inductive TL where
  | nil
  | cons (t : T) (l : TL)
inductive OL where
  | nil
  | cons (k : L) (t : T) (l : OL)
end
def TL.len : TL → Nat
  | .nil => 0
  | .cons _ l => l.len + 1
def OL.len : OL → Nat
  | .nil => 0
  | .cons _ _ l => l.len + 1
def TL.snoc : TL → T → TL
  | .nil, t => .cons t .nil
  | .cons u l, t => .cons u (l.snoc t)
def OL.snoc : OL → L → T → OL
  | .nil, k, t => .cons k t .nil
  | .cons j u l, k, t => .cons j u (l.snoc k t)
def wsB (c : Int) : Bool := c == 32 || c == 10 || c == 9 || c == 13
def ws (l : L) : L := l.dropWhile wsB
/-- What a raw string goes up to: the first quotation mark ahead of which no odd number of backslashes stands. -/
def rs : Bool → L → Option (L × L)
  | _, [] => none
  | o, c :: t =>
    if c = 34 ∧ o = false then some ([], t) else (rs (c == 92 && !o) t).map fun x => (c :: x.1, x.2)
theorem rs_len : ∀ (l : L) (o : Bool) (a r : L), rs o l = some (a, r) → a.length + r.length + 1 = l.length
  | [], o, a, r, h => by cases h
  | c :: t, o, a, r, h => by
    rw [rs] at h
    split at h
    · injection h with h; injection h with h1 h2; subst h1; subst h2; simp
    · cases e : rs (c == 92 && !o) t with
      | none => rw [e] at h; cases h
      | some x =>
        rw [e] at h
        injection h with h; injection h with h1 h2; subst h1; subst h2
        have := rs_len t _ x.1 x.2 e
        simp only [List.length_cons]; omega
def nb (c : Int) : Bool := (decide (48 ≤ c) && decide (c ≤ 57)) || c == 46 || c == 45 || c == 101 || c == 69 || c == 43
def low (c : Int) : Int := if 65 ≤ c ∧ c ≤ 90 then c + 32 else c
def fold3 (w l : L) : Bool := decide (3 ≤ l.length) && ((l.take 3).map low == w)
def wInf : L := [105, 110, 102]
def wNan : L := [110, 97, 110]
def odd3 (l : L) : Bool := fold3 wInf l || fold3 wNan l
/-- A number as Parse takes it. -/
def num (l : L) : Option (L × L) :=
  let a := l.takeWhile nb
  let r := l.dropWhile nb
  if r = [] then some (l, [])
  else if a = [] then (if odd3 r then some (r.take 3, r.drop 3) else none)
  else if a = [45] ∨ a = [43] then (if odd3 r then some (a ++ r.take 3, r.drop 3) else none)
  else some (a, r)
def wTrue : L := [116, 114, 117, 101]
def wFalse : L := [102, 97, 108, 115, 101]
def wNull : L := [110, 117, 108, 108]
def arr0 (f : L → Option (TL × L)) (l : L) : Option (T × L) :=
  match ws l with
  | [] => none
  | c :: q => if c = 93 then some (.arr .nil, q) else (f (c :: q)).map fun x => (.arr x.1, x.2)
def obj0 (f : L → Option (OL × L)) (l : L) : Option (T × L) :=
  match ws l with
  | [] => none
  | c :: q => if c = 125 then some (.obj .nil, q) else (f (c :: q)).map fun x => (.obj x.1, x.2)
mutual
/-- A value at a depth. -/
def pv : Nat → Nat → L → Option (T × L)
  | 0, _, _ => none
  | n + 1, d, l =>
    match l with
    | [] => none
    | c :: t =>
      if 300 < d + 1 then none
      else if c = 123 then obj0 (po n (d + 1)) t
      else if c = 91 then arr0 (pa n (d + 1)) t
      else if c = 34 then (rs false t).map fun x => (.leaf 7 x.1, x.2)
      else if c = 116 then (if (c :: t).take 4 = wTrue then some (.leaf 5 [], (c :: t).drop 4) else none)
      else if c = 102 then (if (c :: t).take 5 = wFalse then some (.leaf 6 [], (c :: t).drop 5) else none)
      else if c = 110 then (if (c :: t).take 4 = wNull then some (.leaf 0 [], (c :: t).drop 4) else if fold3 wNan (c :: t) then some (.leaf 4 ((c :: t).take 3), (c :: t).drop 3) else none)
      else (num (c :: t)).map fun x => (.leaf 4 x.1, x.2)
/-- The elements of an array. -/
def pa : Nat → Nat → L → Option (TL × L)
  | 0, _, _ => none
  | n + 1, d, l =>
    match pv n d (ws l) with
    | none => none
    | some (t, r) =>
      match ws r with
      | [] => none
      | c :: q => if c = 44 then (pa n d q).map fun x => (.cons t x.1, x.2) else if c = 93 then some (.cons t .nil, q) else none
/-- The members of an object. -/
def po : Nat → Nat → L → Option (OL × L)
  | 0, _, _ => none
  | n + 1, d, l =>
    match ws l with
    | [] => none
    | c :: q =>
      if c = 34 then
        match rs false q with
        | none => none
        | some (k, r) =>
          match ws r with
          | [] => none
          | c2 :: q2 =>
            if c2 = 58 then
              match pv n d (ws q2) with
              | none => none
              | some (t, r2) =>
                match ws r2 with
                | [] => none
                | c3 :: q3 => if c3 = 44 then (po n d q3).map fun x => (.cons k t x.1, x.2) else if c3 = 125 then some (.cons k t .nil, q3) else none
            else none
      else none
end
/-- What MarshalTo writes. -/
def word (t : Int) : L := if t = 5 then wTrue else if t = 6 then wFalse else wNull
mutual
def out : T → L
  | .leaf t s => if t = 7 then 34 :: (s ++ [34]) else if t = 4 then s else word t
  | .arr l => 91 :: (outL l ++ [93])
  | .obj l => 123 :: (outO l ++ [125])
def outL : TL → L
  | .nil => []
  | .cons t .nil => out t
  | .cons t l => out t ++ 44 :: outL l
def outO : OL → L
  | .nil => []
  | .cons k t .nil => 34 :: (k ++ 34 :: 58 :: out t)
  | .cons k t l => 34 :: (k ++ 34 :: 58 :: (out t ++ 44 :: outO l))
end
end Go.Proofs.YthehnffmbdlopaaDoor.Fp

set_option linter.unusedVariables false
set_option linter.unusedSimpArgs false
namespace Go.Proofs.YthehnffmbdlopaaDoor.Fp
open Go.RowKit Go.Proofs.YthehnffmbdlopaaDoor.J

/-- The shape of a number: a sign, digits, what is behind them. -/
structure Nm (l sg ds fr r : L) : Prop where
  eq : l = sg ++ (ds ++ (fr ++ r))
  hsg : sg = [] ∨ sg = [45]
  ne : ds ≠ []
  dg : ∀ c ∈ ds, dig c = true
  hfr : ∀ c ∈ fr, nb c = true
  hhd : ∀ c t, fr = c :: t → dig c = false
  lz : ds = [48] ∨ ∀ t, ds ≠ 48 :: t
theorem digs_pre2 : ∀ l : L, ∃ d, l = d ++ digs l ∧ ∀ c ∈ d, dig c = true
  | [] => ⟨[], rfl, fun c h => by cases h⟩
  | c :: t => by
    rw [digs]
    split
    · rename_i h
      obtain ⟨d, e, hd⟩ := digs_pre2 t
      exact ⟨c :: d, by rw [List.cons_append, ← e], fun x hx => by rcases List.mem_cons.1 hx with rfl | hx; exact h; exact hd x hx⟩
    · exact ⟨[], rfl, fun c h => by cases h⟩
theorem digits_pre2 {l r : L} (h : digits l = some r) : ∃ d, l = d ++ r ∧ d ≠ [] ∧ ∀ c ∈ d, dig c = true := by
  cases l with
  | nil => simp [digits] at h
  | cons c t =>
    rw [digits] at h
    split at h
    · rename_i hc
      injection h with h
      obtain ⟨d, e, hd⟩ := digs_pre2 t
      exact ⟨c :: d, by rw [List.cons_append, ← h, ← e], by simp, fun x hx => by rcases List.mem_cons.1 hx with rfl | hx; exact hc; exact hd x hx⟩
    · cases h
theorem nb_dig {c : Int} (h : dig c = true) : nb c = true := by unfold dig at h; unfold nb; rw [h]; rfl
theorem opt_pre (c : Int) (l : L) : ∃ d, l = d ++ opt c l ∧ (d = [] ∨ d = [c]) := by
  unfold opt
  cases h : J.take c l with
  | none => exact ⟨[], rfl, .inl rfl⟩
  | some t => exact ⟨[c], by rw [take_some h]; rfl, .inr rfl⟩
theorem expTail_pre {l r : L} (h : expTail l = some r) : ∃ d, l = d ++ r ∧ ∀ c ∈ d, nb c = true := by
  unfold expTail at h
  cases h1 : J.take 43 l with
  | some u =>
    rw [h1] at h
    obtain ⟨d, e, _, hd⟩ := digits_pre2 h
    refine ⟨43 :: d, by rw [take_some h1, e]; rfl, fun c hc => ?_⟩
    rcases List.mem_cons.1 hc with rfl | hc
    · rfl
    · exact nb_dig (hd c hc)
  | none =>
    rw [h1] at h
    obtain ⟨s, es, hs⟩ := opt_pre 45 l
    obtain ⟨d, e, _, hd⟩ := digits_pre2 h
    refine ⟨s ++ d, by rw [List.append_assoc, ← e]; exact es, fun c hc => ?_⟩
    rcases List.mem_append.1 hc with hc | hc
    · rcases hs with rfl | rfl
      · cases hc
      · rw [List.mem_singleton.1 hc]; rfl
    · exact nb_dig (hd c hc)
theorem expo_pre {l r : L} (h : expo l = some r) : ∃ d, l = d ++ r ∧ (∀ c ∈ d, nb c = true) ∧ ∀ c t, d = c :: t → c = 101 ∨ c = 69 := by
  unfold expo at h
  cases h1 : J.take 101 l with
  | some t =>
    rw [h1] at h
    obtain ⟨d, e, hd⟩ := expTail_pre h
    refine ⟨101 :: d, by rw [take_some h1, e]; rfl, fun c hc => ?_, fun c t' he => by injection he with he; exact .inl he.symm⟩
    rcases List.mem_cons.1 hc with rfl | hc
    · rfl
    · exact hd c hc
  | none =>
    rw [h1] at h
    cases h2 : J.take 69 l with
    | some t =>
      rw [h2] at h
      obtain ⟨d, e, hd⟩ := expTail_pre h
      refine ⟨69 :: d, by rw [take_some h2, e]; rfl, fun c hc => ?_, fun c t' he => by injection he with he; exact .inr he.symm⟩
      rcases List.mem_cons.1 hc with rfl | hc
      · rfl
      · exact hd c hc
    | none =>
      rw [h2] at h
      injection h with h
      exact ⟨[], by rw [h]; rfl, (fun c hc => by cases hc), (fun c t he => by cases he)⟩
theorem frac_pre {l r : L} (h : frac l = some r) : ∃ d, l = d ++ r ∧ (∀ c ∈ d, nb c = true) ∧ ∀ c t, d = c :: t → dig c = false := by
  unfold frac at h
  cases h1 : J.take 46 l with
  | some t =>
    rw [h1] at h
    obtain ⟨u, hu, h⟩ := Option.bind_eq_some_iff.1 h
    obtain ⟨d, e, _, hd⟩ := digits_pre2 hu
    obtain ⟨d2, e2, hd2, _⟩ := expo_pre h
    refine ⟨46 :: (d ++ d2), by rw [take_some h1, e, e2]; simp, fun c hc => ?_, fun c t' he => by injection he with he; subst he; rfl⟩
    rcases List.mem_cons.1 hc with rfl | hc
    · rfl
    rcases List.mem_append.1 hc with hc | hc
    · exact nb_dig (hd c hc)
    · exact hd2 c hc
  | none =>
    rw [h1] at h
    obtain ⟨d, e, hd, hh⟩ := expo_pre h
    exact ⟨d, e, hd, fun c t he => by rcases hh c t he with rfl | rfl <;> rfl⟩
theorem num_shape {l r : L} (h : J.num l = some r) : ∃ sg ds fr, Nm l sg ds fr r := by
  unfold J.num at h
  obtain ⟨u, hu, h⟩ := Option.bind_eq_some_iff.1 h
  obtain ⟨sg, es, hs⟩ := opt_pre 45 l
  obtain ⟨fr, ef, hf, hh⟩ := frac_pre h
  unfold whole at hu
  cases h1 : J.take 48 (opt 45 l) with
  | some t =>
    rw [h1] at hu
    injection hu with hu
    refine ⟨sg, [48], fr, ⟨?_, hs, by simp, fun c hc => by rw [List.mem_singleton.1 hc]; rfl, hf, hh, .inl rfl⟩⟩
    rw [← ef, ← hu]
    exact es.trans (by rw [take_some h1]; rfl)
  | none =>
    rw [h1] at hu
    obtain ⟨ds, ed, hne, hd⟩ := digits_pre2 hu
    refine ⟨sg, ds, fr, ⟨by rw [← ef, ← ed]; exact es, hs, hne, hd, hf, hh, .inr ?_⟩⟩
    rintro t rfl
    rw [ed, List.cons_append, J.take, if_pos rfl] at h1
    cases h1
theorem Nm.all {l sg ds fr r : L} (h : Nm l sg ds fr r) : ∀ c ∈ sg ++ (ds ++ fr), nb c = true := by
  intro c hc
  rcases List.mem_append.1 hc with hc | hc
  · rcases h.hsg with e | e
    · rw [e] at hc; cases hc
    · rw [e] at hc; rw [List.mem_singleton.1 hc]; rfl
  rcases List.mem_append.1 hc with hc | hc
  · exact nb_dig (h.dg c hc)
  · exact h.hfr c hc
end Go.Proofs.YthehnffmbdlopaaDoor.Fp

set_option linter.unusedVariables false
set_option linter.unusedSimpArgs false
namespace Go.Proofs.YthehnffmbdlopaaDoor.Fp
open Go.RowKit Go.Proofs.YthehnffmbdlopaaDoor.J

end Go.Proofs.YthehnffmbdlopaaDoor.Fp

set_option linter.unusedVariables false
set_option linter.unusedSimpArgs false
namespace Go.Proofs.YthehnffmbdlopaaDoor.Fp
open Go.RowKit Go.Proofs.YthehnffmbdlopaaDoorW.PrintWords Go.Proofs.YthehnffmbdlopaaDoorW.PrintMore Go.Proofs.YthehnffmbdlopaaDoor.Aid Go.Proofs.YthehnffmbdlopaaDoor.J

mutual
/-- How many levels a place has. -/
def lv : Pl → Nat
  | ⟨_, _, _, _, ks⟩ => lvs ks + 1
def lvs : List Pl → Nat
  | [] => 0
  | p :: ks => max (lv p) (lvs ks)
end

theorem rs_plain {c : Int} (t : L) (h34 : c ≠ 34) (h92 : c ≠ 92) : rs false (c :: t) = (rs false t).map fun x => (c :: x.1, x.2) := by
  rw [rs, if_neg (by simp [h34]), beq_false_of_ne h92]; rfl
theorem rs_any (c : Int) (t : L) : rs true (c :: t) = (rs false t).map fun x => (c :: x.1, x.2) := by
  rw [rs, if_neg (by simp)]
  congr 1
  cases c == 92 <;> rfl
theorem rs_bs (t : L) : rs false (92 :: t) = (rs true t).map fun x => (92 :: x.1, x.2) := by
  rw [rs, if_neg (by decide)]; rfl
theorem hex_ne {c : Int} (h : hex c = true) : c ≠ 34 ∧ c ≠ 92 := by
  unfold hex dig at h
  simp at h
  omega
theorem rs_hexes : ∀ (n : Nat) (t u : L) (a r : L), hexes n t = some u → rs false u = some (a, r) → ∃ e, rs false t = some (e ++ a, r) ∧ t = e ++ u
  | 0, t, u, a, r, h, hr => by simp only [hexes, Option.some.injEq] at h; subst h; exact ⟨[], hr, rfl⟩
  | n + 1, [], u, a, r, h, hr => by simp [hexes] at h
  | n + 1, c :: t, u, a, r, h, hr => by
    simp only [hexes] at h
    split at h
    · rename_i hc
      obtain ⟨e, h1, h2⟩ := rs_hexes n t u a r h hr
      exact ⟨c :: e, by rw [rs_plain t (hex_ne hc).1 (hex_ne hc).2, h1]; rfl, by rw [h2]; rfl⟩
    · cases h
theorem str_rs : ∀ (n : Nat) (l r : L), l.length = n → str l = some r → ∃ a, rs false l = some (a, r) ∧ l = a ++ 34 :: r := by
  intro n
  induction n using Nat.strongRecOn with
  | _ n ih =>
    intro l r hn h
    cases l with
    | nil => rw [str_nil] at h; cases h
    | cons c t =>
      rw [str_cons] at h
      split at h
      · rename_i hc
        injection h with h; subst h; subst hc
        exact ⟨[], by rw [rs, if_pos ⟨rfl, rfl⟩], rfl⟩
      rename_i h34
      split at h
      · cases h
      rename_i h32
      split at h
      · rename_i h92
        subst h92
        obtain ⟨u, hu, hg⟩ := Option.bind_eq_some_iff.1 h
        have h1 := esc_lt hu
        obtain ⟨a, ha, el⟩ := ih u.length (by simp only [List.length_cons] at hn; omega) u r rfl hg
        cases t with
        | nil => simp [esc] at hu
        | cons d t =>
          simp only [esc] at hu
          split at hu
          · injection hu with hu; subst hu
            exact ⟨92 :: d :: a, by rw [rs_bs, rs_any, ha]; rfl, by rw [el]; rfl⟩
          · split at hu
            · obtain ⟨e, h2, h3⟩ := rs_hexes 4 t u a r hu ha
              exact ⟨92 :: d :: (e ++ a), by rw [rs_bs, rs_any, h2]; rfl, by rw [h3, el]; simp⟩
            · cases hu
      · rename_i h92
        obtain ⟨a, ha, el⟩ := ih t.length (by simp only [List.length_cons] at hn; omega) t r rfl h
        exact ⟨c :: a, by rw [rs_plain t h34 h92, ha]; rfl, by rw [el]; rfl⟩

theorem word_take {w l r : L} (h : J.word w l = some r) : l = w ++ r := by
  unfold J.word at h
  split at h
  · rename_i hp
    injection h with h; subst h
    obtain ⟨z, hz⟩ := List.isPrefixOf_iff_prefix.1 hp
    rw [← hz, List.drop_left]
  · cases h
end Go.Proofs.YthehnffmbdlopaaDoor.Fp

set_option linter.unusedVariables false
set_option linter.unusedSimpArgs false
namespace Go.Proofs.YthehnffmbdlopaaDoor.Fp
open Go.RowKit Go.Proofs.YthehnffmbdlopaaDoorW.PrintWords Go.Proofs.YthehnffmbdlopaaDoorW.PrintLast Go.Proofs.YthehnffmbdlopaaDoorW.PrintMore Go.Proofs.YthehnffmbdlopaaDoor.Aid Go.Proofs.YthehnffmbdlopaaDoor.J

def dstep (a c : Int) : Int := a * 10 + (c - 48)
/-- The number that digits give. -/
def dval (l : L) : Int := l.foldl dstep 0
theorem dig_iff {c : Int} : dig c = true ↔ 48 ≤ c ∧ c ≤ 57 := by unfold dig; simp
end Go.Proofs.YthehnffmbdlopaaDoor.Fp

set_option linter.unusedVariables false
set_option linter.unusedSimpArgs false
namespace Go.Proofs.YthehnffmbdlopaaDoor.Jp
open Go.RowKit Go.Proofs.YthehnffmbdlopaaDoorW.PrintWords Go.Proofs.YthehnffmbdlopaaDoor.Aid Go.Proofs.YthehnffmbdlopaaDoor.J

/-- What stands behind the bracket that closes a block. -/
def be (op cl : Int) (lv : Int) (l : L) : Option L :=
  match l with
  | [] => none
  | c :: t =>
    if c = 34 then (match h : Fp.rs false t with
      | some x => be op cl lv x.2
      | none => none)
    else if c = op then be op cl (lv + 1) t
    else if c = cl then (if lv = 1 then some t else be op cl (lv - 1) t)
    else be op cl lv t
termination_by l.length
decreasing_by
  · have := Fp.rs_len t false x.1 x.2 h; simp only [List.length_cons]; omega
  all_goals simp

theorem be_nil (op cl lv : Int) : be op cl lv [] = none := by rw [be]
theorem be_cons (op cl lv c : Int) (t : L) : be op cl lv (c :: t) = if c = 34 then (Fp.rs false t).bind (fun x => be op cl lv x.2) else if c = op then be op cl (lv + 1) t else if c = cl then (if lv = 1 then some t else be op cl (lv - 1) t) else be op cl lv t := by
  rw [be]
  split
  · split <;> simp [*]
  · rfl
theorem be_str {op cl lv : Int} {t : L} : be op cl lv (34 :: t) = (Fp.rs false t).bind (fun x => be op cl lv x.2) := by rw [be_cons, if_pos rfl]
theorem be_lt : ∀ (n : Nat) (op cl lv : Int) (l r : L), l.length ≤ n → be op cl lv l = some r → r.length < l.length := by
  intro n
  induction n with
  | zero =>
    intro op cl lv l r hn h
    obtain rfl : l = [] := List.eq_nil_of_length_eq_zero (by omega)
    rw [be_nil] at h; cases h
  | succ n ih =>
    intro op cl lv l r hn h
    cases l with
    | nil => rw [be_nil] at h; cases h
    | cons c t =>
      simp only [List.length_cons] at hn ⊢
      rw [be_cons] at h
      split at h
      · obtain ⟨x, hx, h⟩ := Option.bind_eq_some_iff.1 h
        have h1 := Fp.rs_len t false x.1 x.2 hx
        have h2 := ih op cl lv x.2 r (by omega) h
        omega
      split at h
      · have h2 := ih op cl _ t r (by omega) h; omega
      split at h
      · split at h
        · injection h with h; subst h; omega
        · have h2 := ih op cl _ t r (by omega) h; omega
      · have h2 := ih op cl lv t r (by omega) h; omega
theorem be_lt' {op cl lv : Int} {l r : L} (h : be op cl lv l = some r) : r.length < l.length := be_lt _ op cl lv l r (Nat.le_refl _) h

/-- What the search for keys gives: something that is not spoken of here, nothing, or what stands behind the last colon. -/
inductive SR where
  | out
  | no
  | yes (r : L)

/-- The characters of a name. -/
def kn (k : L) : Option L := if 92 ∈ k then pu k else some k
def idx (keys : List ByteArray) (lv : Int) : Bool := decide (lv < 0) || (bytesOf (keys.getD lv.toNat ⟨#[]⟩)).head? == some 91

/-- The search for keys at a level, of which so many are found; the last name met was the sought one, or not. -/
def sk (keys : List ByteArray) (lv kl : Int) (lm : Bool) (l : L) : SR :=
  match l with
  | [] => .no
  | c :: t =>
    if c = 34 then (match h : Fp.rs false t with
      | none => .no
      | some x => match h2 : skip x.2 with
        | [] => .no
        | d :: u =>
          if d = 58 then
            if lv < 1 then .no
            else match kn x.1 with
              | none => .no
              | some k =>
                if lv ≤ keys.length then
                  if strOfNums k = keys.getD (lv - 1).toNat ⟨#[]⟩ then
                    if kl = lv - 1 then (if kl + 1 = keys.length then .yes u else sk keys lv (kl + 1) true u) else sk keys lv kl true u
                  else sk keys lv kl false u
                else .no
          else sk keys lv kl lm (d :: u))
    else if c = 123 then
      if lm = true then sk keys (lv + 1) kl lm t
      else (match h : be 123 125 0 (123 :: t) with
        | none => .no
        | some r => sk keys lv kl lm r)
    else if c = 125 then sk keys (lv - 1) (if lv - 1 = kl then kl - 1 else kl) lm t
    else if c = 91 then
      if kl = lv ∧ idx keys lv = true then .out
      else (match h : be 91 93 0 (91 :: t) with
        | none => .no
        | some r => sk keys lv kl lm r)
    else if c = 58 then .no
    else sk keys lv kl lm t
termination_by l.length
decreasing_by
  all_goals try (have h0 := Fp.rs_len t false x.1 x.2 h; have h1 := skip_le x.2; rw [h2] at h1; simp only [List.length_cons] at h1 ⊢; omega)
  all_goals try (have h0 := be_lt' h; simp only [List.length_cons] at h0 ⊢; omega)
  all_goals simp only [List.length_cons]; omega

/-- The state behind a string that is read. -/
def sk1 (keys : List ByteArray) (lv kl : Int) (lm : Bool) (k0 : L) (r : L) : SR :=
  match r with
  | [] => .no
  | d :: u =>
    if d = 58 then
      if lv < 1 then .no
      else match kn k0 with
        | none => .no
        | some k =>
          if lv ≤ keys.length then
            if strOfNums k = keys.getD (lv - 1).toNat ⟨#[]⟩ then
              if kl = lv - 1 then (if kl + 1 = keys.length then .yes u else sk keys lv (kl + 1) true u) else sk keys lv kl true u
            else sk keys lv kl false u
          else .no
    else sk keys lv kl lm (d :: u)
theorem sk_nil (keys : List ByteArray) (lv kl : Int) (lm : Bool) : sk keys lv kl lm [] = .no := by rw [sk]
theorem sk_str (keys : List ByteArray) (lv kl : Int) (lm : Bool) (t : L) : sk keys lv kl lm (34 :: t) = match Fp.rs false t with
    | none => .no
    | some x => sk1 keys lv kl lm x.1 (skip x.2) := by
  rw [sk, if_pos rfl]
  split
  · rename_i h; rw [h]
  · rename_i x h
    rw [h]
    simp only []
    unfold sk1
    split <;> rename_i h2
    · rw [h2]
    · rw [h2]
theorem sk_open (keys : List ByteArray) (lv kl : Int) (t : L) : sk keys lv kl true (123 :: t) = sk keys (lv + 1) kl true t := by
  rw [sk, if_neg (by decide), if_pos rfl, if_pos rfl]
theorem sk_over (keys : List ByteArray) (lv kl : Int) (t : L) : sk keys lv kl false (123 :: t) = match be 123 125 0 (123 :: t) with
    | none => .no
    | some r => sk keys lv kl false r := by
  rw [sk, if_neg (by decide), if_pos rfl, if_neg (by decide)]
  split <;> rename_i h <;> rw [h]
theorem sk_close (keys : List ByteArray) (lv kl : Int) (lm : Bool) (t : L) : sk keys lv kl lm (125 :: t) = sk keys (lv - 1) (if lv - 1 = kl then kl - 1 else kl) lm t := by
  rw [sk, if_neg (by decide), if_neg (by decide), if_pos rfl]
theorem sk_arr (keys : List ByteArray) (lv kl : Int) (lm : Bool) (t : L) : sk keys lv kl lm (91 :: t) = if kl = lv ∧ idx keys lv = true then .out else match be 91 93 0 (91 :: t) with
    | none => .no
    | some r => sk keys lv kl lm r := by
  rw [sk, if_neg (by decide), if_neg (by decide), if_neg (by decide), if_pos rfl]
  split
  · rfl
  · split <;> rename_i h <;> rw [h]
theorem sk_colon (keys : List ByteArray) (lv kl : Int) (lm : Bool) (t : L) : sk keys lv kl lm (58 :: t) = .no := by
  rw [sk, if_neg (by decide), if_neg (by decide), if_neg (by decide), if_neg (by decide), if_pos rfl]
theorem sk_else (keys : List ByteArray) (lv kl : Int) (lm : Bool) {c : Int} (t : L) (h1 : c ≠ 34) (h2 : c ≠ 123) (h3 : c ≠ 125) (h4 : c ≠ 91) (h5 : c ≠ 58) : sk keys lv kl lm (c :: t) = sk keys lv kl lm t := by
  rw [sk, if_neg h1, if_neg h2, if_neg h3, if_neg h4, if_neg h5]

end Go.Proofs.YthehnffmbdlopaaDoor.Jp

set_option linter.unusedVariables false
set_option linter.unusedSimpArgs false
namespace Go.Proofs.YthehnffmbdlopaaDoor.Jp
open Go.RowKit Go.Proofs.YthehnffmbdlopaaDoorW.PrintWords Go.Proofs.YthehnffmbdlopaaDoor.Aid Go.Proofs.YthehnffmbdlopaaDoor.J

def calm (c : Int) : Bool := c != 34 && c != 91 && c != 93 && c != 123 && c != 125 && c != 58
theorem calm_iff {c : Int} : calm c = true ↔ c ≠ 34 ∧ c ≠ 91 ∧ c ≠ 93 ∧ c ≠ 123 ∧ c ≠ 125 ∧ c ≠ 58 := by simp [calm, and_assoc]
theorem calm_blank {c : Int} (h : J.blank c = true) : calm c = true := by
  simp only [J.blank, Bool.or_eq_true, beq_iff_eq] at h
  rw [calm_iff]; omega
theorem calm_nb {c : Int} (h : Fp.nb c = true) : calm c = true := by
  simp only [Fp.nb, Bool.or_eq_true, Bool.and_eq_true, decide_eq_true_eq, beq_iff_eq] at h
  rw [calm_iff]; omega
def Sq (op cl : Int) : Prop := (op = 123 ∧ cl = 125) ∨ (op = 91 ∧ cl = 93)
theorem Sq.ne {op cl : Int} (h : Sq op cl) : op ≠ 34 ∧ cl ≠ 34 ∧ op ≠ cl := by rcases h with ⟨rfl, rfl⟩ | ⟨rfl, rfl⟩ <;> decide
theorem be_other {op cl lv c : Int} (t : L) (h1 : c ≠ 34) (h2 : c ≠ op) (h3 : c ≠ cl) : be op cl lv (c :: t) = be op cl lv t := by rw [be_cons, if_neg h1, if_neg h2, if_neg h3]
theorem be_open {op cl lv : Int} (t : L) (h : Sq op cl) : be op cl lv (op :: t) = be op cl (lv + 1) t := by rw [be_cons, if_neg h.ne.1, if_pos rfl]
theorem be_close {op cl lv : Int} (t : L) (h : Sq op cl) : be op cl lv (cl :: t) = if lv = 1 then some t else be op cl (lv - 1) t := by rw [be_cons, if_neg h.ne.2.1, if_neg (fun e => h.ne.2.2 e.symm), if_pos rfl]
theorem be_calm {op cl lv : Int} (h : Sq op cl) : ∀ (d r : L), (∀ c ∈ d, calm c = true) → be op cl lv (d ++ r) = be op cl lv r
  | [], r, _ => rfl
  | c :: d, r, hd => by
    have hc := calm_iff.1 (hd c (List.mem_cons_self ..))
    rw [List.cons_append, be_other _ hc.1 (by rcases h with ⟨rfl, rfl⟩ | ⟨rfl, rfl⟩ <;> omega) (by rcases h with ⟨rfl, rfl⟩ | ⟨rfl, rfl⟩ <;> omega)]
    exact be_calm h d r (fun c hc => hd c (List.mem_cons_of_mem _ hc))
theorem skip_pre : ∀ l : L, ∃ d, l = d ++ skip l ∧ ∀ c ∈ d, J.blank c = true
  | [] => ⟨[], rfl, fun c h => by cases h⟩
  | c :: t => by
    rw [skip]
    split
    · rename_i h
      obtain ⟨d, h1, h2⟩ := skip_pre t
      refine ⟨c :: d, by rw [List.cons_append, ← h1], fun x hx => ?_⟩
      rcases List.mem_cons.1 hx with rfl | hx
      · exact h
      · exact h2 x hx
    · exact ⟨[], rfl, fun c h => by cases h⟩
theorem be_skip {op cl lv : Int} (h : Sq op cl) (l : L) : be op cl lv (skip l) = be op cl lv l := by
  obtain ⟨d, h1, h2⟩ := skip_pre l
  exact ((congrArg (be op cl lv) h1).trans (be_calm h d _ (fun c hc => calm_blank (h2 c hc)))).symm
theorem sk_calm {keys : List ByteArray} {lv kl : Int} {lm : Bool} : ∀ (d r : L), (∀ c ∈ d, calm c = true) → sk keys lv kl lm (d ++ r) = sk keys lv kl lm r
  | [], r, _ => rfl
  | c :: d, r, hd => by
    have hc := calm_iff.1 (hd c (List.mem_cons_self ..))
    rw [List.cons_append, sk_else _ _ _ _ _ hc.1 hc.2.2.2.1 hc.2.2.2.2.1 hc.2.1 hc.2.2.2.2.2]
    exact sk_calm d r (fun c hc => hd c (List.mem_cons_of_mem _ hc))
theorem sk_skip {keys : List ByteArray} {lv kl : Int} {lm : Bool} (l : L) : sk keys lv kl lm (skip l) = sk keys lv kl lm l := by
  obtain ⟨d, h1, h2⟩ := skip_pre l
  exact ((congrArg (sk keys lv kl lm) h1).trans (sk_calm d _ (fun c hc => calm_blank (h2 c hc)))).symm

/-- A value's text that is no string, array, object: bytes without brackets and marks. -/
def Leaf (k : Int) (d : L) : Prop := d ≠ [] ∧ (∀ c ∈ d, calm c = true ∧ J.blank c = false ∧ c ≠ 44) ∧ ((k = 3 ∧ (d.headD 0 = 45 ∨ dig (d.headD 0) = true)) ∨ (k = 0 ∧ d = nullW) ∨ (k = 1 ∧ d = falseW) ∨ (k = 2 ∧ d = trueW))
theorem val_cases {N n : Nat} {l : L} {x : Pl × L} (h : val N (n + 1) l = some x) :
    (∃ t y, l = 123 :: t ∧ obj N (val N n) t = some (y, x.2) ∧ x.1 = ⟨6, pos N l, pos N x.2, y.1, y.2⟩) ∨
    (∃ t y, l = 91 :: t ∧ arr (val N n) t = some (y, x.2) ∧ x.1 = ⟨5, pos N l, pos N x.2, [], y⟩) ∨
    (∃ t, l = 34 :: t ∧ str t = some x.2 ∧ x.1 = ⟨4, pos N l, pos N x.2, [], []⟩) ∨
    (∃ k d, l = d ++ x.2 ∧ Leaf k d ∧ x.1 = ⟨k, pos N l, pos N x.2, [], []⟩) := by
  cases l with
  | nil => simp [val] at h
  | cons c t =>
    have pre : ∀ (w r : L), J.word w (c :: t) = some r → c :: t = w ++ r := fun w r hw => Fp.word_take hw
    simp only [val] at h
    split at h
    · rename_i hc
      obtain ⟨y, hy, rfl⟩ := Option.map_eq_some_iff.1 h
      exact .inl ⟨t, y.1, by rw [hc], hy, rfl⟩
    split at h
    · rename_i hc
      obtain ⟨y, hy, rfl⟩ := Option.map_eq_some_iff.1 h
      exact .inr (.inl ⟨t, y.1, by rw [hc], hy, rfl⟩)
    split at h
    · rename_i hc
      obtain ⟨y, hy, rfl⟩ := Option.map_eq_some_iff.1 h
      exact .inr (.inr (.inl ⟨t, by rw [hc], hy, rfl⟩))
    refine .inr (.inr (.inr ?_))
    split at h
    · rename_i hc
      obtain ⟨y, hy, rfl⟩ := Option.map_eq_some_iff.1 h
      obtain ⟨sg, ds, fr, hn⟩ := Fp.num_shape hy
      have hne : sg ++ (ds ++ fr) ≠ [] := by intro e; exact hn.ne (List.append_eq_nil_iff.1 (List.append_eq_nil_iff.1 e).2).1
      have he : c :: t = (sg ++ (ds ++ fr)) ++ y := by rw [hn.eq]; simp
      refine ⟨3, sg ++ (ds ++ fr), he, ⟨hne, fun x hx => ?_, .inl ⟨rfl, ?_⟩⟩, rfl⟩
      · have hb := hn.all x hx
        refine ⟨calm_nb hb, ?_, ?_⟩
        · simp only [Fp.nb, Bool.or_eq_true, Bool.and_eq_true, decide_eq_true_eq, beq_iff_eq] at hb
          simp only [J.blank, Bool.or_eq_false_iff, beq_eq_false_iff_ne]; omega
        · rintro rfl; revert hb; decide
      · cases hd : sg ++ (ds ++ fr) with
        | nil => exact absurd hd hne
        | cons a b =>
          rw [hd, List.cons_append] at he
          injection he with h1 h2
          rw [List.headD_cons, ← h1]; exact hc
    have lf : ∀ (k : Int) (w : L), (∀ c ∈ w, calm c = true ∧ J.blank c = false ∧ c ≠ 44) → w ≠ [] → ((k = 3 ∧ (w.headD 0 = 45 ∨ dig (w.headD 0) = true)) ∨ (k = 0 ∧ w = nullW) ∨ (k = 1 ∧ w = falseW) ∨ (k = 2 ∧ w = trueW)) → Leaf k w := fun k w h1 h2 h3 => ⟨h2, h1, h3⟩
    split at h
    · rename_i r hr
      injection h with h; subst h
      exact ⟨0, nullW, pre _ _ hr, lf _ _ (by decide) (by decide) (by simp), rfl⟩
    split at h
    · rename_i r hr
      injection h with h; subst h
      exact ⟨1, falseW, pre _ _ hr, lf _ _ (by decide) (by decide) (by simp), rfl⟩
    split at h
    · rename_i r hr
      injection h with h; subst h
      exact ⟨2, trueW, pre _ _ hr, lf _ _ (by decide) (by decide) (by simp), rfl⟩
    · cases h

def VB (v : L → Option (Pl × L)) : Prop := ∀ op cl lv l x, Sq op cl → 1 ≤ lv → v l = some x → be op cl lv l = be op cl lv x.2
theorem be_one {op cl lv c : Int} (h : Sq op cl) (t : L) (hc : c = 44 ∨ c = 58) : be op cl lv (c :: t) = be op cl lv t :=
  be_other t (by omega) (by rcases h with ⟨rfl, rfl⟩ | ⟨rfl, rfl⟩ <;> omega) (by rcases h with ⟨rfl, rfl⟩ | ⟨rfl, rfl⟩ <;> omega)
theorem be_strg {op cl lv : Int} {t r : L} (h : str t = some r) : be op cl lv (34 :: t) = be op cl lv r := by
  obtain ⟨a, h1, h2⟩ := Fp.str_rs _ t r rfl h
  rw [be_str, h1]; rfl
theorem elems_be {v : L → Option (Pl × L)} (hv : VB v) {op cl lv : Int} (hs : Sq op cl) (hl : 1 ≤ lv) : ∀ (m : Nat) (l : L) (acc : List Pl) (x : List Pl × L), elems v m l acc = some x → be op cl lv l = be op cl lv (93 :: x.2)
  | 0, _, _, _, h => by simp [elems] at h
  | m + 1, l, acc, x, h => by
    simp only [elems] at h
    obtain ⟨y, hy, h⟩ := Option.bind_eq_some_iff.1 h
    rw [hv op cl lv l y hs hl hy, ← be_skip hs y.2]
    split at h
    · rename_i t ht
      injection h with h; subst h
      rw [take_some ht]
    · obtain ⟨t, ht, h⟩ := Option.bind_eq_some_iff.1 h
      rw [take_some ht, be_one hs t (.inl rfl), ← be_skip hs t]
      exact elems_be hv hs hl m _ _ _ h
theorem mems_be {N : Nat} {v : L → Option (Pl × L)} (hv : VB v) {op cl lv : Int} (hs : Sq op cl) (hl : 1 ≤ lv) : ∀ (m : Nat) (l : L) (ns : List Sp) (ks : List Pl) (x : (List Sp × List Pl) × L), mems N v m l ns ks = some x → be op cl lv l = be op cl lv (125 :: x.2)
  | 0, _, _, _, _, h => by simp [mems] at h
  | m + 1, l, ns, ks, x, h => by
    simp only [mems] at h
    obtain ⟨t, ht, h⟩ := Option.bind_eq_some_iff.1 h
    obtain ⟨l1, h1, h⟩ := Option.bind_eq_some_iff.1 h
    obtain ⟨l2, h2, h⟩ := Option.bind_eq_some_iff.1 h
    obtain ⟨y, hy, h⟩ := Option.bind_eq_some_iff.1 h
    rw [take_some ht, be_strg h1, ← be_skip hs l1, take_some h2, be_one hs l2 (.inr rfl), ← be_skip hs l2, hv op cl lv _ y hs hl hy, ← be_skip hs y.2]
    split at h
    · rename_i t2 ht2
      injection h with h; subst h
      rw [take_some ht2]
    · obtain ⟨u, hu, h⟩ := Option.bind_eq_some_iff.1 h
      rw [take_some hu, be_one hs u (.inl rfl), ← be_skip hs u]
      exact mems_be hv hs hl m _ _ _ _ h
theorem arr_be {v : L → Option (Pl × L)} (hv : VB v) {op cl lv : Int} (hs : Sq op cl) (hl : 1 ≤ lv) {t : L} {x : List Pl × L} (h : arr v t = some x) : be op cl lv t = be op cl lv (93 :: x.2) := by
  unfold arr at h
  rw [← be_skip hs t]
  split at h
  · rename_i t' ht
    injection h with h; subst h
    rw [take_some ht]
  · exact elems_be hv hs hl _ _ _ _ h
theorem obj_be {N : Nat} {v : L → Option (Pl × L)} (hv : VB v) {op cl lv : Int} (hs : Sq op cl) (hl : 1 ≤ lv) {t : L} {x : (List Sp × List Pl) × L} (h : obj N v t = some x) : be op cl lv t = be op cl lv (125 :: x.2) := by
  unfold obj at h
  rw [← be_skip hs t]
  split at h
  · rename_i t' ht
    injection h with h; subst h
    rw [take_some ht]
  · exact mems_be hv hs hl _ _ _ _ _ h
theorem val_be (N : Nat) : ∀ n, VB (val N n)
  | 0 => fun op cl lv l x hs hl h => by simp [val] at h
  | n + 1 => fun op cl lv l x hs hl h => by
    rcases val_cases h with ⟨t, y, rfl, hy, _⟩ | ⟨t, y, rfl, hy, _⟩ | ⟨t, rfl, hy, _⟩ | ⟨k, d, hl', hd, _⟩
    · rcases hs with ⟨rfl, rfl⟩ | ⟨rfl, rfl⟩
      · have hs : Sq 123 125 := .inl ⟨rfl, rfl⟩
        rw [be_open t hs, obj_be (val_be N n) hs (by omega) hy, be_close _ hs, if_neg (by omega), show lv + 1 - 1 = lv by omega]
      · have hs : Sq 91 93 := .inr ⟨rfl, rfl⟩
        rw [be_other t (by decide) (by decide) (by decide), obj_be (val_be N n) hs hl hy, be_other _ (by decide) (by decide) (by decide)]
    · rcases hs with ⟨rfl, rfl⟩ | ⟨rfl, rfl⟩
      · have hs : Sq 123 125 := .inl ⟨rfl, rfl⟩
        rw [be_other t (by decide) (by decide) (by decide), arr_be (val_be N n) hs hl hy, be_other _ (by decide) (by decide) (by decide)]
      · have hs : Sq 91 93 := .inr ⟨rfl, rfl⟩
        rw [be_open t hs, arr_be (val_be N n) hs (by omega) hy, be_close _ hs, if_neg (by omega), show lv + 1 - 1 = lv by omega]
    · exact be_strg hy
    · rw [hl']; exact be_calm hs d _ (fun c hc => (hd.2.1 c hc).1)
/-- An object, an array: the block goes up to its end. -/
theorem obj_block {N n : Nat} {t : L} {x : (List Sp × List Pl) × L} (h : obj N (val N n) t = some x) : be 123 125 0 (123 :: t) = some x.2 := by
  have hs : Sq 123 125 := .inl ⟨rfl, rfl⟩
  rw [be_open t hs, obj_be (val_be N n) hs (by omega) h, be_close _ hs, if_pos (by omega)]
theorem arr_block {N n : Nat} {t : L} {x : List Pl × L} (h : arr (val N n) t = some x) : be 91 93 0 (91 :: t) = some x.2 := by
  have hs : Sq 91 93 := .inr ⟨rfl, rfl⟩
  rw [be_open t hs, arr_be (val_be N n) hs (by omega) h, be_close _ hs, if_pos (by omega)]

/-- What stands behind a value in an object. -/
def Fol (r : L) : Prop := ∃ c u, skip r = c :: u ∧ (c = 44 ∨ c = 125)
theorem sk_passed {keys : List ByteArray} {lv kl : Int} (hk : kl ≠ lv) {N n : Nat} {l : L} {x : Pl × L} (h : val N n l = some x) (hf : Fol x.2) : sk keys lv kl false l = sk keys lv kl false x.2 := by
  cases n with
  | zero => simp [val] at h
  | succ n =>
    rcases val_cases h with ⟨t, y, rfl, hy, _⟩ | ⟨t, y, rfl, hy, _⟩ | ⟨t, rfl, hy, _⟩ | ⟨k, d, hl', hd, _⟩
    · rw [sk_over, obj_block hy]
    · rw [sk_arr, if_neg (fun e => hk e.1), arr_block hy]
    · obtain ⟨a, h1, h2⟩ := Fp.str_rs _ t _ rfl hy
      rw [sk_str, h1]
      simp only []
      obtain ⟨c, u, h3, h4⟩ := hf
      rw [h3]
      unfold sk1
      simp only []
      rw [if_neg (by omega), ← h3, sk_skip]
    · rw [hl']; exact sk_calm d _ (fun c hc => (hd.2.1 c hc).1)
theorem mems_pre {N : Nat} {v : L → Option (Pl × L)} : ∀ (m : Nat) (l : L) (ns : List Sp) (ks : List Pl) (x : (List Sp × List Pl) × L), mems N v m l ns ks = some x → ∃ a b, x.1.1 = ns ++ a ∧ x.1.2 = ks ++ b ∧ a.length = b.length
  | 0, _, _, _, _, h => by simp [mems] at h
  | m + 1, l, ns, ks, x, h => by
    simp only [mems] at h
    obtain ⟨t, ht, h⟩ := Option.bind_eq_some_iff.1 h
    obtain ⟨l1, h1, h⟩ := Option.bind_eq_some_iff.1 h
    obtain ⟨l2, h2, h⟩ := Option.bind_eq_some_iff.1 h
    obtain ⟨y, hy, h⟩ := Option.bind_eq_some_iff.1 h
    split at h
    · rename_i t2 ht2
      injection h with h; subst h
      exact ⟨[_], [_], rfl, rfl, rfl⟩
    · obtain ⟨u, hu, h⟩ := Option.bind_eq_some_iff.1 h
      obtain ⟨a, b, e1, e2, e3⟩ := mems_pre m _ _ _ _ h
      exact ⟨_ :: a, _ :: b, by rw [e1, List.append_assoc]; rfl, by rw [e2, List.append_assoc]; rfl, by rw [List.length_cons, List.length_cons, e3]⟩

/-- The name of an object's member is what the search compares. -/
theorem kn_well {a : L} (hw : wellE a = true) : kn a = some (unq a) := by
  unfold kn
  split
  · rw [pu_eq]; unfold unesc; rw [if_pos hw]
  · rename_i h
    have : ∀ l : L, 92 ∉ l → unq l = l := by
      intro l
      induction l with
      | nil => intro _; rw [unq_nil]
      | cons c t ih => intro h; rw [List.mem_cons, not_or] at h; rw [unq_plain t (fun e => h.1 e.symm), ih h.2]
    rw [this a h]
theorem key_eq {s : ByteArray} {t r a : L} (hs : 34 :: t <:+ bytesOf s) (e : t = a ++ 34 :: r) : key s ⟨pos s.size (34 :: t), pos s.size r⟩ = strOfNums (unq a) := by
  have h := sl_quote hs e
  unfold key quo
  show strOfNums (unq (((bytesOf (cut s (pos s.size (34 :: t)) (pos s.size r))).drop 1).take _)) = _
  have h2 : (cut s (pos s.size (34 :: t)) (pos s.size r)).size = a.length + 2 := by rw [← bytesOf_length, h]; simp
  rw [h, h2]
  simp

end Go.Proofs.YthehnffmbdlopaaDoor.Jp

set_option linter.unusedVariables false
set_option linter.unusedSimpArgs false
namespace Go.Proofs.YthehnffmbdlopaaDoor.Jp
open Go.RowKit Go.Proofs.YthehnffmbdlopaaDoorW.PrintWords Go.Proofs.YthehnffmbdlopaaDoor.Aid Go.Proofs.YthehnffmbdlopaaDoor.J

/-- The place of the first name. -/
def fidx (k : ByteArray) : List ByteArray → Option Nat
  | [] => none
  | x :: xs => if x = k then some 0 else (fidx k xs).map (· + 1)
theorem fidx_lt {k : ByteArray} : ∀ {xs : List ByteArray} {i : Nat}, fidx k xs = some i → i < xs.length ∧ xs[i]? = some k
  | [], i, h => by cases h
  | x :: xs, i, h => by
    rw [fidx] at h
    split at h
    · rename_i e
      injection h with h; subst h
      exact ⟨by simp, by rw [e]; rfl⟩
    · obtain ⟨j, hj, e⟩ := Option.map_eq_some_iff.1 h
      subst e
      obtain ⟨h1, h2⟩ := fidx_lt hj
      exact ⟨by simp; omega, by simpa using h2⟩
theorem keyc (K : ByteArray) {a : List ByteArray} (b : List ByteArray) (h : K ∉ a) : fidx K (a ++ b) = (fidx K b).map (· + a.length) := by
  induction a with
  | nil => simp
  | cons x t ih =>
    rw [List.mem_cons, not_or] at h
    rw [List.cons_append, fidx, if_neg (fun e => h.1 e.symm), ih h.2, Option.map_map]
    congr 1

/-- The search in an object's members finds the first of a name. -/
theorem mems_sk {s : ByteArray} {n : Nat} {keys : List ByteArray} {lv : Int} (h1 : 1 ≤ lv) (hl : lv ≤ keys.length) (K : ByteArray) (hK : keys.getD (lv - 1).toNat ⟨#[]⟩ = K) :
    ∀ (m : Nat) (l : L) (ns : List Sp) (ks : List Pl) (x : (List Sp × List Pl) × L), l <:+ bytesOf s → mems s.size (val s.size n) m l ns ks = some x → ns.length = ks.length → K ∉ ns.map (key s) →
      ∀ k, fidx K (x.1.1.map (key s)) = some k → ∃ u q r, u <:+ l ∧ u ≠ l ∧ val s.size n (skip u) = some (q, r) ∧ x.1.2[k]? = some q ∧ Fol r ∧ ∀ lm, sk keys lv (lv - 1) lm l = if lv = keys.length then .yes u else sk keys lv lv true u
  | 0, _, _, _, _, _, h, _, _ => by simp [mems] at h
  | m + 1, l, ns, ks, x, hs, h, hlen, hnot => by
    intro k hk
    simp only [mems] at h
    obtain ⟨t, ht, h⟩ := Option.bind_eq_some_iff.1 h
    obtain ⟨l1, g1, h⟩ := Option.bind_eq_some_iff.1 h
    obtain ⟨l2, g2, h⟩ := Option.bind_eq_some_iff.1 h
    obtain ⟨y, hy, h⟩ := Option.bind_eq_some_iff.1 h
    have el := take_some ht
    subst el
    obtain ⟨a, e1, e2⟩ := Fp.str_rs _ t l1 rfl g1
    obtain ⟨d, f1, f2, f3⟩ := str_cut g1
    obtain rfl : a = d := by
      have := e2.symm.trans f1
      exact (List.append_inj' this (by simp)).1
    have hkey := key_eq hs e2
    have el2 := take_some g2
    have suf : l2 <:+ 34 :: t := (by
      have q1 : l1 <:+ t := str_suf g1
      have q2 : l2 <:+ l1 := (by have := skip_suf l1; rw [el2] at this; exact (List.suffix_cons _ _).trans this)
      exact q2.trans (q1.trans (List.suffix_cons _ _)))
    have sne : l2 ≠ 34 :: t := (by
      intro e
      have q0 := congrArg List.length e
      have q1 := str_lt' g1; have q2 := skip_le l1; rw [el2] at q2
      simp only [List.length_cons] at q0 q2; omega)
    have hfol : Fol y.2 := by
      split at h
      · rename_i t2 ht2; exact ⟨125, t2, take_some ht2, .inr rfl⟩
      · obtain ⟨u, hu, h⟩ := Option.bind_eq_some_iff.1 h
        exact ⟨44, u, take_some hu, .inl rfl⟩
    have step : ∀ lm, sk keys lv (lv - 1) lm (34 :: t) = if strOfNums (unq a) = K then (if lv = keys.length then .yes l2 else sk keys lv lv true l2) else sk keys lv (lv - 1) false l2 := by
      intro lm
      rw [sk_str, e1]
      simp only []
      rw [el2]
      unfold sk1
      simp only [if_true, kn_well f2]
      rw [if_neg (by omega), if_pos hl, hK, show lv - 1 + 1 = lv by omega]
    by_cases hq : strOfNums (unq a) = K
    · -- found
      have pre : ∃ a' b', x.1.1 = ns ++ ⟨pos s.size (34 :: t), pos s.size l1⟩ :: a' ∧ x.1.2 = ks ++ y.1 :: b' := by
        split at h
        · rename_i t2 ht2
          injection h with h; subst h
          exact ⟨[], [], rfl, rfl⟩
        · obtain ⟨u, hu, h⟩ := Option.bind_eq_some_iff.1 h
          obtain ⟨a', b', q1, q2, _⟩ := mems_pre _ _ _ _ _ h
          exact ⟨a', b', by rw [q1]; simp, by rw [q2]; simp⟩
      obtain ⟨a', b', q1, q2⟩ := pre
      rw [q1, List.map_append, keyc K _ hnot, List.map_cons, hkey, fidx, if_pos hq, Option.map_some] at hk
      have hk' := Option.some.inj hk
      rw [List.length_map, Nat.zero_add] at hk'
      subst hk'
      refine ⟨l2, y.1, y.2, suf, sne, hy, ?_, hfol, fun lm => ?_⟩
      · rw [q2, hlen, List.getElem?_append_right (Nat.le_refl _), Nat.sub_self]; rfl
      · rw [step lm, if_pos hq]
    · have hnot' : K ∉ (ns ++ [(⟨pos s.size (34 :: t), pos s.size l1⟩ : Sp)]).map (key s) := by
        rw [List.map_append, List.mem_append, not_or, List.map_cons, hkey]
        refine ⟨hnot, ?_⟩
        simp only [List.map_nil, List.mem_singleton]
        exact fun e => hq e.symm
      have hsuf2 : y.2 <:+ l2 := ((val_okT s n _ _ (((skip_suf l2).trans suf).trans hs) hy).1).trans (skip_suf l2)
      split at h
      · rename_i t2 ht2
        injection h with h; subst h
        have : fidx K ((ns ++ [(⟨pos s.size (34 :: t), pos s.size l1⟩ : Sp)]).map (key s)) = none := by
          have := keyc K [] hnot'
          simpa [fidx] using this
        rw [this] at hk; cases hk
      · obtain ⟨u, hu, h⟩ := Option.bind_eq_some_iff.1 h
        have eu := take_some hu
        have su : u <:+ y.2 := (by have := skip_suf y.2; rw [eu] at this; exact (List.suffix_cons _ _).trans this)
        have s1 : skip u <:+ 34 :: t := (skip_suf u).trans (su.trans (hsuf2.trans suf))
        obtain ⟨u', q, r, r1, r1', r2, r3, r4, r5⟩ := mems_sk h1 hl K hK m (skip u) _ _ x (s1.trans hs) h (by simp [hlen]) hnot' k hk
        refine ⟨u', q, r, r1.trans s1, fun e => ?_, r2, r3, r4, fun lm => ?_⟩
        · have z1 := r1.length_le
          have z2 := s1.length_le
          have z3 := congrArg List.length e
          have z4 := skip_le u; have z5 := su.length_le; have z6 := hsuf2.length_le
          have z7 := suf.length_le
          have z8 : l2.length ≠ (34 :: t).length := fun e => sne (suf.eq_of_length e)
          omega
        · rw [step lm, if_neg hq, ← sk_skip l2, sk_passed (by omega) hy hfol, ← sk_skip y.2, eu, sk_else _ _ _ _ _ (by decide) (by decide) (by decide) (by decide) (by decide), ← sk_skip u]
          exact r5 false

/-- The index that a key "[n]" gives. -/
def dgv (l : L) : Nat := (l.foldl (fun a c => a * 10 + (c - 48)) 0).toNat
def inB (k : ByteArray) : L := ((bytesOf k).drop 1).take ((bytesOf k).length - 2)
def brk (k : ByteArray) : Option Nat :=
  if 3 ≤ (bytesOf k).length ∧ (bytesOf k).head? = some 91 ∧ (bytesOf k).getLast? = some 93 ∧ (inB k).all dig = true ∧ ((inB k).length > 1 → (inB k).head? ≠ some 48) then some (dgv (inB k)) else none
def step (s : ByteArray) (p : Pl) (K : ByteArray) : Option Pl :=
  if p.kind = 6 then (fidx K (p.names.map (key s))).bind fun k => p.kids[k]?
  else if p.kind = 5 then (brk K).bind fun k => p.kids[k]? else none
def seek (s : ByteArray) (p : Pl) : List ByteArray → Option Pl
  | [] => some p
  | K :: ks => (step s p K).bind fun q => seek s q ks
def nameK (K : ByteArray) : Bool := (bytesOf K).head? != some 91
theorem brk_name {K : ByteArray} (h : nameK K = true) : brk K = none := by
  unfold brk
  rw [if_neg]
  intro e
  unfold nameK at h
  rw [e.2.1] at h
  exact absurd h (by decide)

/-- By names alone the search comes to the value. -/
theorem seek_sk {s : ByteArray} {keys : List ByteArray} (hn : ∀ K ∈ keys, nameK K = true) : ∀ (rest : List ByteArray) (d n : Nat) (l : L) (p q : Pl) (r : L), keys.drop d = rest → rest ≠ [] → l <:+ bytesOf s → val s.size n l = some (p, r) → seek s p rest = some q →
    ∃ u n' r', u <:+ l ∧ u ≠ l ∧ sk keys d d true l = .yes u ∧ val s.size n' (skip u) = some (q, r') ∧ Fol r'
  | [], _, _, _, _, _, _, _, h, _, _, _ => absurd rfl h
  | K :: rest, d, n, l, p, q, r, hd, _, hs, hv, hq => by
    have hdl : d < keys.length := by
      rcases Nat.lt_or_ge d keys.length with h | h
      · exact h
      · rw [List.drop_eq_nil_of_le h] at hd; cases hd
    have hdc := List.drop_eq_getElem_cons hdl
    rw [hd] at hdc
    injection hdc with hK hrest
    cases n with
    | zero => simp [val] at hv
    | succ n =>
      rw [seek] at hq
      obtain ⟨p1, hp1, hq⟩ := Option.bind_eq_some_iff.1 hq
      unfold step at hp1
      have hb : brk K = none := brk_name (hn K (by rw [hK]; exact List.getElem_mem _))
      rw [hb] at hp1
      rcases val_cases hv with ⟨t, y, rfl, hy, ep⟩ | ⟨t, y, rfl, hy, ep⟩ | ⟨t, rfl, hy, ep⟩ | ⟨k, dd, hl', hdl', ep⟩
      · simp only [] at ep
        subst ep
        simp only [if_true] at hp1
        obtain ⟨k, hk, hp1⟩ := Option.bind_eq_some_iff.1 hp1
        unfold obj at hy
        split at hy
        · injection hy with hy
          injection hy with h1 h2
          subst h1
          cases hk
        · have hst : skip t <:+ 123 :: t := (skip_suf t).trans (List.suffix_cons _ _)
          have hgd : keys.getD (((d : Int) + 1) - 1).toNat ⟨#[]⟩ = K := by
            rw [show (((d : Int) + 1) - 1).toNat = d by omega, List.getD_eq_getElem?_getD, List.getElem?_eq_getElem hdl, Option.getD_some, hK]
          obtain ⟨u, q1, r1, a1, a2, a3, a4, a5, a6⟩ := mems_sk (s := s) (n := n) (keys := keys) (lv := (d : Int) + 1) (by omega) (by omega) K hgd _ _ _ _ _ (hst.trans hs) hy rfl (by simp) k hk
          have e1 : sk keys d d true (123 :: t) = if (d : Int) + 1 = keys.length then .yes u else sk keys ((d : Int) + 1) ((d : Int) + 1) true u := by
            rw [sk_open, ← sk_skip t]
            have := a6 true
            rwa [show (d : Int) + 1 - 1 = d by omega] at this
          obtain rfl : q1 = p1 := Option.some.inj (a4.symm.trans hp1)
          have hul : u <:+ 123 :: t := a1.trans hst
          have hne : u ≠ 123 :: t := fun e => by
            have z1 := a1.length_le; have z2 := skip_le t; rw [e] at z1; simp only [List.length_cons] at z1; omega
          cases rest with
          | nil =>
            injection hq with hq; subst hq
            have hlen : (d : Int) + 1 = keys.length := by
              have := congrArg List.length hd
              rw [List.length_drop] at this
              simp only [List.length_cons, List.length_nil] at this; omega
            exact ⟨u, n, r1, hul, hne, by rw [e1, if_pos hlen], a3, a5⟩
          | cons K2 rest2 =>
            have hlen : ¬ (d : Int) + 1 = keys.length := by
              have := congrArg List.length hd
              rw [List.length_drop] at this
              simp only [List.length_cons] at this; omega
            obtain ⟨u2, n2, r2, b1, b2, b3, b4, b5⟩ := seek_sk hn (K2 :: rest2) (d + 1) n (skip u) q1 q r1 hrest.symm (by simp) ((skip_suf u).trans (hul.trans hs)) a3 hq
            refine ⟨u2, n2, r2, b1.trans ((skip_suf u).trans hul), fun e => ?_, ?_, b4, b5⟩
            · have z1 := b1.length_le; have z2 := skip_le u; have z3 := a1.length_le; have z4 := skip_le t; rw [e] at z1; simp only [List.length_cons] at z1; omega
            · rw [e1, if_neg hlen, ← sk_skip u]; exact b3
      · simp only [] at ep; subst ep; rw [if_neg (by simp)] at hp1; split at hp1 <;> cases hp1
      · simp only [] at ep; subst ep; rw [if_neg (by simp)] at hp1; split at hp1 <;> cases hp1
      · simp only [] at ep; subst ep
        have hk6 : k ≠ 6 ∧ k ≠ 5 := by rcases hdl'.2.2 with h | h | h | h <;> (rw [h.1]; decide)
        rw [if_neg hk6.1, if_neg hk6.2] at hp1; cases hp1

theorem rs_loc {o : Bool} {l k r : L} (h : Fp.rs o l = some (k, r)) : l = k ++ 34 :: r ∧ ∀ r', Fp.rs o (k ++ 34 :: r') = some (k, r') := by
  induction l generalizing o k with
  | nil => cases h
  | cons c t ih =>
    rw [Fp.rs] at h
    split at h
    · rename_i hc
      injection h with h; injection h with h1 h2; subst h1; subst h2
      exact ⟨by rw [hc.1]; rfl, fun r' => by rw [List.nil_append, Fp.rs, if_pos ⟨rfl, hc.2⟩]⟩
    · rename_i hc
      obtain ⟨y, hy, e⟩ := Option.map_eq_some_iff.1 h
      injection e with e1 e2
      subst e1; subst e2
      obtain ⟨g1, g2⟩ := ih hy
      refine ⟨by rw [List.cons_append, ← g1], fun r' => ?_⟩
      rw [List.cons_append, Fp.rs, if_neg hc, g2 r']; rfl
theorem be_loc {op cl : Int} : ∀ (n : Nat) (lv : Int) (l r : L), l.length ≤ n → be op cl lv l = some r → ∃ a, l = a ++ r ∧ ∀ r', be op cl lv (a ++ r') = some r' := by
  intro n
  induction n with
  | zero =>
    intro lv l r hn h
    obtain rfl : l = [] := List.eq_nil_of_length_eq_zero (by omega)
    rw [be_nil] at h; cases h
  | succ n ih =>
    intro lv l r hn h
    cases l with
    | nil => rw [be_nil] at h; cases h
    | cons c t =>
      simp only [List.length_cons] at hn
      rw [be_cons] at h
      split at h
      · rename_i hc; subst hc
        obtain ⟨x, hx, h⟩ := Option.bind_eq_some_iff.1 h
        have h1 := Fp.rs_len t false x.1 x.2 hx
        obtain ⟨g1, g2⟩ := rs_loc hx
        obtain ⟨a, e1, e2⟩ := ih lv x.2 r (by omega) h
        refine ⟨34 :: (x.1 ++ 34 :: a), by rw [g1, e1]; simp, fun r' => ?_⟩
        rw [List.cons_append, be_str, List.append_assoc, List.cons_append, g2]
        exact e2 r'
      rename_i hc
      split at h
      · rename_i hc2
        obtain ⟨a, e1, e2⟩ := ih _ t r (by omega) h
        exact ⟨c :: a, by rw [e1]; rfl, fun r' => by rw [List.cons_append, be_cons, if_neg hc, if_pos hc2]; exact e2 r'⟩
      rename_i hc2
      split at h
      · rename_i hc3
        split at h
        · rename_i hl
          injection h with h; subst h
          exact ⟨[c], rfl, fun r' => by rw [List.cons_append, be_cons, if_neg hc, if_neg hc2, if_pos hc3, if_pos hl]; rfl⟩
        · rename_i hl
          obtain ⟨a, e1, e2⟩ := ih _ t r (by omega) h
          exact ⟨c :: a, by rw [e1]; rfl, fun r' => by rw [List.cons_append, be_cons, if_neg hc, if_neg hc2, if_pos hc3, if_neg hl]; exact e2 r'⟩
      · rename_i hc3
        obtain ⟨a, e1, e2⟩ := ih _ t r (by omega) h
        exact ⟨c :: a, by rw [e1]; rfl, fun r' => by rw [List.cons_append, be_cons, if_neg hc, if_neg hc2, if_neg hc3]; exact e2 r'⟩
theorem skip_hd {l : L} {d : Int} {u : L} (h : skip l = d :: u) : J.blank d = false := by
  induction l with
  | nil => cases h
  | cons c t ih =>
    rw [skip] at h
    split at h
    · exact ih h
    · rename_i hc
      injection h with h1 h2; subst h1
      exact Bool.eq_false_iff.mpr hc
theorem skip_app : ∀ (b : L) {d : Int} (u : L), (∀ c ∈ b, J.blank c = true) → J.blank d = false → skip (b ++ d :: u) = d :: u
  | [], d, u, _, hd => by rw [List.nil_append, skip, if_neg (by rw [hd]; decide)]
  | c :: b, d, u, hb, hd => by
    rw [List.cons_append, skip, if_pos (hb c (List.mem_cons_self ..))]
    exact skip_app b u (fun c hc => hb c (List.mem_cons_of_mem _ hc)) hd
theorem skip_loc {l : L} {d : Int} {u : L} (h : skip l = d :: u) : ∃ b, l = b ++ d :: u ∧ ∀ u', skip (b ++ d :: u') = d :: u' := by
  obtain ⟨b, h1, h2⟩ := skip_pre l
  rw [h] at h1
  exact ⟨b, h1, fun u' => skip_app b u' h2 (skip_hd h)⟩
theorem sk_loc {keys : List ByteArray} : ∀ (n : Nat) (lv kl : Int) (lm : Bool) (l u : L), l.length ≤ n → sk keys lv kl lm l = .yes u → ∃ a, a ≠ [] ∧ l = a ++ u ∧ ∀ u', sk keys lv kl lm (a ++ u') = .yes u' := by
  intro n
  induction n with
  | zero =>
    intro lv kl lm l u hn h
    obtain rfl : l = [] := List.eq_nil_of_length_eq_zero (by omega)
    rw [sk_nil] at h; cases h
  | succ n ih =>
    intro lv kl lm l u hn h
    cases l with
    | nil => rw [sk_nil] at h; cases h
    | cons c t =>
      simp only [List.length_cons] at hn
      by_cases c1 : c = 34
      · subst c1
        rw [sk_str] at h
        cases hx : Fp.rs false t with
        | none => rw [hx] at h; cases h
        | some x =>
          rw [hx] at h
          simp only [] at h
          have h1 := Fp.rs_len t false x.1 x.2 hx
          obtain ⟨g1, g2⟩ := rs_loc hx
          have h2 := skip_le x.2
          cases hsx : skip x.2 with
          | nil => rw [hsx] at h; unfold sk1 at h; cases h
          | cons d w =>
            obtain ⟨b, e1, e2⟩ := skip_loc hsx
            rw [hsx] at h h2
            unfold sk1 at h
            simp only [List.length_cons] at h h2
            have eq1 : ∀ (a w' : L), (34 :: (x.1 ++ 34 :: (b ++ d :: a))) ++ w' = 34 :: (x.1 ++ 34 :: (b ++ d :: (a ++ w'))) := by intro a w'; simp
            have fin : ∀ (lv' kl' : Int) (lm' : Bool), sk keys lv' kl' lm' w = .yes u → (∀ w', sk keys lv kl lm (34 :: (x.1 ++ 34 :: (b ++ d :: w'))) = sk keys lv' kl' lm' w') → ∃ a, a ≠ [] ∧ 34 :: t = a ++ u ∧ ∀ u', sk keys lv kl lm (a ++ u') = .yes u' := by
              intro lv' kl' lm' hw hall
              obtain ⟨a, i0, i1, i2⟩ := ih _ _ _ w u (by omega) hw
              refine ⟨34 :: (x.1 ++ 34 :: (b ++ d :: a)), by simp, by rw [eq1, ← i1, ← e1, ← g1], fun u' => ?_⟩
              rw [eq1, hall, i2]
            have st : ∀ w', sk keys lv kl lm (34 :: (x.1 ++ 34 :: (b ++ d :: w'))) = sk1 keys lv kl lm x.1 (d :: w') := fun w' => by
              rw [sk_str, g2]; simp only []; rw [e2]
            split at h
            · rename_i hd
              split at h
              · cases h
              rename_i hlv
              cases hkn : kn x.1 with
              | none => rw [hkn] at h; cases h
              | some k =>
                rw [hkn] at h
                simp only [] at h
                split at h
                · rename_i hle
                  split at h
                  · rename_i hke
                    split at h
                    · rename_i hkl
                      split at h
                      · rename_i hlast
                        injection h with h; subst h
                        refine ⟨34 :: (x.1 ++ 34 :: (b ++ d :: [])), by simp, by rw [eq1, List.nil_append, ← e1, ← g1], fun u' => ?_⟩
                        rw [eq1, List.nil_append, st]
                        unfold sk1
                        simp only [if_pos hd, if_neg hlv, hkn, if_pos hle, if_pos hke, if_pos hkl, if_pos hlast]
                      · rename_i hlast
                        exact fin _ _ _ h fun w' => by rw [st]; unfold sk1; simp only [if_pos hd, if_neg hlv, hkn, if_pos hle, if_pos hke, if_pos hkl, if_neg hlast]
                    · rename_i hkl
                      exact fin _ _ _ h fun w' => by rw [st]; unfold sk1; simp only [if_pos hd, if_neg hlv, hkn, if_pos hle, if_pos hke, if_neg hkl]
                  · rename_i hke
                    exact fin _ _ _ h fun w' => by rw [st]; unfold sk1; simp only [if_pos hd, if_neg hlv, hkn, if_pos hle, if_neg hke]
                · cases h
            · rename_i hd
              obtain ⟨a, i0, i1, i2⟩ := ih _ _ _ (d :: w) u (by simp only [List.length_cons]; omega) h
              cases a with
              | nil => exact absurd rfl i0
              | cons a0 a =>
                rw [List.cons_append] at i1
                injection i1 with j1 j2
                subst j1
                refine ⟨34 :: (x.1 ++ 34 :: (b ++ d :: a)), by simp, by rw [eq1, ← j2, ← e1, ← g1], fun u' => ?_⟩
                rw [eq1, st]
                unfold sk1
                simp only [if_neg hd]
                have := i2 u'
                rwa [List.cons_append] at this
      by_cases c2 : c = 123
      · subst c2
        cases lm with
        | true =>
          rw [sk_open] at h
          obtain ⟨a, i0, i1, i2⟩ := ih _ _ _ t u (by omega) h
          exact ⟨123 :: a, by simp, by rw [i1]; rfl, fun u' => by rw [List.cons_append, sk_open, i2]⟩
        | false =>
          rw [sk_over] at h
          cases hb : be 123 125 0 (123 :: t) with
          | none => rw [hb] at h; cases h
          | some r =>
            rw [hb] at h
            simp only [] at h
            have hlt := be_lt' hb
            simp only [List.length_cons] at hlt
            obtain ⟨z, z1, z2⟩ := be_loc _ _ _ _ (Nat.le_refl _) hb
            obtain ⟨a, i0, i1, i2⟩ := ih _ _ _ r u (by omega) h
            cases z with
            | nil => rw [List.nil_append] at z1; have := congrArg List.length z1; simp only [List.length_cons] at this; omega
            | cons z0 z =>
              rw [List.cons_append] at z1
              injection z1 with j1 j2
              subst j1
              refine ⟨123 :: (z ++ a), by simp, by rw [List.cons_append, List.append_assoc, ← i1, ← j2], fun u' => ?_⟩
              rw [List.cons_append, sk_over, List.append_assoc]
              have := z2 (a ++ u')
              rw [List.cons_append] at this
              rw [this]
              exact i2 u'
      by_cases c3 : c = 125
      · subst c3
        rw [sk_close] at h
        obtain ⟨a, i0, i1, i2⟩ := ih _ _ _ t u (by omega) h
        exact ⟨125 :: a, by simp, by rw [i1]; rfl, fun u' => by rw [List.cons_append, sk_close, i2]⟩
      by_cases c4 : c = 91
      · subst c4
        rw [sk_arr] at h
        split at h
        · cases h
        rename_i hidx
        cases hb : be 91 93 0 (91 :: t) with
        | none => rw [hb] at h; cases h
        | some r =>
          rw [hb] at h
          simp only [] at h
          have hlt := be_lt' hb
          simp only [List.length_cons] at hlt
          obtain ⟨z, z1, z2⟩ := be_loc _ _ _ _ (Nat.le_refl _) hb
          obtain ⟨a, i0, i1, i2⟩ := ih _ _ _ r u (by omega) h
          cases z with
          | nil => rw [List.nil_append] at z1; have := congrArg List.length z1; simp only [List.length_cons] at this; omega
          | cons z0 z =>
            rw [List.cons_append] at z1
            injection z1 with j1 j2
            subst j1
            refine ⟨91 :: (z ++ a), by simp, by rw [List.cons_append, List.append_assoc, ← i1, ← j2], fun u' => ?_⟩
            rw [List.cons_append, sk_arr, if_neg hidx, List.append_assoc]
            have := z2 (a ++ u')
            rw [List.cons_append] at this
            rw [this]
            exact i2 u'
      by_cases c5 : c = 58
      · subst c5; rw [sk_colon] at h; cases h
      · rw [sk_else _ _ _ _ _ c1 c2 c3 c4 c5] at h
        obtain ⟨a, i0, i1, i2⟩ := ih _ _ _ t u (by omega) h
        exact ⟨c :: a, by simp, by rw [i1]; rfl, fun u' => by rw [List.cons_append, sk_else _ _ _ _ _ c1 c2 c3 c4 c5, i2]⟩

end Go.Proofs.YthehnffmbdlopaaDoor.Jp

set_option linter.unusedVariables false
set_option linter.unusedSimpArgs false
namespace Go.Proofs.YthehnffmbdlopaaDoor.Jp
open Go.RowKit Go.Proofs.YthehnffmbdlopaaDoorW.PrintWords Go.Proofs.YthehnffmbdlopaaDoor.Aid Go.Proofs.YthehnffmbdlopaaDoor.J

/-- What ends a number or a word. -/
def dlm (c : Int) : Bool := c == 32 || c == 10 || c == 13 || c == 9 || c == 44 || c == 125 || c == 93
def tok : L → L × L
  | [] => ([], [])
  | c :: t => if dlm c = true then ([], c :: t) else (c :: (tok t).1, (tok t).2)
theorem tok_eq : ∀ l : L, l = (tok l).1 ++ (tok l).2
  | [] => rfl
  | c :: t => by
    rw [tok]
    split
    · rfl
    · show c :: t = c :: ((tok t).1 ++ (tok t).2)
      rw [← tok_eq t]
theorem tok_app : ∀ (d r : L), (∀ c ∈ d, dlm c = false) → (r = [] ∨ ∃ c t, r = c :: t ∧ dlm c = true) → tok (d ++ r) = (d, r)
  | [], r, _, hr => by
    rcases hr with rfl | ⟨c, t, rfl, hc⟩
    · rfl
    · rw [List.nil_append, tok, if_pos hc]
  | c :: d, r, hd, hr => by
    rw [List.cons_append, tok, if_neg (by rw [hd c (List.mem_cons_self ..)]; decide), tok_app d r (fun c hc => hd c (List.mem_cons_of_mem _ hc)) hr]
/-- A value that is read, with its kind and what stands behind it; or an error: 1 a string's, 2 an array's, 3 an object's, 4 another's. -/
inductive GT where
  | bad (ty e : Int)
  | good (ty : Int) (r : L)
def gt : L → GT
  | [] => .bad 0 0
  | c :: t =>
    if c = 34 then (match Fp.rs false t with
      | none => .bad 1 1
      | some x => .good 1 x.2)
    else if c = 91 then (match be 91 93 0 (91 :: t) with
      | none => .bad 4 2
      | some r => .good 4 r)
    else if c = 123 then (match be 123 125 0 (123 :: t) with
      | none => .bad 3 3
      | some r => .good 3 r)
    else if c = 116 ∨ c = 102 then (if (tok (c :: t)).1 = trueW ∨ (tok (c :: t)).1 = falseW then .good 5 (tok (c :: t)).2 else .bad 7 4)
    else if c = 117 ∨ c = 110 then (if (tok (c :: t)).1 = nullW then .good 6 (tok (c :: t)).2 else .bad 7 4)
    else if c = 45 ∨ dig c = true then .good 2 (tok (c :: t)).2
    else .bad 7 4
/-- jsonparser's number for a kind. -/
def jk (k : Int) : Int := if k = 4 then 1 else if k = 3 then 2 else if k = 6 then 3 else if k = 5 then 4 else if k = 2 ∨ k = 1 then 5 else 6
theorem gt_leaf {k : Int} {d : L} (h : Leaf k d) {r : L} (hr : r = [] ∨ ∃ c t, r = c :: t ∧ dlm c = true) : gt (d ++ r) = .good (jk k) r := by
  have hd : ∀ c ∈ d, dlm c = false := by
    intro c hc
    obtain ⟨h1, h2, h3⟩ := h.2.1 c hc
    have h1 := calm_iff.1 h1
    simp only [J.blank, Bool.or_eq_false_iff, beq_eq_false_iff_ne] at h2
    simp only [dlm, Bool.or_eq_false_iff, beq_eq_false_iff_ne]; omega
  have ht := tok_app d r hd hr
  cases d with
  | nil => exact absurd rfl h.1
  | cons c t =>
    have hc := calm_iff.1 (h.2.1 c (List.mem_cons_self ..)).1
    rw [List.cons_append] at ht ⊢
    rw [gt, if_neg hc.1, if_neg hc.2.1, if_neg hc.2.2.2.1, ht]
    rcases h.2.2 with ⟨rfl, hh⟩ | ⟨rfl, hh⟩ | ⟨rfl, hh⟩ | ⟨rfl, hh⟩
    · rw [List.headD_cons] at hh
      have hn : ¬ (c = 116 ∨ c = 102) ∧ ¬ (c = 117 ∨ c = 110) := by
        rcases hh with hh | hh
        · omega
        · unfold dig at hh; simp at hh; omega
      rw [if_neg hn.1, if_neg hn.2, if_pos hh]; rfl
    · rw [hh]; unfold nullW at hh; injection hh with h1 h2; subst h1; rfl
    · rw [hh]; unfold falseW at hh; injection hh with h1 h2; subst h1; rfl
    · rw [hh]; unfold trueW at hh; injection hh with h1 h2; subst h1; rfl
/-- The text of a value, whatever stands behind it. -/
theorem val_gt {N n : Nat} {l : L} {x : Pl × L} (h : val N n l = some x) : ∃ d, l = d ++ x.2 ∧ (∃ c t, d = c :: t ∧ J.blank c = false) ∧ x.1.b = pos N l ∧ x.1.e = pos N x.2 ∧ (x.1.kind = 4 → ∃ a, d = 34 :: (a ++ [34])) ∧
    ∀ r', (r' = [] ∨ ∃ c t, r' = c :: t ∧ dlm c = true) → gt (d ++ r') = .good (jk x.1.kind) r' := by
  cases n with
  | zero => simp [val] at h
  | succ n =>
    rcases val_cases h with ⟨t, y, rfl, hy, e⟩ | ⟨t, y, rfl, hy, e⟩ | ⟨t, rfl, hy, e⟩ | ⟨k, d, hl, hd, e⟩
    · have hb := obj_block hy
      obtain ⟨a, h1, h2⟩ := be_loc _ _ _ _ (Nat.le_refl _) hb
      have ha : ∃ b, a = 123 :: b := by
        cases a with
        | nil => have := be_lt' hb; rw [h1] at this; simp at this
        | cons c b => rw [List.cons_append] at h1; injection h1 with h1 _; exact ⟨b, by rw [h1]⟩
      obtain ⟨b, rfl⟩ := ha
      refine ⟨123 :: b, h1, ⟨123, b, rfl, by decide⟩, by rw [e], by rw [e], fun hk => (by rw [e] at hk; exact absurd hk (by simp)), fun r' _ => ?_⟩
      have := h2 r'
      rw [List.cons_append] at this ⊢
      rw [gt, if_neg (by decide), if_neg (by decide), if_pos rfl, this, e]; rfl
    · have hb := arr_block hy
      obtain ⟨a, h1, h2⟩ := be_loc _ _ _ _ (Nat.le_refl _) hb
      have ha : ∃ b, a = 91 :: b := by
        cases a with
        | nil => have := be_lt' hb; rw [h1] at this; simp at this
        | cons c b => rw [List.cons_append] at h1; injection h1 with h1 _; exact ⟨b, by rw [h1]⟩
      obtain ⟨b, rfl⟩ := ha
      refine ⟨91 :: b, h1, ⟨91, b, rfl, by decide⟩, by rw [e], by rw [e], fun hk => (by rw [e] at hk; exact absurd hk (by simp)), fun r' _ => ?_⟩
      have := h2 r'
      rw [List.cons_append] at this ⊢
      rw [gt, if_neg (by decide), if_pos rfl, this, e]; rfl
    · obtain ⟨a, h1, h2⟩ := Fp.str_rs _ t _ rfl hy
      obtain ⟨g1, g2⟩ := rs_loc h1
      refine ⟨34 :: (a ++ [34]), by rw [g1]; simp, ⟨34, _, rfl, by decide⟩, by rw [e], by rw [e], fun _ => ⟨a, rfl⟩, fun r' _ => ?_⟩
      have e1 : (34 :: (a ++ [34]) : L) ++ r' = 34 :: (a ++ 34 :: r') := by simp
      rw [e1, gt, if_pos rfl, g2, e]; rfl
    · refine ⟨d, hl, ?_, by rw [e], by rw [e], fun hk => ?_, fun r' hr => by rw [e]; exact gt_leaf hd hr⟩
      · cases d with
        | nil => exact absurd rfl hd.1
        | cons c t => exact ⟨c, t, rfl, (hd.2.1 c (List.mem_cons_self ..)).2.1⟩
      · rw [e] at hk
        exfalso
        rcases hd.2.2 with h | h | h | h <;> (rw [h.1] at hk; exact absurd hk (by simp))

/-- Get: the value's text (a string's without its marks), kind, and the offset behind it. -/
def start (keys : List ByteArray) (l : L) : SR := if keys = [] then .yes l else sk keys 0 0 true l
inductive JG where
  | out
  | no
  | bad (ty e : Int)
  | yes (v : L) (ty : Int) (b e : Nat)
def bare (ty : Int) (v : L) : L := if ty = 1 then (v.drop 1).take (v.length - 2) else v
def jget (keys : List ByteArray) (l : L) : JG := match start keys l with
  | .out => .out
  | .no => .no
  | .yes u => match skip u with
    | [] => .bad 0 0
    | c :: t => match gt (c :: t) with
      | .bad ty e => .bad ty e
      | .good ty r => .yes (bare ty ((c :: t).take ((c :: t).length - r.length))) ty (l.length - (c :: t).length) (l.length - r.length)

theorem pos_len {N : Nat} {r : L} (h : r.length ≤ N) : (pos N r).toNat = N - r.length := by unfold pos; omega
/-- Where names lead to a value, what stands behind it does not matter to Get. -/
theorem jget_rest {s : ByteArray} {p q : Pl} {keys : List ByteArray} (hn : ∀ K ∈ keys, nameK K = true) (hp : text (bytesOf s) = some p) (hq : seek s p keys = some q) {tl : L} (hr : tl = [] ∨ ∃ c t, tl = c :: t ∧ dlm c = true) :
    (0 ≤ q.b ∧ q.b ≤ q.e ∧ q.e ≤ s.size) ∧ (q.kind = 4 → q.b + 2 ≤ q.e) ∧ jget keys ((bytesOf s).take q.e.toNat ++ tl) = .yes (bare (jk q.kind) (((bytesOf s).take q.e.toNat).drop q.b.toNat)) (jk q.kind) q.b.toNat q.e.toNat := by
  unfold text at hp
  obtain ⟨x, hx, hp⟩ := Option.bind_eq_some_iff.1 hp
  have hsk : skip x.2 = [] := by
    by_cases hc : skip x.2 = []
    · exact hc
    · rw [if_neg hc] at hp; cases hp
  rw [if_pos hsk] at hp
  injection hp with hp
  subst hp
  rw [show (bytesOf s).length = s.size from bytesOf_length s] at hx
  have key : ∃ u n' r', u <:+ bytesOf s ∧ start keys (bytesOf s) = .yes u ∧ (∃ a, bytesOf s = a ++ u ∧ ∀ u', start keys (a ++ u') = .yes u') ∧ val s.size n' (skip u) = some (q, r') := by
    cases keys with
    | nil =>
      rw [seek] at hq
      injection hq with hq; subst hq
      exact ⟨bytesOf s, _, x.2, List.suffix_refl _, rfl, ⟨[], rfl, fun u' => rfl⟩, hx⟩
    | cons K ks =>
      obtain ⟨u, n', r', h1, _, h2, h3, _⟩ := seek_sk (s := s) hn (K :: ks) 0 _ (skip (bytesOf s)) x.1 q x.2 rfl (by simp) (skip_suf _) hx hq
      have h4 : sk (K :: ks) 0 0 true (bytesOf s) = .yes u := by rw [← sk_skip]; exact h2
      obtain ⟨a, a0, a1, a2⟩ := sk_loc _ _ _ _ _ _ (Nat.le_refl _) h4
      exact ⟨u, n', r', h1.trans (skip_suf _), by unfold start; rw [if_neg (by simp)]; exact h4, ⟨a, a1, fun u' => by unfold start; rw [if_neg (by simp)]; exact a2 u'⟩, h3⟩
  obtain ⟨u, n', r', hsuf, hst, ⟨a, ha, hall⟩, hv⟩ := key
  obtain ⟨d, hd, ⟨c, t, hct, hcb⟩, hb, he, h4, hg⟩ := val_gt hv
  simp only [] at hd hb he h4 hg
  obtain ⟨b, hb1, hb2⟩ := skip_pre u
  have hall2 : bytesOf s = (a ++ b ++ d) ++ r' := by rw [ha, List.append_assoc, List.append_assoc, ← hd, ← hb1]
  have hlen := congrArg List.length hall2
  rw [bytesOf_length] at hlen
  simp only [List.length_append] at hlen
  have hsl := congrArg List.length hd
  simp only [List.length_append] at hsl
  have hee : q.e.toNat = (a ++ b ++ d).length := by rw [he, pos_len (by omega)]; simp only [List.length_append]; omega
  have hbb : q.b.toNat = (a ++ b).length := by rw [hb, pos_len (by omega)]; simp only [List.length_append]; omega
  have htk : (bytesOf s).take q.e.toNat = a ++ b ++ d := by rw [hee, hall2, List.take_left' rfl]
  have hd1 : 1 ≤ d.length := by rw [hct]; simp
  refine ⟨⟨by rw [hb]; unfold pos; omega, by rw [hb, he]; unfold pos; omega, by rw [he]; unfold pos; omega⟩, fun hk => ?_, ?_⟩
  · obtain ⟨z, hz⟩ := h4 hk
    have := congrArg List.length hz
    simp only [List.length_cons, List.length_append, List.length_nil] at this
    rw [hb, he]; unfold pos; omega
  · rw [htk]
    have e1 : a ++ b ++ d ++ tl = a ++ (b ++ d ++ tl) := by simp
    have e2 : skip (b ++ d ++ tl) = c :: (t ++ tl) := by
      rw [List.append_assoc, hct, List.cons_append]
      exact skip_app b _ hb2 hcb
    have e3 : (c :: (t ++ tl) : L) = d ++ tl := by rw [hct]; rfl
    unfold jget
    rw [e1, hall]
    simp only []
    rw [e2]
    simp only []
    rw [e3, hg tl hr]
    simp only []
    have l1 : (d ++ tl).length - tl.length = d.length := by simp
    have l2 : (a ++ (b ++ d ++ tl)).length - (d ++ tl).length = q.b.toNat := by rw [hbb]; simp only [List.length_append]; omega
    have l3 : (a ++ (b ++ d ++ tl)).length - tl.length = q.e.toNat := by rw [hee]; simp only [List.length_append]; omega
    rw [l1, l2, l3, List.take_left' rfl, hbb, List.drop_left' rfl]

end Go.Proofs.YthehnffmbdlopaaDoor.Jp

set_option linter.unusedVariables false
set_option linter.unusedSimpArgs false
namespace Go.Proofs.YthehnffmbdlopaaDoor.Jp
open Go.RowKit Go.Proofs.YthehnffmbdlopaaDoorW.PrintWords Go.Proofs.YthehnffmbdlopaaDoor.Aid Go.Proofs.YthehnffmbdlopaaDoor.J

theorem elems_all {P : Pl → Prop} {v : L → Option (Pl × L)} (hv : ∀ l x, v l = some x → P x.1) : ∀ (k : Nat) (l : L) (acc ps : List Pl) (r : L), (∀ p ∈ acc, P p) → elems v k l acc = some (ps, r) → ∀ p ∈ ps, P p
  | 0, l, acc, ps, r, ha, h => by simp [elems] at h
  | k + 1, l, acc, ps, r, ha, h => by
    rw [elems] at h
    obtain ⟨x, hx, h⟩ := Option.bind_eq_some_iff.1 h
    have ha2 : ∀ p ∈ acc ++ [x.1], P p := fun p hp => by
      rcases List.mem_append.1 hp with hp | hp
      · exact ha p hp
      · rw [List.mem_singleton.1 hp]; exact hv l x hx
    cases h1 : J.take 93 (skip x.2) with
    | some t => rw [h1] at h; injection h with h; injection h with e1 e2; rw [← e1]; exact ha2
    | none =>
      rw [h1] at h
      obtain ⟨t, _, h3⟩ := Option.bind_eq_some_iff.1 h
      exact elems_all hv k _ _ ps r ha2 h3
theorem mems_all {P : Pl → Prop} {N : Nat} {v : L → Option (Pl × L)} (hv : ∀ l x, v l = some x → P x.1) : ∀ (k : Nat) (l : L) (ns : List Sp) (ks : List Pl) (x : List Sp × List Pl) (r : L), (∀ p ∈ ks, P p) → mems N v k l ns ks = some (x, r) → ∀ p ∈ x.2, P p
  | 0, l, ns, ks, x, r, ha, h => by simp [mems] at h
  | k + 1, l, ns, ks, x, r, ha, h => by
    rw [mems] at h
    obtain ⟨t0, _, h⟩ := Option.bind_eq_some_iff.1 h
    obtain ⟨l1, _, h⟩ := Option.bind_eq_some_iff.1 h
    obtain ⟨l2, _, h⟩ := Option.bind_eq_some_iff.1 h
    obtain ⟨y, hy, h⟩ := Option.bind_eq_some_iff.1 h
    have ha2 : ∀ p ∈ ks ++ [y.1], P p := fun p hp => by
      rcases List.mem_append.1 hp with hp | hp
      · exact ha p hp
      · rw [List.mem_singleton.1 hp]; exact hv _ y hy
    cases h1 : J.take 125 (skip y.2) with
    | some t => rw [h1] at h; injection h with h; injection h with e1 e2; rw [← e1]; exact ha2
    | none =>
      rw [h1] at h
      obtain ⟨t, _, h3⟩ := Option.bind_eq_some_iff.1 h
      exact mems_all hv k _ _ _ x r ha2 h3
mutual
def okL : Pl → Prop
  | ⟨k, b, e, ns, ks⟩ => (k = 6 → ns.length = ks.length) ∧ okLs ks
def okLs : List Pl → Prop
  | [] => True
  | p :: ks => okL p ∧ okLs ks
end
theorem okLs_iff : ∀ {ks : List Pl}, okLs ks ↔ ∀ p ∈ ks, okL p
  | [] => by simp [okLs]
  | p :: ks => by rw [okLs, okLs_iff]; simp
theorem okL_eq (p : Pl) : okL p ↔ (p.kind = 6 → p.names.length = p.kids.length) ∧ ∀ q ∈ p.kids, okL q := by cases p; rw [okL, okLs_iff]
theorem val_okL (N : Nat) : ∀ n l x, val N n l = some x → okL x.1
  | 0, l, x, h => by simp [val] at h
  | n + 1, l, x, h => by
    have ih := val_okL N n
    rcases val_cases h with ⟨t, y, rfl, hy, ep⟩ | ⟨t, y, rfl, hy, ep⟩ | ⟨t, rfl, hy, ep⟩ | ⟨k, dd, hl', hdl', ep⟩
    · rw [ep, okL_eq]
      unfold obj at hy
      split at hy
      · injection hy with hy
        injection hy with h1 h2
        subst h1
        exact ⟨fun _ => rfl, fun q hq => by cases hq⟩
      · obtain ⟨a, b, e1, e2, e3⟩ := mems_pre _ _ _ _ _ hy
        simp only [] at e1 e2
        refine ⟨fun _ => ?_, mems_all ih _ _ _ _ _ _ (fun p hp => by cases hp) hy⟩
        show y.1.length = y.2.length
        rw [e1, e2]; simpa using e3
    · rw [ep, okL_eq]
      unfold arr at hy
      split at hy
      · injection hy with hy
        injection hy with h1 h2
        subst h1
        exact ⟨fun hk => absurd hk (by simp), fun q hq => by cases hq⟩
      · exact ⟨fun hk => absurd hk (by simp), elems_all ih _ _ _ _ _ (fun p hp => by cases hp) hy⟩
    · rw [ep, okL_eq]; exact ⟨fun hk => absurd hk (by simp), fun q hq => by cases hq⟩
    · rw [ep, okL_eq]
      refine ⟨fun hk => ?_, fun q hq => by cases hq⟩
      rfl
theorem text_okL {l : L} {p : Pl} (h : text l = some p) : okL p := by
  unfold text at h
  obtain ⟨x, hx, h⟩ := Option.bind_eq_some_iff.1 h
  split at h
  · injection h with h; subst h; exact val_okL _ _ _ _ hx
  · cases h
end Go.Proofs.YthehnffmbdlopaaDoor.Jp

set_option linter.unusedVariables false
namespace Go.Proofs.YthehnffmbdlopaaDoor.Jp
open Go.RowKit Go.Proofs.YthehnffmbdlopaaDoorW.PrintWords Go.Proofs.YthehnffmbdlopaaDoorW.PrintLast Go.Proofs.YthehnffmbdlopaaDoorW.PrintMore Go.Proofs.YthehnffmbdlopaaDoor.Aid Go.Proofs.YthehnffmbdlopaaDoor.J

theorem at_keys {w : World} {A : Option Addr} {n : Nat} {xs : List ByteArray} (h : Kd.string.C w A n xs) (i : Nat) (h1 : i < n) : ∃ ad, A = some ad ∧ w.cell? (ad.add i) = some (.string (xs.getD i ⟨#[]⟩)) := by
  obtain ⟨ad, c, e, hz, hK, hc⟩ := Kd.C_get h (⟨#[]⟩ : ByteArray) (i : Int) (by omega) (by omega)
  refine ⟨ad, e, ?_⟩
  have hK' : c = [.string (xs.getD i ⟨#[]⟩)] := hK
  have := hc 0 _ (by rw [hK']; rfl)
  have hsz : Kd.string.sz = 1 := rfl
  rw [hsz] at this
  simpa using this
end Go.Proofs.YthehnffmbdlopaaDoor.Jp

set_option linter.unusedVariables false
set_option linter.unusedSimpArgs false
namespace Go.Proofs.YthehnffmbdlopaaDoor.Jp
open Go.RowKit Go.Proofs.YthehnffmbdlopaaDoor.J
open Go.Proofs.YthehnffmbdlopaaDoor.Fp (rs rs_len)

/-- Is the number of backslashes right ahead odd? -/
def par : Bool → L → Bool
  | o, [] => o
  | o, c :: t => par (c == 92 && !o) t
def tbr : L → Nat
  | [] => 0
  | c :: q => if c = 92 then tbr q + 1 else 0
def tb (p : L) : Nat := tbr p.reverse
theorem par_snoc : ∀ (p : L) (o : Bool) (c : Int), par o (p ++ [c]) = (c == 92 && !(par o p))
  | [], o, c => rfl
  | d :: p, o, c => by rw [List.cons_append, par, par, par_snoc p]
theorem par_tbr : ∀ (q : L), par false q.reverse = (tbr q % 2 == 1)
  | [] => rfl
  | c :: q => by
    rw [List.reverse_cons, par_snoc, par_tbr q, tbr]
    by_cases h : c = 92
    · rw [if_pos h, beq_iff_eq.mpr h, Bool.true_and]
      rcases Nat.mod_two_eq_zero_or_one (tbr q) with e | e
      · rw [e, show (tbr q + 1) % 2 = 1 by omega]; rfl
      · rw [e, show (tbr q + 1) % 2 = 0 by omega]; rfl
    · rw [if_neg h, beq_eq_false_iff_ne.mpr h, Bool.false_and]; rfl
theorem par_tb (p : L) : par false p = (tb p % 2 == 1) := by
  have := par_tbr p.reverse
  rw [List.reverse_reverse] at this
  exact this
theorem tbr_spec : ∀ (q : L), tbr q ≤ q.length ∧ (∀ k, k < tbr q → q[k]? = some 92) ∧ q[tbr q]? ≠ some 92
  | [] => ⟨Nat.le_refl _, fun k h => (by unfold tbr at h; omega), by simp⟩
  | c :: q => by
    obtain ⟨h1, h2, h3⟩ := tbr_spec q
    rw [tbr]
    by_cases h : c = 92
    · rw [if_pos h]
      refine ⟨by simp; omega, fun k hk => ?_, by rw [List.getElem?_cons_succ]; exact h3⟩
      cases k with
      | zero => rw [List.getElem?_cons_zero, h]
      | succ k => rw [List.getElem?_cons_succ]; exact h2 k (by omega)
    · rw [if_neg h]
      exact ⟨Nat.zero_le _, fun k hk => absurd hk (by omega), by rw [List.getElem?_cons_zero]; intro e; exact h (Option.some.inj e)⟩
theorem tb_le (p : L) : tb p ≤ p.length := by have := (tbr_spec p.reverse).1; rw [List.length_reverse] at this; exact this
theorem tb_in (p : L) (k : Nat) (h0 : p.length - tb p ≤ k) (h1 : k < p.length) : p[k]? = some 92 := by
  have := (tbr_spec p.reverse).2.1 (p.length - 1 - k) (by have := tb_le p; unfold tb at *; omega)
  rw [List.getElem?_reverse (by omega)] at this
  rw [← this]
  congr 1
  omega
theorem tb_out (p : L) (h : tb p < p.length) : p[p.length - tb p - 1]? ≠ some 92 := by
  have := (tbr_spec p.reverse).2.2
  rw [List.getElem?_reverse (by unfold tb at h; omega)] at this
  intro e
  apply this
  rw [← e]
  congr 1
  unfold tb
  omega
/-- What the strings' end is, when so much is passed. -/
theorem rs_step (o : Bool) {p : L} {c : Int} {t : L} (h : ¬ (c = 34 ∧ par o p = false)) (hp : ∀ r, rs o (p ++ r) = (rs (par o p) r).map fun x => (p ++ x.1, x.2)) : ∀ r, rs o ((p ++ [c]) ++ r) = (rs (par o (p ++ [c])) r).map fun x => ((p ++ [c]) ++ x.1, x.2) := by
  intro r
  rw [List.append_assoc, hp, List.singleton_append, rs, if_neg h, par_snoc, Option.map_map]
  congr 1
  funext x
  simp
theorem par_no : ∀ (p : L), 92 ∉ p → par false p = false
  | [], _ => rfl
  | c :: p, h => by
    rw [List.mem_cons, not_or] at h
    rw [par, beq_eq_false_iff_ne.mpr (fun e => h.1 e.symm)]
    exact par_no p h.2
/-- stringEnd: the offset behind the mark, and whether a backslash stands ahead of it. -/
def se (l : L) : Int × Bool := match rs false l with
  | some x => ((x.1.length : Int) + 1, decide (92 ∈ x.1))
  | none => (-1, decide (92 ∈ l))
end Go.Proofs.YthehnffmbdlopaaDoor.Jp
