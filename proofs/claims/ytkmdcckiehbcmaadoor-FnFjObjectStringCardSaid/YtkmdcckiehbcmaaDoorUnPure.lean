/- What the inside of a JSON string stands for, by the reference and as the parser goes, on lists of bytes. -/
import Derived.Test.YtkmdcckiehbcmaaDoorJPure
set_option linter.unusedVariables false
namespace Go.Proofs.YtkmdcckiehbcmaaDoor.J

/-- A hexadecimal digit's value. -/
def hv (c : Int) : Int := if dig c = true then c - 48 else if 97 ≤ c then c - 87 else c - 55
theorem hv_range {c : Int} (h : hex c = true) : 0 ≤ hv c ∧ hv c ≤ 15 := by
  unfold hex at h
  unfold hv
  by_cases d : dig c = true
  · rw [if_pos d]; unfold dig at d; simp at d; omega
  · rw [if_neg d]
    simp [d] at h
    split <;> omega
/-- The number of the escape \uXXXX that stands here. -/
def unit (l : L) : Option Int :=
  if 6 ≤ l.length ∧ l.getD 0 0 = 92 ∧ l.getD 1 0 = 117 ∧ hex (l.getD 2 0) = true ∧ hex (l.getD 3 0) = true ∧ hex (l.getD 4 0) = true ∧ hex (l.getD 5 0) = true then
    some (((hv (l.getD 2 0) * 16 + hv (l.getD 3 0)) * 16 + hv (l.getD 4 0)) * 16 + hv (l.getD 5 0)) else none
theorem unit_range {l : L} {n : Int} (h : unit l = some n) : 0 ≤ n ∧ n ≤ 65535 := by
  unfold unit at h
  split at h
  · rename_i hh
    obtain ⟨_, _, _, h2, h3, h4, h5⟩ := hh
    have := hv_range h2; have := hv_range h3; have := hv_range h4; have := hv_range h5
    injection h with h; omega
  · cases h
def high (n : Int) : Bool := decide (55296 ≤ n) && decide (n ≤ 56319)
def low (n : Int) : Bool := decide (56320 ≤ n) && decide (n ≤ 57343)
/-- A character in UTF-8; half a surrogate pair as U+FFFD. -/
def utf8 (c : Int) : L :=
  if c < 128 then [c] else if c < 2048 then [192 + c / 64, 128 + c % 64] else if high c = true ∨ low c = true then [239, 191, 189]
  else if c < 65536 then [224 + c / 4096, 128 + c / 64 % 64, 128 + c % 64] else [240 + c / 262144, 128 + c / 4096 % 64, 128 + c / 64 % 64, 128 + c % 64]
def comb (n m : Int) : Int := 65536 + (n - 55296) * 1024 + (m - 56320)
def short (c : Int) : Int := if c = 98 then 8 else if c = 102 then 12 else if c = 110 then 10 else if c = 114 then 13 else if c = 116 then 9 else c

/-- The reference: a well-formed inside. -/
def unq (l : L) : L :=
  match l with
  | [] => []
  | c :: t => if c = 92 then (match unit (c :: t) with
      | none => short (t.headD 0) :: unq t.tail
      | some n => match unit (t.drop 5) with
        | some m => if high n = true ∧ low m = true then utf8 (comb n m) ++ unq (t.drop 11) else utf8 n ++ unq (t.drop 5)
        | none => utf8 n ++ unq (t.drop 5))
    else c :: unq t
termination_by l.length
decreasing_by all_goals (simp only [List.length_drop, List.length_tail, List.length_cons]; omega)
theorem unq_nil : unq [] = [] := by rw [unq]
theorem unq_plain {c : Int} (t : L) (h : c ≠ 92) : unq (c :: t) = c :: unq t := by rw [unq, if_neg h]
theorem unq_short {t : L} (h : unit (92 :: t) = none) : unq (92 :: t) = short (t.headD 0) :: unq t.tail := by rw [unq, if_pos rfl]; simp only [h]
theorem unq_pair {t : L} {n m : Int} (h : unit (92 :: t) = some n) (k : unit (t.drop 5) = some m) (g : high n = true ∧ low m = true) : unq (92 :: t) = utf8 (comb n m) ++ unq (t.drop 11) := by
  rw [unq, if_pos rfl]; simp only [h, k]; rw [if_pos g]
theorem unq_one {t : L} {n : Int} (h : unit (92 :: t) = some n) (k : ∀ m, unit (t.drop 5) = some m → ¬ (high n = true ∧ low m = true)) : unq (92 :: t) = utf8 n ++ unq (t.drop 5) := by
  rw [unq, if_pos rfl]; simp only [h]
  cases e : unit (t.drop 5) with
  | none => rfl
  | some m => simp only []; rw [if_neg (k m e)]
/-- Each backslash begins an escape. -/
def wellE (l : L) : Bool :=
  match l with
  | [] => true
  | c :: t => if c = 92 then (match h : esc t with
      | none => false
      | some r => wellE r)
    else wellE t
termination_by l.length
decreasing_by
  · have := esc_lt h; simp only [List.length_cons]; omega
  · simp only [List.length_cons]; omega
theorem wellE_nil : wellE [] = true := by rw [wellE]
theorem wellE_plain {c : Int} (t : L) (h : c ≠ 92) : wellE (c :: t) = wellE t := by rw [wellE, if_neg h]
theorem wellE_no {t : L} (h : esc t = none) : wellE (92 :: t) = false := by
  rw [wellE, if_pos rfl]
  split
  · rfl
  · rename_i r e; rw [h] at e; cases e
theorem wellE_yes {t r : L} (h : esc t = some r) : wellE (92 :: t) = wellE r := by
  rw [wellE, if_pos rfl]
  split
  · rename_i e; rw [h] at e; cases e
  · rename_i r' e; rw [h] at e; injection e with e; rw [e]
def unesc (l : L) : Option L := if wellE l = true then some (unq l) else none

/-- The parser at a backslash: how many bytes are read, and what they stand for. -/
def ue (l : L) : Option (Nat × L) :=
  if l.length < 2 then none
  else if plainEsc (l.getD 1 0) = true then some (2, [short (l.getD 1 0)])
  else if l.getD 1 0 = 117 then (match unit l with
    | none => none
    | some n => if high n = true then (if l.length < 8 ∨ l.getD 6 0 ≠ 92 ∨ l.getD 7 0 ≠ 117 then some (6, [239, 191, 189]) else match unit (l.drop 6) with
        | none => none
        | some m => if low m = true then some (12, utf8 (comb n m)) else some (6, [239, 191, 189]))
      else some (6, utf8 n))
  else none
theorem ue_pos {l o : L} {k : Nat} (h : ue l = some (k, o)) : 2 ≤ k ∧ k ≤ l.length ∧ o.length ≤ k ∧ o.length ≤ 4 := by
  have hu : ∀ n, (utf8 n).length ≤ 4 := by intro n; unfold utf8; repeat' split
                                           all_goals simp
  have hl : ∀ (l : L) n, unit l = some n → 6 ≤ l.length := by intro l n h; unfold unit at h; split at h; · rename_i g; exact g.1
                                                              · cases h
  unfold ue at h
  split at h
  · cases h
  split at h
  · simp only [Option.some.injEq, Prod.mk.injEq] at h; obtain ⟨rfl, rfl⟩ := h; simp; omega
  split at h
  · split at h
    · cases h
    · rename_i n e
      have h6 := hl _ _ e
      split at h
      · split at h
        · simp only [Option.some.injEq, Prod.mk.injEq] at h; obtain ⟨rfl, rfl⟩ := h; simp; omega
        · split at h
          · cases h
          · rename_i m e2
            have h12 := hl _ _ e2
            rw [List.length_drop] at h12
            split at h
            · simp only [Option.some.injEq, Prod.mk.injEq] at h; obtain ⟨rfl, rfl⟩ := h; have := hu (comb n m); omega
            · simp only [Option.some.injEq, Prod.mk.injEq] at h; obtain ⟨rfl, rfl⟩ := h; simp; omega
      · simp only [Option.some.injEq, Prod.mk.injEq] at h; obtain ⟨rfl, rfl⟩ := h; have := hu n; omega
  · cases h
/-- The parser over the whole text. -/
def pu (l : L) : Option L :=
  match l with
  | [] => some []
  | c :: t => if c = 92 then (match h : ue (c :: t) with
      | none => none
      | some (k, o) => (pu ((c :: t).drop k)).map (o ++ ·))
    else (pu t).map (c :: ·)
termination_by l.length
decreasing_by
  · have := ue_pos h; simp only [List.length_drop, List.length_cons] at *; omega
  · simp only [List.length_cons]; omega
theorem pu_nil : pu [] = some [] := by rw [pu]
theorem pu_plain {c : Int} (t : L) (h : c ≠ 92) : pu (c :: t) = (pu t).map (c :: ·) := by rw [pu, if_neg h]
theorem pu_no {t : L} (h : ue (92 :: t) = none) : pu (92 :: t) = none := by
  rw [pu, if_pos rfl]
  split
  · rfl
  · rename_i r e; rw [h] at e; cases e
theorem pu_yes {t o : L} {k : Nat} (h : ue (92 :: t) = some (k, o)) : pu (92 :: t) = (pu ((92 :: t).drop k)).map (o ++ ·) := by
  rw [pu, if_pos rfl]
  split
  · rename_i e; rw [h] at e; cases e
  · rename_i k' o' e; rw [h] at e; simp only [Option.some.injEq, Prod.mk.injEq] at e; obtain ⟨rfl, rfl⟩ := e; rfl
theorem hexes4 (r : L) : hexes 4 r = if 4 ≤ r.length ∧ hex (r.getD 0 0) = true ∧ hex (r.getD 1 0) = true ∧ hex (r.getD 2 0) = true ∧ hex (r.getD 3 0) = true then some (r.drop 4) else none := by
  rcases r with _ | ⟨a, _ | ⟨b, _ | ⟨c, _ | ⟨d, r⟩⟩⟩⟩
  · simp [hexes]
  · simp only [hexes]; split <;> simp
  · simp only [hexes]; split
    · split <;> simp
    · simp
  · simp only [hexes]; split
    · split
      · split <;> simp
      · simp
    · simp
  · simp only [hexes, List.getD_cons_zero, List.getD_cons_succ, List.length_cons]
    by_cases h0 : hex a = true <;> by_cases h1 : hex b = true <;> by_cases h2 : hex c = true <;> by_cases h3 : hex d = true <;> simp [h0, h1, h2, h3]
theorem unit_yes {r : L} {n : Int} (h : unit (92 :: 117 :: r) = some n) : hexes 4 r = some (r.drop 4) ∧ 4 ≤ r.length := by
  unfold unit at h
  split at h
  · rename_i g
    obtain ⟨g1, _, _, g2, g3, g4, g5⟩ := g
    simp only [List.length_cons] at g1
    exact ⟨by rw [hexes4, if_pos ⟨by omega, g2, g3, g4, g5⟩], by omega⟩
  · cases h
theorem unit_no {r : L} (h : unit (92 :: 117 :: r) = none) : hexes 4 r = none := by
  unfold unit at h
  split at h
  · cases h
  · rename_i g
    rw [hexes4, if_neg]
    intro k
    exact g ⟨by simp only [List.length_cons]; omega, rfl, rfl, k.2.1, k.2.2.1, k.2.2.2.1, k.2.2.2.2⟩
theorem unit_else {l : L} (h : ¬ (l.getD 0 0 = 92 ∧ l.getD 1 0 = 117)) : unit l = none := by
  unfold unit
  rw [if_neg]
  intro k
  exact h ⟨k.2.1, k.2.2.1⟩
theorem plainEsc_ne {d : Int} (h : plainEsc d = true) : d ≠ 117 := by
  intro e
  subst e
  exact absurd h (by decide)
theorem esc_plain {d : Int} (r : L) (h : plainEsc d = true) : esc (d :: r) = some r := by simp only [esc]; rw [if_pos h]
theorem esc_u (r : L) : esc (117 :: r) = hexes 4 r := by simp only [esc]; rw [if_neg (by decide), if_pos trivial]
theorem esc_else {d : Int} (r : L) (h : ¬ plainEsc d = true) (k : d ≠ 117) : esc (d :: r) = none := by simp only [esc]; rw [if_neg h, if_neg k]
theorem getD_drop' (l : L) (a b : Nat) : (l.drop a).getD b 0 = l.getD (a + b) 0 := by
  rw [List.getD_eq_getElem?_getD, List.getD_eq_getElem?_getD, List.getElem?_drop]
theorem hexes4_no_u {r : L} (h : hexes 4 r = none) : wellE (92 :: 117 :: r) = false := wellE_no (by rw [esc_u, h])
theorem head2 {x : L} (h : 2 ≤ x.length) (h0 : x.getD 0 0 = 92) (h1 : x.getD 1 0 = 117) : x = 92 :: 117 :: x.drop 2 := by
  rcases x with _ | ⟨a, _ | ⟨b, x⟩⟩
  · simp at h
  · simp at h
  · simp only [List.getD_cons_zero, List.getD_cons_succ] at h0 h1
    subst h0 h1
    rfl
theorem surr_not {n : Int} (h : high n = true) : ¬ low n = true := by unfold high at h; unfold low; simp at h ⊢; omega
theorem utf8_sur {n : Int} (h : high n = true ∨ low n = true) : utf8 n = [239, 191, 189] := by
  have h' := h
  unfold high low at h'
  simp at h'
  unfold utf8
  rw [if_neg (by omega), if_neg (by omega), if_pos h]
theorem unesc_of {l : L} (h : wellE l = false) : unesc l = none := by unfold unesc; rw [if_neg (by rw [h]; decide)]
theorem unesc_step {l r o : L} (h : wellE l = wellE r) (k : unq l = o ++ unq r) : unesc l = (unesc r).map (o ++ ·) := by
  unfold unesc
  rw [h, k]
  split <;> rfl
theorem pu_eq' (n : Nat) : ∀ l : L, l.length = n → pu l = unesc l := by
  induction n using Nat.strongRecOn with
  | _ n ih =>
  intro l hn
  have ih' : ∀ r : L, r.length < l.length → pu r = unesc r := fun r h => ih r.length (by omega) r rfl
  clear ih
  cases l with
  | nil => rw [pu_nil, unesc, wellE_nil, if_pos rfl, unq_nil]
  | cons c t =>
  by_cases h : c = 92
  · subst h
    cases t with
    | nil => rw [pu_no (by rfl), unesc_of (wellE_no rfl)]
    | cons d r =>
    have hlen : ¬ (92 :: d :: r).length < 2 := by simp only [List.length_cons]; omega
    by_cases hp : plainEsc d = true
    · have e : ue (92 :: d :: r) = some (2, [short d]) := by unfold ue; rw [if_neg hlen]; simp only [List.getD_cons_succ, List.getD_cons_zero]; rw [if_pos hp]
      rw [pu_yes e, show (92 :: d :: r).drop 2 = r from rfl, ih' r (by simp only [List.length_cons]; omega)]
      refine (unesc_step (wellE_yes (esc_plain r hp)) ?_).symm
      rw [unq_short (unit_else (by simp only [List.getD_cons_succ, List.getD_cons_zero]; exact fun k => plainEsc_ne hp k.2))]; rfl
    by_cases hd : d = 117
    · subst hd
      cases hu : unit (92 :: 117 :: r) with
      | none =>
        have e : ue (92 :: 117 :: r) = none := by unfold ue; rw [if_neg hlen]; simp only [List.getD_cons_succ, List.getD_cons_zero]; rw [if_neg hp, if_pos trivial]; simp only [hu]
        rw [pu_no e, unesc_of (hexes4_no_u (unit_no hu))]
      | some n =>
        obtain ⟨g1, g2⟩ := unit_yes hu
        have w1 : wellE (92 :: 117 :: r) = wellE (r.drop 4) := wellE_yes (by rw [esc_u, g1])
        have l1 : ((92 : Int) :: 117 :: r).length = r.length + 2 := rfl
        have d5 : ((117 : Int) :: r).drop 5 = r.drop 4 := rfl
        have q6 : ∀ k, ((92 : Int) :: 117 :: r).getD (6 + k) 0 = (r.drop 4).getD k 0 := by
          intro k; rw [getD_drop', show 6 + k = (4 + k) + 1 + 1 by omega, List.getD_cons_succ, List.getD_cons_succ]
        have base : ue (92 :: 117 :: r) = (if high n = true then (if ((92 : Int) :: 117 :: r).length < 8 ∨ (r.drop 4).getD 0 0 ≠ 92 ∨ (r.drop 4).getD 1 0 ≠ 117 then some (6, [239, 191, 189]) else match unit (r.drop 4) with
            | none => none
            | some m => if low m = true then some (12, utf8 (comb n m)) else some (6, [239, 191, 189]))
          else some (6, utf8 n)) := by
          unfold ue; rw [if_neg hlen]
          have := q6 0; have := q6 1
          simp only [Nat.add_zero, Nat.reduceAdd] at *
          simp only [List.getD_cons_succ, List.getD_cons_zero]
          rw [if_neg hp, if_pos trivial]; simp only [hu, List.drop_succ_cons]
          simp only [List.getD_cons_succ] at *
          simp only [*]
        have one : ∀ o, ue (92 :: 117 :: r) = some (6, o) → utf8 n = o → (∀ m, unit (r.drop 4) = some m → ¬ (high n = true ∧ low m = true)) → pu (92 :: 117 :: r) = unesc (92 :: 117 :: r) := by
          intro o e1 e2 e3
          rw [pu_yes e1, show (92 :: 117 :: r).drop 6 = r.drop 4 from rfl, ih' (r.drop 4) (by rw [List.length_drop, l1]; omega)]
          refine (unesc_step w1 ?_).symm
          rw [unq_one hu (by rw [d5]; exact e3), d5, e2]
        by_cases hh : high n = true
        · rw [if_pos hh] at base
          by_cases hc : ((92 : Int) :: 117 :: r).length < 8 ∨ (r.drop 4).getD 0 0 ≠ 92 ∨ (r.drop 4).getD 1 0 ≠ 117
          · rw [if_pos hc] at base
            refine one _ base (utf8_sur (.inl hh)) ?_
            intro m hm
            exfalso
            unfold unit at hm
            split at hm
            · rename_i g
              rw [List.length_drop] at g
              rcases hc with hc | hc | hc
              · rw [l1] at hc; omega
              · exact hc g.2.1
              · exact hc g.2.2.1
            · cases hm
          · rw [if_neg hc] at base
            have hc1 : 2 ≤ (r.drop 4).length := by rw [List.length_drop]; rw [l1] at hc; omega
            have hx := head2 hc1 (Classical.not_not.1 fun h => hc (.inr (.inl h))) (Classical.not_not.1 fun h => hc (.inr (.inr h)))
            cases hm : unit (r.drop 4) with
            | none =>
              rw [hm] at base
              rw [pu_no base]
              rw [hx] at hm
              rw [unesc_of (by rw [w1, hx]; exact hexes4_no_u (unit_no hm))]
            | some m =>
              rw [hm] at base
              simp only [] at base
              by_cases hlo : low m = true
              · rw [if_pos hlo] at base
                have hm' := hm
                rw [hx] at hm'
                obtain ⟨k1, k2⟩ := unit_yes hm'
                rw [pu_yes base, show (92 :: 117 :: r).drop 12 = r.drop 10 from rfl, ih' (r.drop 10) (by rw [List.length_drop, l1]; omega)]
                refine (unesc_step ?_ ?_).symm
                · rw [w1, hx, wellE_yes (by rw [esc_u, k1]), List.drop_drop, List.drop_drop]
                · rw [unq_pair hu (by rw [d5]; exact hm) ⟨hh, hlo⟩]; rfl
              · rw [if_neg hlo] at base
                refine one _ base (utf8_sur (.inl hh)) ?_
                intro m' hm2
                rw [hm] at hm2
                injection hm2 with hm2
                subst hm2
                exact fun g => hlo g.2
        · rw [if_neg hh] at base
          exact one _ base rfl fun m _ g => hh g.1
    · have e : ue (92 :: d :: r) = none := by unfold ue; rw [if_neg hlen]; simp only [List.getD_cons_succ, List.getD_cons_zero]; rw [if_neg hp, if_neg hd]
      rw [pu_no e, unesc_of (wellE_no (esc_else r hp hd))]
  · rw [pu_plain _ h, ih' t (by simp only [List.length_cons]; omega)]
    exact (unesc_step (o := [c]) (wellE_plain _ h) (unq_plain _ h)).symm
theorem pu_eq (l : L) : pu l = unesc l := pu_eq' _ l rfl
end Go.Proofs.YtkmdcckiehbcmaaDoor.J
