/- What fastjson takes the inside of a string for, on lists of bytes. -/
import Derived.Test.YtkmdcckiehbcmaaDoorUnPure
set_option linter.unusedVariables false
namespace Go.Proofs.YtkmdcckiehbcmaaDoor.J

/-- At a backslash with a byte behind it: how many bytes are read, and what they stand for. -/
def ke (l : L) : Nat × L := match unit l with
  | some n => if high n = true ∨ low n = true then (match unit (l.drop 6) with
      | some m => (12, if high n = true ∧ low m = true then utf8 (comb n m) else [239, 191, 189])
      | none => (6, l.take 6))
    else (6, utf8 n)
  | none => if plainEsc (l.getD 1 0) = true then (2, [short (l.getD 1 0)]) else (2, l.take 2)
theorem ke_pos (l : L) : 2 ≤ (ke l).1 := by
  unfold ke
  repeat' split
  all_goals simp
theorem unit_len {l : L} {n : Int} (h : unit l = some n) : 6 ≤ l.length := by
  unfold unit at h
  split at h
  · rename_i g; exact g.1
  · cases h
theorem ke_le {l : L} (h : 2 ≤ l.length) : (ke l).1 ≤ l.length := by
  unfold ke
  split
  · rename_i n e
    have h6 := unit_len e
    split
    · split
      · rename_i m e2
        have := unit_len e2
        rw [List.length_drop] at this
        simp only []; omega
      · exact h6
    · exact h6
  · split <;> exact h
theorem utf8_le (n : Int) : (utf8 n).length ≤ 4 := by
  unfold utf8
  repeat' split
  all_goals simp
theorem ke_out (l : L) : (ke l).2.length ≤ 6 := by
  have h1 : (l.take 6).length ≤ 6 := by rw [List.length_take]; omega
  have h2 : (l.take 2).length ≤ 6 := by rw [List.length_take]; omega
  unfold ke
  split
  · rename_i n e
    have := utf8_le n
    split
    · split
      · rename_i m e2
        have := utf8_le (comb n m)
        simp only []
        split
        · omega
        · simp
      · exact h1
    · simp only []; omega
  · split
    · simp
    · exact h2
def kp (l : L) : L :=
  match l with
  | [] => []
  | c :: t => if c ≠ 92 ∨ t = [] then c :: kp t else (ke (c :: t)).2 ++ kp ((c :: t).drop (ke (c :: t)).1)
termination_by l.length
decreasing_by
  · simp
  · have := ke_pos (c :: t); simp only [List.length_drop, List.length_cons]; omega
theorem kp_nil : kp [] = [] := by rw [kp]
theorem kp_plain {c : Int} (t : L) (h : c ≠ 92) : kp (c :: t) = c :: kp t := by rw [kp, if_pos (.inl h)]
theorem kp_last : kp [92] = [92] := by rw [kp, if_pos (.inr rfl), kp_nil]
theorem kp_esc {t : L} (h : t ≠ []) : kp (92 :: t) = (ke (92 :: t)).2 ++ kp ((92 :: t).drop (ke (92 :: t)).1) := by rw [kp, if_neg (by simp [h])]
/-- A backslash alone at the end. -/
def lone (l : L) : Bool :=
  match l with
  | [] => false
  | c :: t => if c ≠ 92 then lone t else if t = [] then true else lone ((c :: t).drop (ke (c :: t)).1)
termination_by l.length
decreasing_by
  · simp
  · have := ke_pos (c :: t); simp only [List.length_drop, List.length_cons]; omega
theorem lone_nil : lone [] = false := by rw [lone]
theorem lone_plain {c : Int} (t : L) (h : c ≠ 92) : lone (c :: t) = lone t := by rw [lone, if_pos h]
theorem lone_last : lone [92] = true := by rw [lone, if_neg (by simp), if_pos rfl]
theorem lone_esc {t : L} (h : t ≠ []) : lone (92 :: t) = lone ((92 :: t).drop (ke (92 :: t)).1) := by rw [lone, if_neg (by simp), if_neg h]
theorem kp_run {p : L} (h : 92 ∉ p) (r : L) : kp (p ++ r) = p ++ kp r := by
  induction p with
  | nil => rfl
  | cons c t ih =>
    simp only [List.mem_cons, not_or] at h
    rw [List.cons_append, kp_plain _ (fun e => h.1 e.symm), ih h.2]; rfl
theorem lone_run {p : L} (h : 92 ∉ p) (r : L) : lone (p ++ r) = lone r := by
  induction p with
  | nil => rfl
  | cons c t ih =>
    simp only [List.mem_cons, not_or] at h
    rw [List.cons_append, lone_plain _ (fun e => h.1 e.symm), ih h.2]

/-! ### the closing quotation mark -/
def clo : Bool → L → Option Nat
  | _, [] => none
  | even, c :: t => if c = 34 ∧ even = true then some 0 else (clo (if c = 92 then !even else true) t).map (· + 1)
theorem hex_not {c : Int} (h : hex c = true) : c ≠ 34 ∧ c ≠ 92 := by
  unfold hex dig at h
  simp at h
  omega
theorem clo_step {c : Int} {t : L} {e : Bool} {n : Nat} (h : ¬ (c = 34 ∧ e = true)) (hc : clo e (c :: t) = some (n + 1)) : clo (if c = 92 then !e else true) t = some n := by
  rw [clo, if_neg h] at hc
  obtain ⟨m, h1, h2⟩ := Option.map_eq_some_iff.1 hc
  rw [h1, show m = n by omega]
theorem clo_not {c : Int} {t : L} {e : Bool} {n : Nat} (hc : clo e (c :: t) = some (n + 1)) : ¬ (c = 34 ∧ e = true) := by
  intro h
  rw [clo, if_pos h] at hc
  injection hc with hc; omega
/-- Two bytes, the first a backslash. -/
theorem clo_two {d : Int} {t : L} {n : Nat} (hc : clo true (92 :: d :: t) = some (n + 2)) : clo true t = some n := by
  have h1 := clo_step (clo_not hc) hc
  rw [if_pos rfl] at h1
  have h2 := clo_step (clo_not h1) h1
  by_cases e : d = 92
  · rw [if_pos e] at h2; exact h2
  · rw [if_neg e] at h2; exact h2
theorem clo_plain {d : Int} {t : L} {n : Nat} (hd : d ≠ 92) (hc : clo true (d :: t) = some (n + 1)) : clo true t = some n := by
  have h1 := clo_step (clo_not hc) hc
  rwa [if_neg hd] at h1
theorem six {l : L} {n : Int} (h : unit l = some n) : ∃ a b c d r, l = 92 :: 117 :: a :: b :: c :: d :: r ∧ hex a = true ∧ hex b = true ∧ hex c = true ∧ hex d = true := by
  unfold unit at h
  split at h
  · rename_i g
    obtain ⟨g0, g1, g2, g3, g4, g5, g6⟩ := g
    match l, g0 with
    | x :: y :: a :: b :: c :: d :: r, _ =>
      simp at g1 g2 g3 g4 g5 g6
      exact ⟨a, b, c, d, r, by rw [g1, g2], g3, g4, g5, g6⟩
  · cases h
theorem clo_six {l q : L} {n : Int} {k : Nat} (h : unit l = some n) (hc : clo true (l ++ q) = some (k + 6)) : clo true (l.drop 6 ++ q) = some k := by
  obtain ⟨a, b, c, d, r, rfl, ha, hb, hc', hd⟩ := six h
  simp only [List.cons_append, List.drop_succ_cons, List.drop_zero] at hc ⊢
  exact clo_plain (hex_not hd).2 (clo_plain (hex_not hc').2 (clo_plain (hex_not hb).2 (clo_plain (hex_not ha).2 (clo_two hc))))
theorem lone_of_clo : ∀ (m : Nat) (l : L), l.length ≤ m → clo true (l ++ [34]) = some l.length → lone l = false := by
  intro m
  induction m with
  | zero =>
    intro l hl _
    obtain rfl : l = [] := List.eq_nil_of_length_eq_zero (by omega)
    exact lone_nil
  | succ m ih =>
    intro l hl hc
    cases l with
    | nil => exact lone_nil
    | cons c t =>
      simp only [List.length_cons] at hl hc
      by_cases h92 : c = 92
      · subst h92
        cases t with
        | nil =>
          exfalso
          have := clo_step (clo_not hc) hc
          simp [clo] at this
        | cons d t =>
          rw [lone_esc (by simp)]
          have hk : ∀ k, 2 ≤ k → k ≤ (92 :: d :: t).length → clo true ((92 :: d :: t).drop k ++ [34]) = some ((92 :: d :: t).length - k) → lone ((92 :: d :: t).drop k) = false := fun k h2 hk h => by
            refine ih _ ?_ ?_
            · rw [List.length_drop, List.length_cons]; omega
            · rw [List.length_drop]; exact h
          refine hk _ (ke_pos _) (ke_le (by simp)) ?_
          have two : clo true ((92 :: d :: t).drop 2 ++ [34]) = some ((92 :: d :: t).length - 2) := clo_two hc
          have six' : ∀ n, unit (92 :: d :: t) = some n → clo true ((92 :: d :: t).drop 6 ++ [34]) = some ((92 :: d :: t).length - 6) := fun n h => by
            have h6 := unit_len h
            simp only [List.length_cons] at h6 hc
            refine clo_six (k := (92 :: d :: t).length - 6) h ?_
            simp only [List.length_cons]
            rw [show t.length + 1 + 1 - 6 + 6 = t.length + 1 + 1 by omega]; exact hc
          unfold ke
          split
          · rename_i n e
            split
            · split
              · rename_i x e2
                have h6 := unit_len e
                have h12 := unit_len e2
                rw [List.length_drop] at h12
                have := clo_six (q := [34]) (k := (92 :: d :: t).length - 12) e2 (by rw [show (92 :: d :: t).length - 12 + 6 = (92 :: d :: t).length - 6 by omega]; exact six' n e)
                rwa [List.drop_drop] at this
              · exact six' n e
            · exact six' n e
          · split <;> exact two
      · rw [lone_plain _ h92]
        exact ih t (by omega) (clo_plain h92 hc)

/-! ### two insides, one behind the other -/
/-- Each half of a surrogate pair stands beside the other half. -/
def prd (l : L) : Bool :=
  match l with
  | [] => true
  | c :: t => if c ≠ 92 then prd t else match unit (c :: t) with
    | none => prd ((c :: t).drop 2)
    | some n => if high n = true then (match unit ((c :: t).drop 6) with
        | some m => if low m = true then prd ((c :: t).drop 12) else false
        | none => false)
      else if low n = true then false else prd ((c :: t).drop 6)
termination_by l.length
decreasing_by all_goals (simp only [List.length_drop, List.length_cons]; omega)
theorem prd_nil : prd [] = true := by rw [prd]
theorem prd_plain {c : Int} (t : L) (h : c ≠ 92) : prd (c :: t) = prd t := by rw [prd, if_pos h]
theorem prd_esc (t : L) : prd (92 :: t) = (match unit (92 :: t) with
    | none => prd ((92 :: t).drop 2)
    | some n => if high n = true then (match unit ((92 :: t).drop 6) with
        | some m => if low m = true then prd ((92 :: t).drop 12) else false
        | none => false)
      else if low n = true then false else prd ((92 :: t).drop 6)) := by rw [prd, if_neg (by simp)]
theorem unit_app {l : L} {n : Int} (h : unit l = some n) (q : L) : unit (l ++ q) = some n := by
  obtain ⟨a, b, c, d, r, rfl, ha, hb, hc, hd⟩ := six h
  rw [← h]
  unfold unit
  simp [ha, hb, hc, hd]
theorem hexesFour {l r : L} (h : hexes 4 l = some r) : ∃ a b c d, l = a :: b :: c :: d :: r ∧ hex a = true ∧ hex b = true ∧ hex c = true ∧ hex d = true := by
  match l, h with
  | [], h => simp [hexes] at h
  | [a], h => simp only [hexes] at h; split at h <;> cases h
  | [a, b], h => simp only [hexes] at h; (repeat' split at h) <;> cases h
  | [a, b, c], h => simp only [hexes] at h; (repeat' split at h) <;> cases h
  | a :: b :: c :: d :: t, h =>
    simp only [hexes] at h
    split at h
    · rename_i ha
      split at h
      · rename_i hb
        split at h
        · rename_i hc
          split at h
          · rename_i hd
            injection h with h
            exact ⟨a, b, c, d, by rw [h], ha, hb, hc, hd⟩
          · cases h
        · cases h
      · cases h
    · cases h
/-- A well-formed escape is a short one or one of four digits. -/
theorem esc_kinds {t r : L} (h : esc t = some r) : (∃ c, t = c :: r ∧ plainEsc c = true) ∨ (∃ n, unit (92 :: t) = some n ∧ (92 :: t).drop 6 = r) := by
  cases t with
  | nil => cases h
  | cons c t =>
    rw [esc] at h
    split at h
    · rename_i hp
      injection h with h
      exact .inl ⟨c, by rw [h], hp⟩
    · split at h
      · rename_i h117
        obtain ⟨a, b, d, e, rfl, ha, hb, hd, he⟩ := hexesFour h
        subst h117
        have hu : ∃ n, unit (92 :: 117 :: a :: b :: d :: e :: r) = some n := by
          unfold unit
          rw [if_pos (by simp [ha, hb, hd, he])]
          exact ⟨_, rfl⟩
        obtain ⟨n, hn⟩ := hu
        exact .inr ⟨n, hn, rfl⟩
      · cases h
theorem unit_short {c : Int} (h : plainEsc c = true) (t : L) : unit (92 :: c :: t) = none := by
  have : c ≠ 117 := by rintro rfl; exact absurd h (by decide)
  unfold unit
  rw [if_neg (by simp [this])]
theorem kp_two (a : L) : ∀ (m : Nat) (l : L), l.length ≤ m → wellE l = true → prd l = true → kp (l ++ a) = kp l ++ kp a ∧ (lone (l ++ a) = lone a) ∧ lone l = false := by
  intro m
  induction m with
  | zero =>
    intro l hl _ _
    obtain rfl : l = [] := List.eq_nil_of_length_eq_zero (by omega)
    exact ⟨by rw [kp_nil]; rfl, rfl, lone_nil⟩
  | succ m ih =>
    intro l hl hw hp
    cases l with
    | nil => exact ⟨by rw [kp_nil]; rfl, rfl, lone_nil⟩
    | cons c t =>
      simp only [List.length_cons] at hl
      by_cases h92 : c = 92
      · subst h92
        have step : ∀ r : L, (92 :: t : L).drop (ke (92 :: t)).1 = r → t ≠ [] → r.length ≤ m → ke (92 :: (t ++ a)) = ke (92 :: t) → (92 :: (t ++ a)).drop (ke (92 :: t)).1 = r ++ a → wellE r = true → prd r = true → kp (92 :: t ++ a) = kp (92 :: t) ++ kp a ∧ lone (92 :: t ++ a) = lone a ∧ lone (92 :: t) = false := fun r h1 h2 h3 h4 h5 h6 h7 => by
          obtain ⟨i1, i2, i3⟩ := ih r h3 h6 h7
          have hne : t ++ a ≠ [] := by simp [h2]
          rw [List.cons_append, kp_esc hne, kp_esc h2, lone_esc hne, lone_esc h2, h4, h5, h1, i1, i2, i3]
          exact ⟨by rw [List.append_assoc], rfl, rfl⟩
        cases he : esc t with
        | none => rw [wellE_no he] at hw; cases hw
        | some r =>
          rw [wellE_yes he] at hw
          rcases esc_kinds he with ⟨d, rfl, hd⟩ | ⟨n, hn, hr⟩
          · have e1 : ke (92 :: d :: r) = (2, [short d]) := by
              unfold ke; rw [unit_short hd]; simp only []; rw [if_pos (by simpa using hd)]; rfl
            have e2 : ke (92 :: (d :: r ++ a)) = (2, [short d]) := by
              unfold ke; rw [show (d :: r ++ a) = d :: (r ++ a) from rfl, unit_short hd]; simp only []; rw [if_pos (by simpa using hd)]; rfl
            have hp' : prd r = true := by
              rw [prd_esc, unit_short hd] at hp; exact hp
            exact step r (by rw [e1]; rfl) (by simp) (by simp only [List.length_cons] at hl; omega) (by rw [e1, e2]) (by rw [e1]; rfl) hw hp'
          · have hn' : unit (92 :: (t ++ a)) = some n := unit_app hn a
            have h6 := unit_len hn
            simp only [List.length_cons] at h6
            have ht : t ≠ [] := by rintro rfl; simp at h6
            have d6 : ∀ k, k ≤ (92 :: t).length → (92 :: (t ++ a)).drop k = (92 :: t).drop k ++ a := fun k hk => by
              rw [← List.cons_append, List.drop_append_of_le_length hk]
            rw [prd_esc, hn] at hp
            simp only [] at hp
            split at hp
            · rename_i hh
              split at hp
              · rename_i x e2
                split at hp
                · rename_i hl2
                  have h12 := unit_len e2
                  rw [List.length_drop, List.length_cons] at h12
                  have e1 : ke (92 :: t) = (12, utf8 (comb n x)) := by
                    unfold ke; rw [hn]; simp only []; rw [if_pos (.inl hh), e2]; simp only []; rw [if_pos ⟨hh, hl2⟩]
                  have e2' : unit ((92 :: (t ++ a)).drop 6) = some x := by rw [d6 6 (by simp only [List.length_cons]; omega)]; exact unit_app e2 a
                  have e3 : ke (92 :: (t ++ a)) = (12, utf8 (comb n x)) := by
                    unfold ke; rw [hn']; simp only []; rw [if_pos (.inl hh), e2']; simp only []; rw [if_pos ⟨hh, hl2⟩]
                  -- the second escape is well formed, too
                  have hw2 : wellE ((92 :: t).drop 12) = true := by
                    obtain ⟨p, q, u, v, s, hs, g1, g2, g3, g4⟩ := six e2
                    rw [hr] at hs
                    rw [hs] at hw
                    have : esc (117 :: p :: q :: u :: v :: s) = some s := by
                      rw [esc, if_neg (by decide), if_pos rfl]
                      simp [hexes, g1, g2, g3, g4]
                    rw [wellE_yes this] at hw
                    have h12 : (92 :: t).drop 12 = s := by
                      rw [show (12 : Nat) = 6 + 6 from rfl, ← List.drop_drop, hr, hs]; rfl
                    rw [h12]; exact hw
                  exact step _ rfl ht (by rw [e1, List.length_drop, List.length_cons]; omega) (by rw [e1, e3]) (by rw [e1]; exact d6 12 (by simp only [List.length_cons]; omega)) (by rw [e1]; exact hw2) (by rw [e1]; exact hp)
                · cases hp
              · cases hp
            · rename_i hh
              split at hp
              · cases hp
              · rename_i hl2
                have e1 : ke (92 :: t) = (6, utf8 n) := by
                  unfold ke; rw [hn]; simp only []; rw [if_neg (by simp [hh, hl2])]
                have e3 : ke (92 :: (t ++ a)) = (6, utf8 n) := by
                  unfold ke; rw [hn']; simp only []; rw [if_neg (by simp [hh, hl2])]
                exact step _ rfl ht (by rw [e1, List.length_drop, List.length_cons]; omega) (by rw [e1, e3]) (by rw [e1]; exact d6 6 (by simp only [List.length_cons]; omega)) (by rw [e1]; show wellE ((92 :: t).drop 6) = true; rw [hr]; exact hw) (by rw [e1]; exact hp)
      · rw [wellE_plain _ h92] at hw
        rw [prd_plain _ h92] at hp
        obtain ⟨i1, i2, i3⟩ := ih t (by omega) hw hp
        rw [List.cons_append, kp_plain _ h92, kp_plain _ h92, lone_plain _ h92, lone_plain _ h92, i1, i2, i3]
        exact ⟨rfl, rfl, rfl⟩
end Go.Proofs.YtkmdcckiehbcmaaDoor.J
