/- Several texts in one. -/
import Derived.Test.YtcaigeikdnoheaaGreatDoorZGj
import Derived.Test.YtcaigeikdnoheaaGreatDoorZGc
import Derived.Test.YtcaigeikdnoheaaGreatDoorZGf
import Derived.Test.YtcaigeikdnoheaaGreatDoorZGd
import Derived.Test.YtcaigeikdnoheaaGreatDoorZGa
import Derived.Lib.ParseIntB
set_option linter.unusedVariables false
set_option linter.unusedSimpArgs false
namespace Go.Proofs.YtcaigeikdnoheaaGreatDoor.Fp
open Go.RowKit Go.Proofs.YtcaigeikdnoheaaGreatDoor.J

theorem blank_wsB (c : Int) : J.blank c = wsB c := by unfold J.blank wsB; cases c == 32 <;> cases c == 9 <;> cases c == 10 <;> rfl
theorem skip_ws : ∀ l : L, skip l = ws l
  | [] => rfl
  | c :: t => by
    have ih := skip_ws t
    unfold ws at ih ⊢
    rw [skip, List.dropWhile_cons, blank_wsB]
    cases wsB c <;> simp [ih]
/-- The shape of a number: a sign, digits, what is behind them. -/
structure Nm (l sg ds fr r : L) : Prop where
  eq : l = sg ++ (ds ++ (fr ++ r))
  hsg : sg = [] ∨ sg = [45]
  ne : ds ≠ []
  dg : ∀ c ∈ ds, dig c = true
  hfr : ∀ c ∈ fr, nb c = true
  hhd : ∀ c t, fr = c :: t → dig c = false
  lz : ds = [48] ∨ ∀ t, ds ≠ 48 :: t
theorem digs_pre2 : ∀ l : L, ∃ d, l = d ++ digs l ∧ ∀ c ∈ d, dig c = true
  | [] => ⟨[], rfl, fun c h => by cases h⟩
  | c :: t => by
    rw [digs]
    split
    · rename_i h
      obtain ⟨d, e, hd⟩ := digs_pre2 t
      exact ⟨c :: d, by rw [List.cons_append, ← e], fun x hx => by rcases List.mem_cons.1 hx with rfl | hx; exact h; exact hd x hx⟩
    · exact ⟨[], rfl, fun c h => by cases h⟩
theorem digits_pre2 {l r : L} (h : digits l = some r) : ∃ d, l = d ++ r ∧ d ≠ [] ∧ ∀ c ∈ d, dig c = true := by
  cases l with
  | nil => simp [digits] at h
  | cons c t =>
    rw [digits] at h
    split at h
    · rename_i hc
      injection h with h
      obtain ⟨d, e, hd⟩ := digs_pre2 t
      exact ⟨c :: d, by rw [List.cons_append, ← h, ← e], by simp, fun x hx => by rcases List.mem_cons.1 hx with rfl | hx; exact hc; exact hd x hx⟩
    · cases h
theorem nb_dig {c : Int} (h : dig c = true) : nb c = true := by unfold dig at h; unfold nb; rw [h]; rfl
theorem opt_pre (c : Int) (l : L) : ∃ d, l = d ++ opt c l ∧ (d = [] ∨ d = [c]) := by
  unfold opt
  cases h : J.take c l with
  | none => exact ⟨[], rfl, .inl rfl⟩
  | some t => exact ⟨[c], by rw [take_some h]; rfl, .inr rfl⟩
theorem expTail_pre {l r : L} (h : expTail l = some r) : ∃ d, l = d ++ r ∧ ∀ c ∈ d, nb c = true := by
  unfold expTail at h
  cases h1 : J.take 43 l with
  | some u =>
    rw [h1] at h
    obtain ⟨d, e, _, hd⟩ := digits_pre2 h
    refine ⟨43 :: d, by rw [take_some h1, e]; rfl, fun c hc => ?_⟩
    rcases List.mem_cons.1 hc with rfl | hc
    · rfl
    · exact nb_dig (hd c hc)
  | none =>
    rw [h1] at h
    obtain ⟨s, es, hs⟩ := opt_pre 45 l
    obtain ⟨d, e, _, hd⟩ := digits_pre2 h
    refine ⟨s ++ d, by rw [List.append_assoc, ← e]; exact es, fun c hc => ?_⟩
    rcases List.mem_append.1 hc with hc | hc
    · rcases hs with rfl | rfl
      · cases hc
      · rw [List.mem_singleton.1 hc]; rfl
    · exact nb_dig (hd c hc)
theorem expo_pre {l r : L} (h : expo l = some r) : ∃ d, l = d ++ r ∧ (∀ c ∈ d, nb c = true) ∧ ∀ c t, d = c :: t → c = 101 ∨ c = 69 := by
  unfold expo at h
  cases h1 : J.take 101 l with
  | some t =>
    rw [h1] at h
    obtain ⟨d, e, hd⟩ := expTail_pre h
    refine ⟨101 :: d, by rw [take_some h1, e]; rfl, fun c hc => ?_, fun c t' he => by injection he with he; exact .inl he.symm⟩
    rcases List.mem_cons.1 hc with rfl | hc
    · rfl
    · exact hd c hc
  | none =>
    rw [h1] at h
    cases h2 : J.take 69 l with
    | some t =>
      rw [h2] at h
      obtain ⟨d, e, hd⟩ := expTail_pre h
      refine ⟨69 :: d, by rw [take_some h2, e]; rfl, fun c hc => ?_, fun c t' he => by injection he with he; exact .inr he.symm⟩
      rcases List.mem_cons.1 hc with rfl | hc
      · rfl
      · exact hd c hc
    | none =>
      rw [h2] at h
      injection h with h
      exact ⟨[], by rw [h]; rfl, (fun c hc => by cases hc), (fun c t he => by cases he)⟩
theorem frac_pre {l r : L} (h : frac l = some r) : ∃ d, l = d ++ r ∧ (∀ c ∈ d, nb c = true) ∧ ∀ c t, d = c :: t → dig c = false := by
  unfold frac at h
  cases h1 : J.take 46 l with
  | some t =>
    rw [h1] at h
    obtain ⟨u, hu, h⟩ := Option.bind_eq_some_iff.1 h
    obtain ⟨d, e, _, hd⟩ := digits_pre2 hu
    obtain ⟨d2, e2, hd2, _⟩ := expo_pre h
    refine ⟨46 :: (d ++ d2), by rw [take_some h1, e, e2]; simp, fun c hc => ?_, fun c t' he => by injection he with he; subst he; rfl⟩
    rcases List.mem_cons.1 hc with rfl | hc
    · rfl
    rcases List.mem_append.1 hc with hc | hc
    · exact nb_dig (hd c hc)
    · exact hd2 c hc
  | none =>
    rw [h1] at h
    obtain ⟨d, e, hd, hh⟩ := expo_pre h
    exact ⟨d, e, hd, fun c t he => by rcases hh c t he with rfl | rfl <;> rfl⟩
theorem num_shape {l r : L} (h : J.num l = some r) : ∃ sg ds fr, Nm l sg ds fr r := by
  unfold J.num at h
  obtain ⟨u, hu, h⟩ := Option.bind_eq_some_iff.1 h
  obtain ⟨sg, es, hs⟩ := opt_pre 45 l
  obtain ⟨fr, ef, hf, hh⟩ := frac_pre h
  unfold whole at hu
  cases h1 : J.take 48 (opt 45 l) with
  | some t =>
    rw [h1] at hu
    injection hu with hu
    refine ⟨sg, [48], fr, ⟨?_, hs, by simp, fun c hc => by rw [List.mem_singleton.1 hc]; rfl, hf, hh, .inl rfl⟩⟩
    rw [← ef, ← hu]
    exact es.trans (by rw [take_some h1]; rfl)
  | none =>
    rw [h1] at hu
    obtain ⟨ds, ed, hne, hd⟩ := digits_pre2 hu
    refine ⟨sg, ds, fr, ⟨by rw [← ef, ← ed]; exact es, hs, hne, hd, hf, hh, .inr ?_⟩⟩
    rintro t rfl
    rw [ed, List.cons_append, J.take, if_pos rfl] at h1
    cases h1
theorem nb_ws {c : Int} (h : wsB c = true) : nb c = false := by
  unfold wsB at h
  simp only [Bool.or_eq_true, beq_iff_eq] at h
  rcases h with ((rfl | rfl) | rfl) | rfl <;> rfl
theorem ws_nil_head {r : L} (h : ws r = []) : r = [] ∨ ∃ c t, r = c :: t ∧ nb c = false := by
  cases r with
  | nil => exact .inl rfl
  | cons c t =>
    refine .inr ⟨c, t, rfl, nb_ws ?_⟩
    cases e : wsB c with
    | true => rfl
    | false =>
      unfold ws at h
      rw [List.dropWhile_cons, e] at h
      simp at h
theorem Nm.all {l sg ds fr r : L} (h : Nm l sg ds fr r) : ∀ c ∈ sg ++ (ds ++ fr), nb c = true := by
  intro c hc
  rcases List.mem_append.1 hc with hc | hc
  · rcases h.hsg with e | e
    · rw [e] at hc; cases hc
    · rw [e] at hc; rw [List.mem_singleton.1 hc]; rfl
  rcases List.mem_append.1 hc with hc | hc
  · exact nb_dig (h.dg c hc)
  · exact h.hfr c hc
theorem num_fj {l sg ds fr r : L} (h : Nm l sg ds fr r) (hr : r = [] ∨ ∃ c t, r = c :: t ∧ nb c = false) : num l = some (sg ++ (ds ++ fr), r) := by
  have hall := h.all
  have el : l = (sg ++ (ds ++ fr)) ++ r := by rw [h.eq]; simp
  have et : r.takeWhile nb = [] := by
    rcases hr with rfl | ⟨c, t, rfl, hc⟩
    · rfl
    · rw [List.takeWhile_cons, hc]; rfl
  have ed : r.dropWhile nb = r := by
    rcases hr with rfl | ⟨c, t, rfl, hc⟩
    · rfl
    · rw [List.dropWhile_cons, hc]; rfl
  have e1 : l.takeWhile nb = sg ++ (ds ++ fr) := by rw [el, List.takeWhile_append_of_pos hall, et, List.append_nil]
  have e2 : l.dropWhile nb = r := by rw [el, List.dropWhile_append_of_pos hall, ed]
  have n1 : sg ++ (ds ++ fr) ≠ [] := by
    intro e
    exact h.ne (List.append_eq_nil_iff.1 (List.append_eq_nil_iff.1 e).2).1
  have n2 : ∀ x : Int, dig x = false → sg ++ (ds ++ fr) ≠ [x] := by
    intro x hx e
    obtain ⟨d, u, hd⟩ : ∃ d u, ds = d :: u := by
      cases hds : ds with
      | nil => exact absurd hds h.ne
      | cons d u => exact ⟨d, u, rfl⟩
    have hdd := h.dg d (by rw [hd]; exact List.mem_cons_self)
    rcases h.hsg with es | es
    · rw [es, hd] at e
      injection e with e _
      rw [e, hx] at hdd
      cases hdd
    · rw [es, hd] at e
      simp at e
  unfold num
  simp only [e1, e2]
  split
  · rename_i h0
    rw [h0, List.append_nil] at el
    rw [el, h0]
  · have n3 : ¬(sg ++ (ds ++ fr) = [45] ∨ sg ++ (ds ++ fr) = [43]) := by intro hh; rcases hh with hh | hh; exact n2 45 rfl hh; exact n2 43 rfl hh
    first | rw [if_neg n1, if_neg n3] | rw [if_neg n3]
end Go.Proofs.YtcaigeikdnoheaaGreatDoor.Fp

set_option linter.unusedVariables false
set_option linter.unusedSimpArgs false
namespace Go.Proofs.YtcaigeikdnoheaaGreatDoor.Fp
open Go.RowKit Go.Proofs.YtcaigeikdnoheaaGreatDoor.J

/-- fastjson takes a well-formed inside for what the reference does. -/
theorem kp_unq : ∀ (m : Nat) (l : L), l.length ≤ m → wellE l = true → prd l = true → kp l = unq l := by
  intro m
  induction m with
  | zero =>
    intro l hl _ _
    obtain rfl : l = [] := List.eq_nil_of_length_eq_zero (by omega)
    rw [kp_nil, unq]
  | succ m ih =>
    intro l hl hw hp
    cases l with
    | nil => rw [kp_nil, unq]
    | cons c t =>
      simp only [List.length_cons] at hl
      by_cases h92 : c = 92
      · subst h92
        cases he : esc t with
        | none => rw [wellE_no he] at hw; cases hw
        | some r =>
          rw [wellE_yes he] at hw
          rcases esc_kinds he with ⟨d, rfl, hd⟩ | ⟨n, hn, hr⟩
          · have e1 : ke (92 :: d :: r) = (2, [J.short d]) := by
              unfold ke; rw [unit_short hd]; simp only []; rw [if_pos (by simpa using hd)]; rfl
            have hp' : prd r = true := by
              rw [prd_esc, unit_short hd] at hp; exact hp
            rw [kp_esc (by simp), e1, unq, if_pos rfl, unit_short hd]
            simp only [List.headD_cons, List.tail_cons]
            show [J.short d] ++ kp r = J.short d :: unq r
            rw [ih r (by simp only [List.length_cons] at hl; omega) hw hp']; rfl
          · have h6 : 6 ≤ (92 :: t : L).length := by
              obtain ⟨a, b, c, d, q, hq, _⟩ := six hn
              rw [hq]; simp
            simp only [List.length_cons] at h6
            have ht : t ≠ [] := by rintro rfl; simp at h6
            have hd6 : (92 :: t : L).drop 6 = t.drop 5 := rfl
            have hd12 : (92 :: t : L).drop 12 = t.drop 11 := rfl
            rw [prd_esc, hn] at hp
            simp only [] at hp
            rw [unq, if_pos rfl, hn]
            simp only []
            split at hp
            · rename_i hh
              split at hp
              · rename_i x e2
                split at hp
                · rename_i hl2
                  have e1 : ke (92 :: t) = (12, utf8 (comb n x)) := by
                    unfold ke; rw [hn]; simp only []; rw [if_pos (.inl hh), e2]; simp only []; rw [if_pos ⟨hh, hl2⟩]
                  have hw2 : wellE ((92 :: t).drop 12) = true := by
                    obtain ⟨p, q, u, v, s, hs, g1, g2, g3, g4⟩ := six e2
                    rw [hr] at hs
                    rw [hs] at hw
                    have : esc (117 :: p :: q :: u :: v :: s) = some s := by
                      rw [esc, if_neg (by decide), if_pos rfl]
                      simp [hexes, g1, g2, g3, g4]
                    rw [wellE_yes this] at hw
                    have h12 : (92 :: t).drop 12 = s := by
                      rw [show (12 : Nat) = 6 + 6 from rfl, ← List.drop_drop, hr, hs]; rfl
                    rw [h12]; exact hw
                  rw [hd6] at e2
                  rw [e2]
                  simp only []
                  rw [if_pos ⟨hh, hl2⟩, kp_esc ht, e1]
                  show utf8 (comb n x) ++ kp ((92 :: t).drop 12) = _
                  rw [ih _ (by rw [List.length_drop, List.length_cons]; omega) hw2 hp, hd12]
                · cases hp
              · cases hp
            · rename_i hh
              split at hp
              · cases hp
              · rename_i hl2
                have e1 : ke (92 :: t) = (6, utf8 n) := by
                  unfold ke; rw [hn]; simp only []; rw [if_neg (by simp [hh, hl2])]
                rw [kp_esc ht, e1]
                show utf8 n ++ kp ((92 :: t).drop 6) = _
                rw [ih _ (by rw [List.length_drop, List.length_cons]; omega) (by rw [hr]; exact hw) hp, hd6]
                split
                · rw [if_neg (fun e => hh e.1)]
                · rfl
      · rw [wellE_plain _ h92] at hw
        rw [prd_plain _ h92] at hp
        rw [kp_plain _ h92, unq, if_neg h92, ih t (by omega) hw hp]
/-- A string that ends well formed parts the text. -/
theorem prd_split (r : L) : ∀ (m : Nat) (a : L), a.length ≤ m → wellE a = true → prd (a ++ 34 :: r) = true → prd a = true ∧ prd r = true := by
  intro m
  induction m with
  | zero =>
    intro a hl _ hp
    obtain rfl : a = [] := List.eq_nil_of_length_eq_zero (by omega)
    rw [List.nil_append, prd_plain _ (by decide)] at hp
    exact ⟨prd_nil, hp⟩
  | succ m ih =>
    intro a hl hw hp
    cases a with
    | nil =>
      rw [List.nil_append, prd_plain _ (by decide)] at hp
      exact ⟨prd_nil, hp⟩
    | cons c t =>
      simp only [List.length_cons] at hl
      by_cases h92 : c = 92
      · subst h92
        cases he : esc t with
        | none => rw [wellE_no he] at hw; cases hw
        | some q =>
          rw [wellE_yes he] at hw
          rcases esc_kinds he with ⟨d, rfl, hd⟩ | ⟨n, hn, hr⟩
          · simp only [List.length_cons] at hl
            have hp' : prd (q ++ 34 :: r) = true := by
              rw [show ((92 :: d :: q : L) ++ 34 :: r) = 92 :: d :: (q ++ 34 :: r) from rfl, prd_esc, unit_short hd] at hp
              exact hp
            obtain ⟨i1, i2⟩ := ih q (by omega) hw hp'
            exact ⟨by rw [prd_esc, unit_short hd]; exact i1, i2⟩
          · have hn' : unit (92 :: (t ++ 34 :: r)) = some n := unit_app hn (34 :: r)
            have h6 : 6 ≤ (92 :: t : L).length := by
              obtain ⟨a, b, c, d, q, hq, _⟩ := six hn
              rw [hq]; simp
            have d6 : (92 :: (t ++ 34 :: r)).drop 6 = q ++ 34 :: r := by
              rw [← List.cons_append, List.drop_append_of_le_length h6, hr]
            have hql : q.length + 6 ≤ t.length + 1 := by
              rw [← hr, List.length_drop, List.length_cons]
              simp only [List.length_cons] at h6; omega
            rw [List.cons_append, prd_esc, hn'] at hp
            simp only [] at hp
            rw [d6] at hp
            rw [prd_esc, hn]
            simp only []
            rw [hr]
            split at hp
            · rename_i hh
              rw [if_pos hh]
              split at hp
              · rename_i x e2
                split at hp
                · rename_i hl2
                  obtain ⟨p, p2, u, v, s, hs, g1, g2, g3, g4⟩ := six e2
                  cases q with
                  | nil => injection hs with hs; cases hs
                  | cons q0 q1 =>
                    rw [List.cons_append] at hs
                    injection hs with hs0 hs1
                    subst hs0
                    cases he2 : esc q1 with
                    | none => rw [wellE_no he2] at hw; cases hw
                    | some q2 =>
                      rw [wellE_yes he2] at hw
                      rcases esc_kinds he2 with ⟨d, rfl, hd⟩ | ⟨n2, hn2, hr2⟩
                      · rw [List.cons_append] at hs1
                        injection hs1 with hs1 _
                        rw [hs1] at hd
                        exact absurd hd (by decide)
                      · have hx : n2 = x := by
                          have := unit_app hn2 (34 :: r)
                          rw [e2] at this
                          exact (Option.some.inj this).symm
                        subst hx
                        have h62 : 6 ≤ (92 :: q1 : L).length := by
                          obtain ⟨a, b, c, d, q, hq, _⟩ := six hn2
                          rw [hq]; simp
                        have d62 : ((92 :: q1 : L) ++ 34 :: r).drop 6 = q2 ++ 34 :: r := by
                          rw [List.drop_append_of_le_length h62, hr2]
                        have d12 : (92 :: (t ++ 34 :: r)).drop 12 = q2 ++ 34 :: r := by
                          rw [show (12 : Nat) = 6 + 6 from rfl, ← List.drop_drop, d6, d62]
                        rw [d12] at hp
                        have hq2 : q2.length ≤ q1.length := by
                          rw [← hr2, List.length_drop, List.length_cons]; omega
                        simp only [List.length_cons] at hql
                        obtain ⟨i1, i2⟩ := ih q2 (by omega) hw hp
                        rw [hn2]
                        simp only []
                        rw [if_pos hl2, show (12 : Nat) = 6 + 6 from rfl, ← List.drop_drop, hr, hr2]
                        exact ⟨i1, i2⟩
                · cases hp
              · cases hp
            · rename_i hh
              rw [if_neg hh]
              split at hp
              · cases hp
              · rename_i hl2
                rw [if_neg hl2]
                exact ih q (by omega) hw hp
      · rw [wellE_plain _ h92] at hw
        rw [List.cons_append, prd_plain _ h92] at hp
        rw [prd_plain _ h92]
        exact ih t (by omega) hw hp
theorem prd_run {p : L} (h : ∀ c ∈ p, c ≠ 92) (r : L) : prd (p ++ r) = prd r := by
  induction p with
  | nil => rfl
  | cons c t ih =>
    rw [List.cons_append, prd_plain _ (h c List.mem_cons_self)]
    exact ih fun x hx => h x (List.mem_cons_of_mem _ hx)
theorem prd_ws (l : L) : prd (ws l) = prd l := by
  unfold ws
  induction l with
  | nil => rfl
  | cons c t ih =>
    rw [List.dropWhile_cons]
    cases h : wsB c with
    | true =>
      rw [prd_plain t (by rintro rfl; cases h)]
      simpa using ih
    | false => simp
/-- What is behind a string, and its inside. -/
theorem str_prd {t a r : L} (h : str t = some r) (e : t = a ++ 34 :: r) (hp : prd t = true) : wellE a = true ∧ prd a = true ∧ prd r = true := by
  obtain ⟨d, e2, hw, _⟩ := str_cut h
  have : a = d := List.append_cancel_right (e.symm.trans e2)
  subst this
  rw [e] at hp
  obtain ⟨i1, i2⟩ := prd_split r _ a (Nat.le_refl _) hw hp
  exact ⟨hw, i1, i2⟩
end Go.Proofs.YtcaigeikdnoheaaGreatDoor.Fp

set_option linter.unusedVariables false
set_option linter.unusedSimpArgs false
namespace Go.Proofs.YtcaigeikdnoheaaGreatDoor.Fp
open Go.RowKit Go.Proofs.YtcaigeikdnoheaaGreatDoorW.PrintWords Go.Proofs.YtcaigeikdnoheaaGreatDoorW.PrintMore Go.Proofs.YtcaigeikdnoheaaGreatDoor.Aid Go.Proofs.YtcaigeikdnoheaaGreatDoor.J

mutual
/-- How many levels a place has. -/
def lv : Pl → Nat
  | ⟨_, _, _, _, ks⟩ => lvs ks + 1
def lvs : List Pl → Nat
  | [] => 0
  | p :: ks => max (lv p) (lvs ks)
end
theorem lv_pos (p : Pl) : 1 ≤ lv p := by cases p; rw [lv]; omega
theorem lvs_cons (p : Pl) (ks : List Pl) : lvs (p :: ks) = max (lv p) (lvs ks) := by rw [lvs]
theorem lvs_le {p : Pl} {ks : List Pl} {n : Nat} (h : lvs (p :: ks) ≤ n) : lv p ≤ n ∧ lvs ks ≤ n := by rw [lvs_cons] at h; omega
mutual
/-- A tree of fastjson's parser and a place of the reference's, of one text. -/
def PR (all : L) : T → Pl → Prop
  | .leaf k a, p => ((p.kind = 3 ∧ k = 4 ∧ sl all p.b p.e = a) ∨ (p.kind = 4 ∧ k = 7 ∧ sl all p.b p.e = 34 :: (a ++ [34])) ∨ (p.kind = 0 ∧ k = 0 ∧ a = []) ∨ (p.kind = 1 ∧ k = 6 ∧ a = []) ∨ (p.kind = 2 ∧ k = 5 ∧ a = [])) ∧ p.names = [] ∧ p.kids = []
  | .arr l, p => p.kind = 5 ∧ p.names = [] ∧ PRL all l p.kids
  | .obj l, p => p.kind = 6 ∧ PRO all l p.names p.kids
def PRL (all : L) : TL → List Pl → Prop
  | .nil, ks => ks = []
  | .cons t l, ks => ∃ p r, ks = p :: r ∧ PR all t p ∧ PRL all l r
def PRO (all : L) : OL → List Sp → List Pl → Prop
  | .nil, ns, ks => ns = [] ∧ ks = []
  | .cons a t l, ns, ks => ∃ n p ns' ks', ns = n :: ns' ∧ ks = p :: ks' ∧ sl all n.b n.e = 34 :: (a ++ [34]) ∧ PR all t p ∧ PRO all l ns' ks'
end

mutual
/-- The strings of a tree are well formed, escapes of surrogates in pairs. -/
def okN : T → Prop
  | .leaf k a => k = 7 → wellE a = true ∧ prd a = true
  | .arr l => okNL l
  | .obj l => okNO l
def okNL : TL → Prop
  | .nil => True
  | .cons t l => okN t ∧ okNL l
def okNO : OL → Prop
  | .nil => True
  | .cons a t l => (wellE a = true ∧ prd a = true) ∧ okN t ∧ okNO l
end

theorem rs_plain {c : Int} (t : L) (h34 : c ≠ 34) (h92 : c ≠ 92) : rs false (c :: t) = (rs false t).map fun x => (c :: x.1, x.2) := by
  rw [rs, if_neg (by simp [h34]), beq_false_of_ne h92]; rfl
theorem rs_any (c : Int) (t : L) : rs true (c :: t) = (rs false t).map fun x => (c :: x.1, x.2) := by
  rw [rs, if_neg (by simp)]
  congr 1
  cases c == 92 <;> rfl
theorem rs_bs (t : L) : rs false (92 :: t) = (rs true t).map fun x => (92 :: x.1, x.2) := by
  rw [rs, if_neg (by decide)]; rfl
theorem hex_ne {c : Int} (h : hex c = true) : c ≠ 34 ∧ c ≠ 92 := by
  unfold hex dig at h
  simp at h
  omega
theorem rs_hexes : ∀ (n : Nat) (t u : L) (a r : L), hexes n t = some u → rs false u = some (a, r) → ∃ e, rs false t = some (e ++ a, r) ∧ t = e ++ u
  | 0, t, u, a, r, h, hr => by simp only [hexes, Option.some.injEq] at h; subst h; exact ⟨[], hr, rfl⟩
  | n + 1, [], u, a, r, h, hr => by simp [hexes] at h
  | n + 1, c :: t, u, a, r, h, hr => by
    simp only [hexes] at h
    split at h
    · rename_i hc
      obtain ⟨e, h1, h2⟩ := rs_hexes n t u a r h hr
      exact ⟨c :: e, by rw [rs_plain t (hex_ne hc).1 (hex_ne hc).2, h1]; rfl, by rw [h2]; rfl⟩
    · cases h
theorem str_rs : ∀ (n : Nat) (l r : L), l.length = n → str l = some r → ∃ a, rs false l = some (a, r) ∧ l = a ++ 34 :: r := by
  intro n
  induction n using Nat.strongRecOn with
  | _ n ih =>
    intro l r hn h
    cases l with
    | nil => rw [str_nil] at h; cases h
    | cons c t =>
      rw [str_cons] at h
      split at h
      · rename_i hc
        injection h with h; subst h; subst hc
        exact ⟨[], by rw [rs, if_pos ⟨rfl, rfl⟩], rfl⟩
      rename_i h34
      split at h
      · cases h
      rename_i h32
      split at h
      · rename_i h92
        subst h92
        obtain ⟨u, hu, hg⟩ := Option.bind_eq_some_iff.1 h
        have h1 := esc_lt hu
        obtain ⟨a, ha, el⟩ := ih u.length (by simp only [List.length_cons] at hn; omega) u r rfl hg
        cases t with
        | nil => simp [esc] at hu
        | cons d t =>
          simp only [esc] at hu
          split at hu
          · injection hu with hu; subst hu
            exact ⟨92 :: d :: a, by rw [rs_bs, rs_any, ha]; rfl, by rw [el]; rfl⟩
          · split at hu
            · obtain ⟨e, h2, h3⟩ := rs_hexes 4 t u a r hu ha
              exact ⟨92 :: d :: (e ++ a), by rw [rs_bs, rs_any, h2]; rfl, by rw [h3, el]; simp⟩
            · cases hu
      · rename_i h92
        obtain ⟨a, ha, el⟩ := ih t.length (by simp only [List.length_cons] at hn; omega) t r rfl h
        exact ⟨c :: a, by rw [rs_plain t h34 h92, ha]; rfl, by rw [el]; rfl⟩

/-- What is behind a value is no part of a number. -/
def Ends (r : L) : Prop := r = [] ∨ ∃ c t, r = c :: t ∧ nb c = false
theorem ends_take {c : Int} {r t : L} (h : J.take c (skip r) = some t) (hc : nb c = false) : Ends r ∧ ws r = c :: t := by
  have h1 := take_some h
  rw [skip_ws] at h1
  refine ⟨?_, h1⟩
  cases r with
  | nil => cases h1
  | cons d u =>
    refine .inr ⟨d, u, rfl, ?_⟩
    cases hd : wsB d with
    | true => exact nb_ws hd
    | false =>
      unfold ws at h1
      rw [List.dropWhile_cons, hd] at h1
      simp only [Bool.false_eq_true, ↓reduceIte] at h1
      injection h1 with h1
      rw [h1]; exact hc
theorem ws_ws (l : L) : ws (ws l) = ws l := by
  unfold ws
  induction l with
  | nil => rfl
  | cons c t ih =>
    rw [List.dropWhile_cons]
    cases h : wsB c with
    | true => simpa using ih
    | false =>
      simp only [Bool.false_eq_true, ↓reduceIte]
      rw [List.dropWhile_cons, h]
      simp
theorem ws_suf (l : L) : ws l <:+ l := by rw [← skip_ws]; exact skip_suf l
/-- A value of the reference's is one of fastjson's. -/
def VC (s : ByteArray) (n : Nat) : Prop := ∀ (l : L) (p : Pl) (r : L) (d m : Nat), l <:+ bytesOf s → val s.size n l = some (p, r) → Ends r → d + lv p ≤ 300 → 2 * l.length + 1 ≤ m → ∃ t, pv m d l = some (t, r) ∧ PR (bytesOf s) t p ∧ (prd l = true → prd r = true ∧ okN t)
theorem elems_fj {s : ByteArray} {n : Nat} (hv : VC s n) : ∀ (k : Nat) (l : L) (acc ps : List Pl) (r : L), l <:+ bytesOf s → elems (val s.size n) k (skip l) acc = some (ps, r) →
    ∃ qs, ps = acc ++ qs ∧ ∀ d m, d + lvs qs ≤ 300 → 2 * l.length + 2 ≤ m → ∃ tl, pa m d l = some (tl, r) ∧ PRL (bytesOf s) tl qs ∧ (prd l = true → prd r = true ∧ okNL tl)
  | 0, l, acc, ps, r, hl, h => by simp [elems] at h
  | k + 1, l, acc, ps, r, hl, h => by
    rw [elems] at h
    obtain ⟨x, hx, h⟩ := Option.bind_eq_some_iff.1 h
    have hsl : skip l <:+ bytesOf s := (skip_suf l).trans hl
    have hsx := (val_okT s n (skip l) x hsl hx).1
    have hle := hsx.length_le
    have hle2 := (skip_suf l).length_le
    cases h1 : J.take 93 (skip x.2) with
    | some t =>
      rw [h1] at h
      injection h with h; injection h with e1 e2
      subst e1; subst e2
      obtain ⟨he, hw⟩ := ends_take h1 rfl
      refine ⟨[x.1], rfl, fun d m hd hm => ?_⟩
      obtain ⟨m, rfl⟩ : ∃ k, m = k + 1 := ⟨m - 1, by omega⟩
      obtain ⟨q1, q2⟩ := lvs_le (Nat.le_refl (lvs [x.1]))
      obtain ⟨t1, ht, hr, ho⟩ := hv (skip l) x.1 x.2 d m hsl hx he (by omega) (by omega)
      rw [skip_ws] at ht
      refine ⟨.cons t1 .nil, ?_, ?_, fun hp => ?_⟩
      · rw [pa, ht]
        simp only [hw]
        simp
      · rw [PRL]; exact ⟨x.1, [], rfl, hr, by rw [PRL]⟩
      · obtain ⟨o1, o2⟩ := ho (by rw [skip_ws, prd_ws]; exact hp)
        rw [← prd_ws, hw, prd_plain _ (by decide)] at o1
        exact ⟨o1, by rw [okNL, okNL]; exact ⟨o2, trivial⟩⟩
    | none =>
      rw [h1] at h
      obtain ⟨t, h2, h3⟩ := Option.bind_eq_some_iff.1 h
      obtain ⟨he, hw⟩ := ends_take h2 rfl
      have hts : t <:+ x.2 := (take_suf h2).trans (skip_suf x.2)
      have hlt := take_lt h2
      have hls := (skip_suf x.2).length_le
      obtain ⟨qs, e1, hq⟩ := elems_fj hv k t (acc ++ [x.1]) ps r (hts.trans (hsx.trans hsl)) h3
      refine ⟨x.1 :: qs, by rw [e1]; simp, fun d m hd hm => ?_⟩
      obtain ⟨m, rfl⟩ : ∃ k, m = k + 1 := ⟨m - 1, by omega⟩
      obtain ⟨q1, q2⟩ := lvs_le (Nat.le_refl (lvs (x.1 :: qs)))
      obtain ⟨t1, ht, hr, ho⟩ := hv (skip l) x.1 x.2 d m hsl hx he (by omega) (by omega)
      rw [skip_ws] at ht
      obtain ⟨tl, htl, hrl, hol⟩ := hq d m (by omega) (by omega)
      refine ⟨.cons t1 tl, ?_, ?_, fun hp => ?_⟩
      · rw [pa, ht]
        simp only [hw]
        rw [htl]; rfl
      · rw [PRL]; exact ⟨x.1, qs, rfl, hr, hrl⟩
      · obtain ⟨o1, o2⟩ := ho (by rw [skip_ws, prd_ws]; exact hp)
        rw [← prd_ws, hw, prd_plain _ (by decide)] at o1
        obtain ⟨o3, o4⟩ := hol o1
        exact ⟨o3, by rw [okNL]; exact ⟨o2, o4⟩⟩
theorem mems_fj {s : ByteArray} {n : Nat} (hv : VC s n) : ∀ (k : Nat) (l : L) (ns : List Sp) (ks : List Pl) (x : List Sp × List Pl) (r : L), l <:+ bytesOf s → mems s.size (val s.size n) k (skip l) ns ks = some (x, r) →
    ∃ ms qs, x.1 = ns ++ ms ∧ x.2 = ks ++ qs ∧ ∀ d m, d + lvs qs ≤ 300 → 2 * l.length + 2 ≤ m → ∃ tl, po m d l = some (tl, r) ∧ PRO (bytesOf s) tl ms qs ∧ (prd l = true → prd r = true ∧ okNO tl)
  | 0, l, ns, ks, x, r, hl, h => by simp [mems] at h
  | k + 1, l, ns, ks, x, r, hl, h => by
    rw [mems] at h
    obtain ⟨t0, h0, h⟩ := Option.bind_eq_some_iff.1 h
    obtain ⟨l1, hs1, h⟩ := Option.bind_eq_some_iff.1 h
    obtain ⟨l2, h2, h⟩ := Option.bind_eq_some_iff.1 h
    obtain ⟨y, hy, h⟩ := Option.bind_eq_some_iff.1 h
    have hsl : skip l <:+ bytesOf s := (skip_suf l).trans hl
    have hle0 := (skip_suf l).length_le
    have e0 := take_some h0
    have hws : ws l = 34 :: t0 := by rw [← skip_ws]; exact e0
    obtain ⟨a, hra, ha⟩ := str_rs _ t0 l1 rfl hs1
    obtain ⟨_, hw2⟩ := ends_take h2 rfl
    have s0 : t0 <:+ skip l := take_suf h0
    have s1 : l1 <:+ t0 := str_suf hs1
    have s2 : l2 <:+ l1 := (take_suf h2).trans (skip_suf l1)
    have hs2 : skip l2 <:+ bytesOf s := (skip_suf l2).trans (s2.trans (s1.trans (s0.trans hsl)))
    have hsy := (val_okT s n (skip l2) y hs2 hy).1
    have g0 := take_lt h0
    have g1 := s1.length_le
    have g2 := s2.length_le
    have g3 := (skip_suf l2).length_le
    have g4 := hsy.length_le
    have hname : sl (bytesOf s) (pos s.size (skip l)) (pos s.size l1) = 34 :: (a ++ [34]) := by
      rw [← bytesOf_length s]
      exact sl_suf hsl (by rw [e0, ha]; simp)
    have pre : ∀ d m, d + lv y.1 ≤ 300 → 2 * l.length + 1 ≤ m → Ends y.2 → ∃ t1, pv m d (ws l2) = some (t1, y.2) ∧ PR (bytesOf s) t1 y.1 ∧ (prd (skip l2) = true → prd y.2 = true ∧ okN t1) := fun d m hd hm he => by
      obtain ⟨t1, ht, hr, ho⟩ := hv (skip l2) y.1 y.2 d m hs2 hy he hd (by omega)
      rw [skip_ws] at ht
      exact ⟨t1, ht, hr, ho⟩
    have hpn : prd l = true → (wellE a = true ∧ prd a = true) ∧ prd (skip l2) = true := fun hp => by
      rw [← prd_ws, hws, prd_plain _ (by decide)] at hp
      obtain ⟨q1, q2, q3⟩ := str_prd hs1 ha hp
      rw [← prd_ws, hw2, prd_plain _ (by decide)] at q3
      exact ⟨⟨q1, q2⟩, by rw [skip_ws, prd_ws]; exact q3⟩
    cases h3 : J.take 125 (skip y.2) with
    | some t =>
      rw [h3] at h
      injection h with h; injection h with e1 e2
      subst e1; subst e2
      obtain ⟨he, hw⟩ := ends_take h3 rfl
      refine ⟨[⟨pos s.size (skip l), pos s.size l1⟩], [y.1], rfl, rfl, fun d m hd hm => ?_⟩
      obtain ⟨m, rfl⟩ : ∃ k, m = k + 1 := ⟨m - 1, by omega⟩
      obtain ⟨q1, q2⟩ := lvs_le (Nat.le_refl (lvs [y.1]))
      obtain ⟨t1, ht, hr, ho⟩ := pre d m (by omega) (by omega) he
      refine ⟨.cons a t1 .nil, ?_, ?_, fun hp => ?_⟩
      · rw [po, hws]
        simp only [↓reduceIte, hra, hw2, ht, hw]
        rw [if_neg (by decide)]
      · rw [PRO]; exact ⟨_, _, [], [], rfl, rfl, hname, hr, by rw [PRO]; exact ⟨rfl, rfl⟩⟩
      · obtain ⟨p1, p2⟩ := hpn hp
        obtain ⟨o1, o2⟩ := ho p2
        rw [← prd_ws, hw, prd_plain _ (by decide)] at o1
        exact ⟨o1, by rw [okNO, okNO]; exact ⟨p1, o2, trivial⟩⟩
    | none =>
      rw [h3] at h
      obtain ⟨t, h4, h5⟩ := Option.bind_eq_some_iff.1 h
      obtain ⟨he, hw⟩ := ends_take h4 rfl
      have hts : t <:+ y.2 := (take_suf h4).trans (skip_suf y.2)
      have hlt := take_lt h4
      have hls := (skip_suf y.2).length_le
      obtain ⟨ms, qs, e1, e2, hq⟩ := mems_fj hv k t _ _ x r (hts.trans (hsy.trans hs2)) h5
      refine ⟨⟨pos s.size (skip l), pos s.size l1⟩ :: ms, y.1 :: qs, by rw [e1]; simp, by rw [e2]; simp, fun d m hd hm => ?_⟩
      obtain ⟨m, rfl⟩ : ∃ k, m = k + 1 := ⟨m - 1, by omega⟩
      obtain ⟨q1, q2⟩ := lvs_le (Nat.le_refl (lvs (y.1 :: qs)))
      obtain ⟨t1, ht, hr, ho⟩ := pre d m (by omega) (by omega) he
      obtain ⟨tl, htl, hrl, hol⟩ := hq d m (by omega) (by omega)
      refine ⟨.cons a t1 tl, ?_, ?_, fun hp => ?_⟩
      · rw [po, hws]
        simp only [↓reduceIte, hra, hw2, ht, hw, htl]
        rfl
      · rw [PRO]; exact ⟨_, _, ms, qs, rfl, rfl, hname, hr, hrl⟩
      · obtain ⟨p1, p2⟩ := hpn hp
        obtain ⟨o1, o2⟩ := ho p2
        rw [← prd_ws, hw, prd_plain _ (by decide)] at o1
        obtain ⟨o3, o4⟩ := hol o1
        exact ⟨o3, by rw [okNO]; exact ⟨p1, o2, o4⟩⟩
theorem pv_numD (n : Nat) {d : Nat} {c : Int} {t : L} (hd : d + 1 ≤ 300) (hc : c = 45 ∨ dig c = true) : pv (n + 1) d (c :: t) = (num (c :: t)).map fun x => (.leaf 4 x.1, x.2) := by
  have h : c = 45 ∨ (48 ≤ c ∧ c ≤ 57) := hc.imp id (fun h => by simpa [dig] using h)
  rw [pv]
  rw [if_neg (by omega), if_neg (by omega), if_neg (by omega), if_neg (by omega), if_neg (by omega), if_neg (by omega), if_neg (by omega)]
theorem word_take {w l r : L} (h : J.word w l = some r) : l = w ++ r := by
  unfold J.word at h
  split at h
  · rename_i hp
    injection h with h; subst h
    obtain ⟨z, hz⟩ := List.isPrefixOf_iff_prefix.1 hp
    rw [← hz, List.drop_left]
  · cases h
theorem val_fj (s : ByteArray) : ∀ n, VC s n := by
  intro n
  induction n with
  | zero => intro l p r d m hl h; simp [val] at h
  | succ n ih =>
    intro l p r d m hl h he hd hm
    cases l with
    | nil => simp [val] at h
    | cons c t =>
      obtain ⟨m, rfl⟩ : ∃ k, m = k + 1 := ⟨m - 1, by omega⟩
      simp only [List.length_cons] at hm
      have hd1 : d + 1 ≤ 300 := by have := lv_pos p; omega
      have hts : t <:+ bytesOf s := (List.suffix_cons c t).trans hl
      have hsl : ∀ (w r' : L), c :: t = w ++ r' → sl (bytesOf s) (pos s.size (c :: t)) (pos s.size r') = w := fun w r' e => by
        rw [← bytesOf_length s]; exact sl_suf hl e
      simp only [val] at h
      split at h
      · rename_i hc
        subst hc
        obtain ⟨y, hy, e⟩ := Option.map_eq_some_iff.1 h
        injection e with e1 e2
        subst e1; subst e2
        rw [lv] at hd
        unfold obj at hy
        rw [pv, if_neg (by omega), if_pos rfl]
        unfold obj0
        cases h1 : J.take 125 (skip t) with
        | some t' =>
          rw [h1] at hy
          injection hy with hy; subst hy
          have hw : ws t = 125 :: t' := by rw [← skip_ws]; exact take_some h1
          refine ⟨.obj .nil, ?_, ?_, fun hp => ?_⟩
          · rw [hw]
            simp only [↓reduceIte]
          · rw [PR]; exact ⟨rfl, by rw [PRO]; exact ⟨rfl, rfl⟩⟩
          · rw [prd_plain _ (by decide), ← prd_ws, hw, prd_plain _ (by decide)] at hp
            exact ⟨hp, by rw [okN, okNO]; trivial⟩
        | none =>
          rw [h1] at hy
          have hwt := ws_suf t
          have hy2 : mems s.size (val s.size n) (t.length + 1) (skip (ws t)) [] [] = some (y.1, y.2) := by
            rw [skip_ws, ws_ws, ← skip_ws]; exact hy
          obtain ⟨ms, qs, e1, e2, hq⟩ := mems_fj ih _ (ws t) [] [] y.1 y.2 (hwt.trans hts) hy2
          rw [List.nil_append] at e1 e2
          rw [← e1, ← e2] at hq
          have hle := hwt.length_le
          obtain ⟨tl, htl, hrl, hol⟩ := hq (d + 1) m (by omega) (by omega)
          refine ⟨.obj tl, ?_, ?_, fun hp => ?_⟩
          · cases hw : ws t with
            | nil =>
              rw [hw] at htl
              cases m with
              | zero => rw [po] at htl; cases htl
              | succ m => rw [po] at htl; simp [ws] at htl
            | cons c2 q =>
              have hc2 : c2 ≠ 125 := by
                intro e
                rw [skip_ws, hw, e, J.take, if_pos rfl] at h1
                cases h1
              rw [hw] at htl
              simp only [hc2, ↓reduceIte, htl]
              rfl
          · rw [PR]; exact ⟨rfl, hrl⟩
          · rw [prd_plain _ (by decide), ← prd_ws] at hp
            obtain ⟨o1, o2⟩ := hol hp
            exact ⟨o1, by rw [okN]; exact o2⟩
      rename_i h123
      split at h
      · rename_i hc
        subst hc
        obtain ⟨y, hy, e⟩ := Option.map_eq_some_iff.1 h
        injection e with e1 e2
        subst e1; subst e2
        rw [lv] at hd
        unfold arr at hy
        rw [pv, if_neg (by omega), if_neg h123, if_pos rfl]
        unfold arr0
        cases h1 : J.take 93 (skip t) with
        | some t' =>
          rw [h1] at hy
          injection hy with hy; subst hy
          have hw : ws t = 93 :: t' := by rw [← skip_ws]; exact take_some h1
          refine ⟨.arr .nil, ?_, ?_, fun hp => ?_⟩
          · rw [hw]
            simp only [↓reduceIte]
          · rw [PR]; exact ⟨rfl, rfl, by rw [PRL]⟩
          · rw [prd_plain _ (by decide), ← prd_ws, hw, prd_plain _ (by decide)] at hp
            exact ⟨hp, by rw [okN, okNL]; trivial⟩
        | none =>
          rw [h1] at hy
          have hwt := ws_suf t
          have hy2 : elems (val s.size n) (t.length + 1) (skip (ws t)) [] = some (y.1, y.2) := by
            rw [skip_ws, ws_ws, ← skip_ws]; exact hy
          obtain ⟨qs, e1, hq⟩ := elems_fj ih _ (ws t) [] y.1 y.2 (hwt.trans hts) hy2
          rw [List.nil_append] at e1
          rw [← e1] at hq
          have hle := hwt.length_le
          obtain ⟨tl, htl, hrl, hol⟩ := hq (d + 1) m (by omega) (by omega)
          refine ⟨.arr tl, ?_, ?_, fun hp => ?_⟩
          · cases hw : ws t with
            | nil =>
              rw [skip_ws, hw] at hy
              simp [elems, val] at hy
              cases n <;> simp [val] at hy
            | cons c2 q =>
              have hc2 : c2 ≠ 93 := by
                intro e
                rw [skip_ws, hw, e, J.take, if_pos rfl] at h1
                cases h1
              rw [hw] at htl
              simp only [hc2, ↓reduceIte, htl]
              rfl
          · rw [PR]; exact ⟨rfl, rfl, hrl⟩
          · rw [prd_plain _ (by decide), ← prd_ws] at hp
            obtain ⟨o1, o2⟩ := hol hp
            exact ⟨o1, by rw [okN]; exact o2⟩
      rename_i h91
      split at h
      · rename_i hc
        subst hc
        obtain ⟨y, hy, e⟩ := Option.map_eq_some_iff.1 h
        injection e with e1 e2
        subst e1; subst e2
        obtain ⟨a, ha, el⟩ := str_rs _ t y rfl hy
        refine ⟨.leaf 7 a, ?_, ?_, fun hp => ?_⟩
        · rw [pv, if_neg (by omega), if_neg h123, if_neg h91, if_pos rfl, ha]; rfl
        · rw [PR]; exact ⟨.inr (.inl ⟨rfl, rfl, hsl _ _ (by rw [el]; simp)⟩), rfl, rfl⟩
        · rw [prd_plain _ (by decide)] at hp
          obtain ⟨q1, q2, q3⟩ := str_prd hy el hp
          exact ⟨q3, by rw [okN]; exact fun _ => ⟨q1, q2⟩⟩
      rename_i h34
      split at h
      · rename_i hc
        obtain ⟨y, hy, e⟩ := Option.map_eq_some_iff.1 h
        injection e with e1 e2
        subst e1; subst e2
        obtain ⟨sg, ds, fr, hn⟩ := num_shape hy
        refine ⟨.leaf 4 (sg ++ (ds ++ fr)), ?_, ?_, fun hp => ?_⟩
        · rw [pv_numD m hd1 hc, num_fj hn he]; rfl
        · rw [PR]; exact ⟨.inl ⟨rfl, rfl, hsl _ _ (by rw [hn.eq]; simp)⟩, rfl, rfl⟩
        · rw [show c :: t = (sg ++ (ds ++ fr)) ++ y by rw [hn.eq]; simp, prd_run (fun x hx => by rintro rfl; have := hn.all 92 hx; cases this)] at hp
          exact ⟨hp, by rw [okN]; exact fun h => by cases h⟩
      rename_i hnum
      split at h
      · rename_i q hq
        injection h with h; injection h with e1 e2
        subst e1; subst e2
        have hw := word_take hq
        have hc : c = 110 := by injection hw
        refine ⟨.leaf 0 [], ?_, ?_, fun hp => ?_⟩
        · rw [pv, if_neg (by omega), if_neg h123, if_neg h91, if_neg h34, if_neg (by omega), if_neg (by omega), if_pos hc, hw]
          rfl
        · rw [PR]; exact ⟨.inr (.inr (.inl ⟨rfl, rfl, rfl⟩)), rfl, rfl⟩
        · rw [hw, prd_run (by decide)] at hp
          exact ⟨hp, by rw [okN]; exact fun h => by cases h⟩
      split at h
      · rename_i q hq
        injection h with h; injection h with e1 e2
        subst e1; subst e2
        have hw := word_take hq
        have hc : c = 102 := by injection hw
        refine ⟨.leaf 6 [], ?_, ?_, fun hp => ?_⟩
        · rw [pv, if_neg (by omega), if_neg h123, if_neg h91, if_neg h34, if_neg (by omega), if_pos hc, hw]
          rfl
        · rw [PR]; exact ⟨.inr (.inr (.inr (.inl ⟨rfl, rfl, rfl⟩))), rfl, rfl⟩
        · rw [hw, prd_run (by decide)] at hp
          exact ⟨hp, by rw [okN]; exact fun h => by cases h⟩
      split at h
      · rename_i q hq
        injection h with h; injection h with e1 e2
        subst e1; subst e2
        have hw := word_take hq
        have hc : c = 116 := by injection hw
        refine ⟨.leaf 5 [], ?_, ?_, fun hp => ?_⟩
        · rw [pv, if_neg (by omega), if_neg h123, if_neg h91, if_neg h34, if_pos hc, hw]
          rfl
        · rw [PR]; exact ⟨.inr (.inr (.inr (.inr ⟨rfl, rfl, rfl⟩))), rfl, rfl⟩
        · rw [hw, prd_run (by decide)] at hp
          exact ⟨hp, by rw [okN]; exact fun h => by cases h⟩
      · cases h
/-- A JSON text with at most 300 levels is read by fastjson's parser. -/
theorem text_fj {s : ByteArray} {p : Pl} (h : text (bytesOf s) = some p) (hd : lv p ≤ 300) : ∃ t, parse0 (bytesOf s) = some t ∧ PR (bytesOf s) t p ∧ (prd (bytesOf s) = true → okN t) := by
  unfold text at h
  obtain ⟨x, hx, h⟩ := Option.bind_eq_some_iff.1 h
  split at h
  case isFalse => cases h
  rename_i hr
  injection h with h; subst h
  rw [skip_ws] at hr
  rw [bytesOf_length, skip_ws] at hx
  obtain ⟨t, ht, hp, ho⟩ := val_fj s _ (ws (bytesOf s)) x.1 x.2 0 (2 * (ws (bytesOf s)).length + 2) (ws_suf _) hx (ws_nil_head hr) (by omega) (by omega)
  refine ⟨t, ?_, hp, fun h => (ho (by rw [prd_ws]; exact h)).2⟩
  unfold parse0
  rw [ht]
  simp only []
  rw [if_pos hr]
end Go.Proofs.YtcaigeikdnoheaaGreatDoor.Fp

set_option linter.unusedVariables false
set_option linter.unusedSimpArgs false
namespace Go.Proofs.YtcaigeikdnoheaaGreatDoor.Fp
open Go.RowKit Go.Proofs.YtcaigeikdnoheaaGreatDoorW.PrintWords Go.Proofs.YtcaigeikdnoheaaGreatDoorW.PrintMore Go.Proofs.YtcaigeikdnoheaaGreatDoor.Aid Go.Proofs.YtcaigeikdnoheaaGreatDoor.J

mutual
/-- The node of a tree. -/
def tn : T → Tn
  | .leaf k a => if k = 4 then ⟨3, strOfNums a, [], []⟩ else if k = 7 then ⟨4, strOfNums (kp a), [], []⟩ else if k = 5 then ⟨2, ⟨#[]⟩, [], []⟩ else if k = 6 then ⟨1, ⟨#[]⟩, [], []⟩ else ⟨0, ⟨#[]⟩, [], []⟩
  | .arr l => ⟨5, ⟨#[]⟩, [], tnL l⟩
  | .obj l => ⟨6, ⟨#[]⟩, tnK l, tnO l⟩
def tnL : TL → List Tn
  | .nil => []
  | .cons t l => tn t :: tnL l
def tnK : OL → List ByteArray
  | .nil => []
  | .cons a _ l => strOfNums (kp a) :: tnK l
def tnO : OL → List Tn
  | .nil => []
  | .cons _ t l => tn t :: tnO l
end
theorem inside_of {x : ByteArray} {a : L} (h : bytesOf x = 34 :: (a ++ [34])) (hw : wellE a = true) (hp : prd a = true) : quo x = strOfNums (kp a) := by
  have hz : x.size = a.length + 2 := by rw [← bytesOf_length, h]; simp
  unfold quo
  rw [h, hz]
  have : ((34 :: (a ++ [34]) : L).drop 1).take (a.length + 2 - 2) = a := by simp
  rw [this, kp_unq _ a (Nat.le_refl _) hw hp]
theorem cut_of {s : ByteArray} {b e : Int} {a : L} (h0 : 0 ≤ b) (h1 : b ≤ e) (h : sl (bytesOf s) b e = a) : cut s b e = strOfNums a := by
  rw [← h, ← cut_bytes s b e h0 h1, str_of_bytes]
mutual
theorem tn_tree (s : ByteArray) : ∀ (t : T) (p : Pl), PR (bytesOf s) t p → okN t → J.okT s p → tn t = tree s p
  | .leaf k a, ⟨K, b, e, ns, ks⟩, h, ho, hp => by
    rw [PR] at h
    rw [okN] at ho
    rw [J.okT] at hp
    obtain ⟨h, rfl, rfl⟩ : _ ∧ ns = [] ∧ ks = [] := h
    obtain ⟨⟨⟨b0, b1, b2⟩, _⟩, _⟩ := hp
    rw [tree_eq, tn]
    show _ = Tn.mk K (txt s K b e) [] (trees s [])
    rw [trees]
    unfold txt
    rcases h with ⟨h1, h2, h3⟩ | ⟨h1, h2, h3⟩ | ⟨h1, h2, h3⟩ | ⟨h1, h2, h3⟩ | ⟨h1, h2, h3⟩ <;>
      (replace h1 : K = _ := h1; subst h1; subst h2)
    · rw [if_pos rfl, if_pos rfl, cut_of b0 b1 h3]
    · obtain ⟨w1, w2⟩ := ho rfl
      rw [if_neg (by decide), if_pos rfl, if_neg (by decide), if_pos rfl, inside_of (by rw [cut_bytes s b e b0 b1]; exact h3) w1 w2]
    · simp
    · simp
    · simp
  | .arr l, ⟨K, b, e, ns, ks⟩, h, ho, hp => by
    rw [PR] at h
    rw [okN] at ho
    rw [J.okT] at hp
    obtain ⟨rfl, rfl, h⟩ : K = 5 ∧ ns = [] ∧ PRL (bytesOf s) l ks := h
    rw [tree_eq, tn, tnL_trees s l ks h ho hp.2.2.2]
    rfl
  | .obj l, ⟨K, b, e, ns, ks⟩, h, ho, hp => by
    rw [PR] at h
    rw [okN] at ho
    rw [J.okT] at hp
    obtain ⟨rfl, h⟩ : K = 6 ∧ PRO (bytesOf s) l ns ks := h
    obtain ⟨e1, e2⟩ := tnO_trees s l ns ks h ho hp.2.2.1 hp.2.2.2
    rw [tree_eq, tn, e1, e2]
    rfl
theorem tnL_trees (s : ByteArray) : ∀ (l : TL) (ks : List Pl), PRL (bytesOf s) l ks → okNL l → okTs s ks → tnL l = trees s ks
  | .nil, ks, h, _, _ => by rw [PRL] at h; rw [h, tnL, trees]
  | .cons t l, ks, h, ho, hp => by
    rw [PRL] at h
    rw [okNL] at ho
    obtain ⟨p, r, rfl, h1, h2⟩ := h
    rw [okTs] at hp
    rw [tnL, trees, tn_tree s t p h1 ho.1 hp.1, tnL_trees s l r h2 ho.2 hp.2]
theorem tnO_trees (s : ByteArray) : ∀ (l : OL) (ns : List Sp) (ks : List Pl), PRO (bytesOf s) l ns ks → okNO l → (∀ n ∈ ns, okQ s n.b n.e) → okTs s ks → tnK l = ns.map (key s) ∧ tnO l = trees s ks
  | .nil, ns, ks, h, _, _, _ => by
    rw [PRO] at h
    obtain ⟨rfl, rfl⟩ := h
    rw [tnK, tnO, trees]; exact ⟨rfl, rfl⟩
  | .cons a t l, ns, ks, h, ho, hn, hp => by
    rw [PRO] at h
    rw [okNO] at ho
    obtain ⟨n, p, ns', ks', rfl, rfl, hq, h1, h2⟩ := h
    rw [okTs] at hp
    obtain ⟨e1, e2⟩ := tnO_trees s l ns' ks' h2 ho.2.2 (fun x hx => hn x (List.mem_cons_of_mem _ hx)) hp.2
    have hb := (hn n List.mem_cons_self).1
    rw [tnK, tnO, trees, List.map_cons, e1, e2, tn_tree s t p h1 ho.2.1 hp.1]
    refine ⟨?_, rfl⟩
    congr 1
    exact (inside_of (by rw [cut_bytes s n.b n.e hb.1 (by omega)]; exact hq) ho.1.1 ho.1.2).symm
end
/-- Parse's tree of a JSON text, and the reference's. -/
theorem read_fj {s : ByteArray} {x : Tn} (h : readT s = some x) (hp : prd (bytesOf s) = true) (hd : ∀ p, text (bytesOf s) = some p → lv p ≤ 300) : ∃ t, parse0 (bytesOf s) = some t ∧ okN t ∧ tn t = x := by
  unfold readT at h
  cases ht : text (bytesOf s) with
  | none => rw [ht] at h; cases h
  | some p =>
    rw [ht] at h
    obtain ⟨t, h1, h2, h3⟩ := text_fj ht (hd p ht)
    exact ⟨t, h1, h3 hp, (tn_tree s t p h2 (h3 hp) (text_okT ht)).trans (Option.some.inj h)⟩
end Go.Proofs.YtcaigeikdnoheaaGreatDoor.Fp

set_option linter.unusedVariables false
set_option linter.unusedSimpArgs false
namespace Go.Proofs.YtcaigeikdnoheaaGreatDoor.Fp
open Go.RowKit Go.Proofs.YtcaigeikdnoheaaGreatDoorW.PrintWords Go.Proofs.YtcaigeikdnoheaaGreatDoorW.PrintLast Go.Proofs.YtcaigeikdnoheaaGreatDoorW.PrintMore Go.Proofs.YtcaigeikdnoheaaGreatDoor.Aid Go.Proofs.YtcaigeikdnoheaaGreatDoor.J

end Go.Proofs.YtcaigeikdnoheaaGreatDoor.Fp

set_option linter.unusedVariables false
set_option linter.unusedSimpArgs false
namespace Go.Proofs.YtcaigeikdnoheaaGreatDoor.Fp
open Go.RowKit Go.Proofs.YtcaigeikdnoheaaGreatDoorW.PrintWords Go.Proofs.YtcaigeikdnoheaaGreatDoorW.PrintMore Go.Proofs.YtcaigeikdnoheaaGreatDoor.Aid Go.Proofs.YtcaigeikdnoheaaGreatDoor.J

def OL.raws : OL → List L
  | .nil => []
  | .cons a _ l => a :: l.raws
def OL.at? : OL → Nat → Option T
  | .nil, _ => none
  | .cons _ t _, 0 => some t
  | .cons _ _ l, i + 1 => l.at? i
def TL.at? : TL → Nat → Option T
  | .nil, _ => none
  | .cons t _, 0 => some t
  | .cons _ l, i + 1 => l.at? i
theorem raws_len : ∀ l : OL, l.raws.length = l.len
  | .nil => rfl
  | .cons a t l => by rw [OL.raws, OL.len, List.length_cons, raws_len l]
theorem tnL_len : ∀ l : TL, (tnL l).length = l.len
  | .nil => by rw [tnL]; rfl
  | .cons t l => by rw [tnL, TL.len, List.length_cons, tnL_len l]
theorem okNO_raw : ∀ {l : OL}, okNO l → ∀ a ∈ l.raws, wellE a = true ∧ prd a = true
  | .nil, _, a, h => by cases h
  | .cons b t l, ho, a, h => by
    rw [okNO] at ho
    rcases List.mem_cons.1 h with rfl | h
    · exact ho.1
    · exact okNO_raw ho.2.2 a h
theorem raw_lone {a : L} (h : wellE a = true ∧ prd a = true) : J.lone a = false := (kp_two [] _ a (Nat.le_refl _) h.1 h.2).2.2
end Go.Proofs.YtcaigeikdnoheaaGreatDoor.Fp
