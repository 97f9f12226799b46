/- Several texts in one. -/
import Derived.Test.YtjpbjbcdobibbaaDoorC2t
import Derived.Test.YtjpbjbcdobibbaaDoorTmA
import Derived.Test.YtjpbjbcdobibbaaDoorPFnMtTurnedx2
import Derived.Test.YtjpbjbcdobibbaaDoorFx4
import Derived.KernelRfl
/- Characters and Globs: the characters of a text, the terms of a pattern, in plain Lean. -/
set_option linter.unusedVariables false
set_option linter.unusedSimpArgs false
namespace Go.Proofs.YtjpbjbcdobibbaaDoor.JT
open Go.RowKit Go.Proofs.YtjpbjbcdobibbaaDoorW.PrintWords Go.Proofs.YtjpbjbcdobibbaaDoor.Aid Go.Proofs.YtjpbjbcdobibbaaDoor.J Go.Proofs.YtjpbjbcdobibbaaDoor.PFnMtTurned

/-- Fuel. -/
theorem up {α : Type} {f : Nat → Option α} (h : ∀ k, LeO (f k) (f (k + 1))) {k : Nat} {r : α} (e : f k = some r) : ∀ {k' : Nat}, k ≤ k' → f k' = some r := by
  intro k' hk
  obtain ⟨d, rfl⟩ : ∃ d, k' = k + d := ⟨k' - k, by omega⟩
  clear hk
  induction d with
  | zero => exact e
  | succ d ih => exact h _ _ ih
theorem from_byts (s : ByteArray) (a : Nat) : ∀ x ∈ from_ s a, 0 ≤ x ∧ x ≤ 255 := fun x hx => by
  have := bytesOf_range s x (List.mem_of_mem_drop hx)
  omega
theorem from_nil (s : ByteArray) : from_ s s.size = [] := List.eq_nil_of_length_eq_zero (by rw [from_len]; omega)
/-- What stands at a place: no character, or one, and the rest. -/
theorem char_at (s : ByteArray) (a : Nat) (hs : s.size ≤ 100000) (ha : a < s.size) : (∃ k, spec_Character.f k s a = some (65533, 1, false)) ∨
    (∃ k c n, spec_Character.f k s a = some (c, ((n : Nat) : Int), true) ∧ okC c ∧ 1 ≤ n ∧ a + n ≤ s.size ∧ from_ s a = utf8 c ++ from_ s (a + n)) := by
  have h := Character_f 0 s a (by omega) ha
  unfold chrR at h
  cases e : chr (from_ s a) with
  | none => rw [e] at h; exact .inl ⟨_, h⟩
  | some x =>
    obtain ⟨c, n⟩ := x
    rw [e] at h
    have hc := chr_some e
    rw [from_len] at hc
    refine .inr ⟨_, c, n, h, chr_ok (from_byts s a) e, hc.1, by omega, ?_⟩
    have := (chr_take_utf8 (from_byts s a) e).1
    rw [from_drop] at this
    exact this
theorem chars_l0 (s : ByteArray) (hs : s.size ≤ 100000) : ∀ (m a : Nat) (acc : List Int), s.size - a ≤ m → a ≤ s.size → acc.length ≤ a →
    ∃ k r b, spec_Characters.l0 k s acc a = some (r, b) ∧ (b = true → ∃ cs, r = acc ++ cs ∧ (∀ c ∈ cs, okC c) ∧ from_ s a = enc cs) := by
  intro m
  induction m with
  | zero =>
    intro a acc h1 h2 h3
    obtain rfl : a = s.size := by omega
    refine ⟨1, acc, true, ?_, fun _ => ⟨[], by simp, (fun c h => by cases h), from_nil s⟩⟩
    rw [spec_Characters.l0, if_neg (by omega)]
  | succ m ih =>
    intro a acc h1 h2 h3
    by_cases ha : a < s.size
    · rcases char_at s a hs ha with ⟨k, hk⟩ | ⟨k, c, n, hk, hc, hn, han, hf⟩
      · refine ⟨k + 1, [], false, ?_, (fun h => by cases h)⟩
        rw [spec_Characters.l0, if_pos (by omega), hk, Option.bind_some, if_neg (by decide)]
      · obtain ⟨k2, r, b, h4, h5⟩ := ih (a + n) (acc ++ [c]) (by omega) han (by rw [List.length_append, List.length_singleton]; omega)
        refine ⟨k + k2 + 1, r, b, ?_, fun hb => ?_⟩
        · have q1 := up (f := fun k => spec_Character.f k s a) (fun k => spec_Character.mono _ _ k) hk (show k ≤ k + k2 by omega)
          have q2 := up (f := fun k => spec_Characters.l0 k s (acc ++ [c]) ((a + n : Nat) : Int)) (fun k => spec_Characters.mono_l k _ _ _) h4 (show k2 ≤ k + k2 by omega)
          rw [spec_Characters.l0, if_pos (by omega), q1, Option.bind_some, if_pos rfl, if_pos (by omega), J.w64 (by simp only []; omega) (by simp only []; omega)]
          exact q2
        · obtain ⟨cs, e1, e2, e3⟩ := h5 hb
          refine ⟨c :: cs, by rw [e1]; simp, fun x hx => ?_, by rw [hf, e3]; rfl⟩
          rcases List.mem_cons.1 hx with rfl | hx
          · exact hc
          · exact e2 x hx
    · obtain rfl : a = s.size := by omega
      refine ⟨1, acc, true, ?_, fun _ => ⟨[], by simp, (fun c h => by cases h), from_nil s⟩⟩
      rw [spec_Characters.l0, if_neg (by omega)]
theorem chars_f (s : ByteArray) (hs : s.size ≤ 100000) : ∃ k r b, spec_Characters.f k s = some (r, b) ∧ (b = true → (∀ c ∈ r, okC c) ∧ bytesOf s = enc r) := by
  obtain ⟨k, r, b, h1, h2⟩ := chars_l0 s hs s.size 0 [] (by omega) (by omega) (by simp)
  refine ⟨k, r, b, h1, fun hb => ?_⟩
  obtain ⟨cs, e1, e2, e3⟩ := h2 hb
  rw [List.nil_append] at e1
  subst e1
  exact ⟨e2, e3⟩

/-- A term as the reference has it. -/
def gl : T → S44
  | .star => ⟨true, false, 0⟩
  | .one => ⟨false, true, 0⟩
  | .ch _ c => ⟨false, false, c⟩
theorem enc1 {c : Int} (h0 : 0 ≤ c) (h : c < 128) : utf8 c = [c] := if_pos h
theorem globs_l0 (s : ByteArray) (hs : s.size ≤ 100000) : ∀ (m a : Nat) (acc : List S44), s.size - a ≤ m → a ≤ s.size → acc.length ≤ a →
    ∃ k r b, spec_Globs.l0 k s acc a = some (r, b) ∧ (b = true → ∃ ts : List T, r = acc ++ ts.map gl ∧ (∀ t ∈ ts, okT t) ∧ from_ s a = pat ts) := by
  intro m
  induction m with
  | zero =>
    intro a acc h1 h2 h3
    obtain rfl : a = s.size := by omega
    refine ⟨1, acc, true, ?_, fun _ => ⟨[], by simp, (fun c h => by cases h), from_nil s⟩⟩
    rw [spec_Globs.l0, if_neg (by omega)]
  | succ m ih =>
    intro a acc h1 h2 h3
    by_cases ha : a < s.size
    · rcases char_at s a hs ha with ⟨k, hk⟩ | ⟨k, c, n, hk, hc, hn, han, hf⟩
      · refine ⟨k + 1, [], false, ?_, (fun h => by cases h)⟩
        rw [spec_Globs.l0, if_pos (by omega), hk, Option.bind_some, if_neg (by decide)]
      · have go : ∀ (t : T) (a' : Nat), a < a' → a' ≤ s.size → okT t → from_ s a = tt t ++ from_ s a' →
            (∀ K, k ≤ K → spec_Globs.l0 (K + 1) s acc a = (if acc.length < 8796093022208 then spec_Globs.l0 K s (acc ++ [gl t]) ((a' : Nat) : Int) else none)) →
            ∃ k r b, spec_Globs.l0 k s acc a = some (r, b) ∧ (b = true → ∃ ts : List T, r = acc ++ ts.map gl ∧ (∀ t ∈ ts, okT t) ∧ from_ s a = pat ts) := by
          intro t a' g1 g2 g3 g4 g5
          obtain ⟨k2, r, b, h4, h5⟩ := ih a' (acc ++ [gl t]) (by omega) g2 (by rw [List.length_append, List.length_singleton]; omega)
          refine ⟨k + k2 + 1, r, b, ?_, fun hb => ?_⟩
          · have q2 := up (f := fun k => spec_Globs.l0 k s (acc ++ [gl t]) ((a' : Nat) : Int)) (fun k => spec_Globs.mono_l k _ _ _) h4 (show k2 ≤ k + k2 by omega)
            rw [g5 (k + k2) (by omega), if_pos (by omega)]
            exact q2
          · obtain ⟨ts, e1, e2, e3⟩ := h5 hb
            refine ⟨t :: ts, by rw [e1]; simp, fun x hx => ?_, by rw [g4, e3]; rfl⟩
            rcases List.mem_cons.1 hx with rfl | hx
            · exact g3
            · exact e2 x hx
        have q1 : ∀ K, k ≤ K → spec_Character.f K s a = some (c, ((n : Nat) : Int), true) := fun K hK => up (f := fun k => spec_Character.f k s a) (fun k => spec_Character.mono _ _ k) hk hK
        have hw : wrap64 ((a : Int) + (n : Int)) = ((a + n : Nat) : Int) := by rw [J.w64 (by omega) (by omega)]; rfl
        by_cases c1 : c = 42
        · refine go .star (a + n) (by omega) han trivial (by rw [hf, c1]; rfl) (fun K hK => ?_)
          rw [spec_Globs.l0, if_pos (by omega), q1 K hK, Option.bind_some, if_pos rfl, if_pos c1]
          rw [hw]; rfl
        by_cases c2 : c = 63
        · refine go .one (a + n) (by omega) han trivial (by rw [hf, c2]; rfl) (fun K hK => ?_)
          rw [spec_Globs.l0, if_pos (by omega), q1 K hK, Option.bind_some, if_pos rfl, if_neg c1, if_pos c2]
          rw [hw]; rfl
        by_cases c3 : c = 92
        · by_cases he : a + n = s.size
          · refine ⟨k + 1, [], false, ?_, (fun h => by cases h)⟩
            rw [spec_Globs.l0, if_pos (by omega), hk, Option.bind_some, if_pos rfl, if_neg c1, if_neg c2, if_pos c3, hw, if_pos (by omega)]
          · rcases char_at s (a + n) hs (by omega) with ⟨k3, hk3⟩ | ⟨k3, c', n', hk3, hc', hn', han', hf'⟩
            · refine ⟨k + k3 + 1, [], false, ?_, (fun h => by cases h)⟩
              have q3 := up (f := fun k => spec_Character.f k s ((a + n : Nat) : Int)) (fun k => spec_Character.mono _ _ k) hk3 (show k3 ≤ k + k3 by omega)
              rw [spec_Globs.l0, if_pos (by omega), q1 (k + k3) (by omega), Option.bind_some, if_pos rfl, if_neg c1, if_neg c2, if_pos c3]
              simp only []
              rw [hw, if_neg (by omega), q3, Option.bind_some, if_neg (by decide)]
            · have hw2 : wrap64 (((a + n : Nat) : Int) + (n' : Int)) = ((a + n + n' : Nat) : Int) := by rw [J.w64 (by omega) (by omega)]; rfl
              obtain ⟨k2, r, b, h4, h5⟩ := ih (a + n + n') (acc ++ [gl (.ch true c')]) (by omega) han' (by rw [List.length_append, List.length_singleton]; omega)
              refine ⟨k + k3 + k2 + 1, r, b, ?_, fun hb => ?_⟩
              · have q2 := up (f := fun k => spec_Globs.l0 k s (acc ++ [gl (.ch true c')]) ((a + n + n' : Nat) : Int)) (fun k => spec_Globs.mono_l k _ _ _) h4 (show k2 ≤ k + k3 + k2 by omega)
                have q3 := up (f := fun k => spec_Character.f k s ((a + n : Nat) : Int)) (fun k => spec_Character.mono _ _ k) hk3 (show k3 ≤ k + k3 + k2 by omega)
                rw [spec_Globs.l0, if_pos (by omega), q1 (k + k3 + k2) (by omega), Option.bind_some, if_pos rfl, if_neg c1, if_neg c2, if_pos c3]
                simp only []
                rw [hw, if_neg (by omega), q3, Option.bind_some, if_pos rfl, if_pos (by omega)]
                simp only []
                rw [hw2]
                exact q2
              · obtain ⟨ts, e1, e2, e3⟩ := h5 hb
                refine ⟨.ch true c' :: ts, by rw [e1]; simp, fun x hx => ?_, by rw [hf, hf', e3, c3]; rfl⟩
                rcases List.mem_cons.1 hx with rfl | hx
                · exact ⟨hc', (fun h => by cases h)⟩
                · exact e2 x hx
        · refine go (.ch false c) (a + n) (by omega) han ⟨hc, fun _ => ⟨c1, c2, c3⟩⟩ hf (fun K hK => ?_)
          rw [spec_Globs.l0, if_pos (by omega), q1 K hK, Option.bind_some, if_pos rfl, if_neg c1, if_neg c2, if_neg c3]
          rw [hw]; rfl
    · obtain rfl : a = s.size := by omega
      refine ⟨1, acc, true, ?_, fun _ => ⟨[], by simp, (fun c h => by cases h), from_nil s⟩⟩
      rw [spec_Globs.l0, if_neg (by omega)]
theorem globs_f (s : ByteArray) (hs : s.size ≤ 100000) : ∃ k r b, spec_Globs.f k s = some (r, b) ∧ (b = true → ∃ ts : List T, r = ts.map gl ∧ (∀ t ∈ ts, okT t) ∧ bytesOf s = pat ts) := by
  obtain ⟨k, r, b, h1, h2⟩ := globs_l0 s hs s.size 0 [] (by omega) (by omega) (by simp)
  refine ⟨k, r, b, h1, fun hb => ?_⟩
  obtain ⟨ts, e1, e2, e3⟩ := h2 hb
  rw [List.nil_append] at e1
  exact ⟨ts, e1, e2, e3⟩
end Go.Proofs.YtjpbjbcdobibbaaDoor.JT

/- Fits, Encode, Pattern, in plain Lean. -/
set_option linter.unusedVariables false
set_option linter.unusedSimpArgs false
namespace Go.Proofs.YtjpbjbcdobibbaaDoor.JT
open Go.RowKit Go.Proofs.YtjpbjbcdobibbaaDoorW.PrintWords Go.Proofs.YtjpbjbcdobibbaaDoor.Aid Go.Proofs.YtjpbjbcdobibbaaDoor.J Go.Proofs.YtjpbjbcdobibbaaDoor.PFnMtTurned

theorem fit_last_star (cs : List Int) (x : Int) (ts : List T) : fit (cs ++ [x]) (ts ++ [T.star]) = (fit (cs ++ [x]) ts || fit cs (ts ++ [T.star])) := by
  rw [← fit_rev (cs ++ [x]) (ts ++ [T.star]), ← fit_rev (cs ++ [x]) ts, ← fit_rev cs (ts ++ [T.star])]
  simp only [List.reverse_append, List.reverse_cons, List.reverse_nil, List.nil_append, List.cons_append]
  rw [fit]
theorem fit_nil_star (ts : List T) : fit [] (ts ++ [T.star]) = fit [] ts := by
  rw [← fit_rev [] (ts ++ [T.star]), ← fit_rev [] ts]
  simp only [List.reverse_append, List.reverse_cons, List.reverse_nil, List.nil_append, List.cons_append]
  rw [fit]
theorem fit_nil_last (ts : List T) (t : T) (h : t ≠ .star) : fit [] (ts ++ [t]) = false := by
  rw [← fit_rev [] (ts ++ [t])]
  simp only [List.reverse_append, List.reverse_cons, List.reverse_nil, List.nil_append, List.cons_append]
  cases t with
  | star => exact absurd rfl h
  | one => rw [fit]
  | ch e c => rw [fit]
theorem take_succ' (cs : List Int) (a : Nat) (h : a < cs.length) : cs.take (a + 1) = cs.take a ++ [cs[a]] := by
  rw [List.take_add_one, List.getElem?_eq_getElem h]; rfl
theorem set_getD (l : List Bool) (a i : Nat) (v : Bool) (h : a < l.length) : (l.set a v).getD i false = if i = a then v else l.getD i false := by
  rw [List.getD_eq_getElem?_getD, List.getD_eq_getElem?_getD, List.getElem?_set]
  by_cases e : a = i
  · subst e; rw [if_pos rfl, if_pos rfl, if_pos h]; rfl
  · rw [if_neg e, if_neg (fun h => e h.symm)]
theorem rdO (l : List Bool) (i : Int) (a : Nat) (h : i = (a : Int)) : rdOf false l i = l.getD a false := by subst h; rfl

theorem fits_l1 (cs : List Int) (hn : cs.length ≤ 100000) (done : List T) (t : T) (x5 : List Bool) (h5l : x5.length = cs.length + 1) (h5 : ∀ i, i ≤ cs.length → x5.getD i false = fit (cs.take i) done) (x16 : List S44) (x17 x18 : Int) (r : Bool)
    (hnext : ∀ y : List Bool, y.length = cs.length + 1 → (∀ i, i ≤ cs.length → y.getD i false = fit (cs.take i) (done ++ [t])) → ∃ k, spec_Fits.l0 k cs y x16 x17 (wrap64 (x18 + 1)) = some r) :
    ∀ (m a : Nat) (x8 : List Bool), a + m = cs.length + 1 → x8.length = cs.length + 1 → (∀ i, i < a → x8.getD i false = fit (cs.take i) (done ++ [t])) → (∀ i, a ≤ i → x8.getD i false = false) →
    ∃ k, spec_Fits.l1 k cs x5 x8 (a : Int) x16 x17 x18 (gl t).f0 (gl t).f1 (gl t).f2 = some r := by
  intro m
  induction m with
  | zero =>
    intro a x8 h1 h2 h3 h4
    obtain ⟨k, hk⟩ := hnext x8 h2 (fun i hi => h3 i (by omega))
    refine ⟨k + 1, ?_⟩
    rw [spec_Fits.l1, if_neg (by omega)]
    exact hk
  | succ m ih =>
    intro a x8 h1 h2 h3 h4
    have hw : wrap64 ((a : Int) + 1) = ((a + 1 : Nat) : Int) := by rw [J.w64 (by omega) (by omega)]; rfl
    have ha : (a : Int) ≤ (cs.length : Int) := by omega
    have stay : fit (cs.take a) (done ++ [t]) = false → ∃ k, spec_Fits.l1 k cs x5 x8 ((a + 1 : Nat) : Int) x16 x17 x18 (gl t).f0 (gl t).f1 (gl t).f2 = some r := fun hf =>
      ih (a + 1) x8 (by omega) h2 (fun i hi => by
        by_cases e : i = a
        · subst e; rw [h4 i (Nat.le_refl _), hf]
        · exact h3 i (by omega)) (fun i hi => h4 i (by omega))
    have put : ∀ v, v = fit (cs.take a) (done ++ [t]) → ∃ k, spec_Fits.l1 k cs x5 (x8.set a v) ((a + 1 : Nat) : Int) x16 x17 x18 (gl t).f0 (gl t).f1 (gl t).f2 = some r := fun v hv =>
      ih (a + 1) (x8.set a v) (by omega) (by rw [List.length_set]; exact h2) (fun i hi => by
        rw [set_getD _ _ _ _ (by omega)]
        by_cases e : i = a
        · rw [if_pos e, hv, e]
        · rw [if_neg e]; exact h3 i (by omega)) (fun i hi => by rw [set_getD _ _ _ _ (by omega), if_neg (by omega)]; exact h4 i (by omega))
    have r5 : rdOf false x5 (a : Int) = fit (cs.take a) done := by rw [rdO _ _ a rfl]; exact h5 a (by omega)
    cases t with
    | star =>
      have hz : fit (cs.take a) (done ++ [.star]) = (fit (cs.take a) done || (decide (0 < a) && x8.getD (a - 1) false)) := by
        cases a with
        | zero => rw [List.take_zero, fit_nil_star]; simp
        | succ b =>
          rw [take_succ' cs b (by omega), fit_last_star, Nat.add_sub_cancel, h3 b (by omega)]; simp
      by_cases c1 : fit (cs.take a) done = true
      · obtain ⟨k, hk⟩ := put true (by rw [hz, c1]; rfl)
        refine ⟨k + 1, ?_⟩
        rw [spec_Fits.l1, if_pos ha]
        rw [if_pos (show (gl T.star).f0 = true from rfl), if_pos (by omega), if_pos (by omega), r5, if_pos c1, if_pos (by omega), hw]
        exact hk
      · rw [Bool.not_eq_true] at c1
        by_cases h0 : 0 < a
        · obtain ⟨k, hk⟩ := put (x8.getD (a - 1) false) (by rw [hz, c1, decide_eq_true h0]; simp)
          have hw1 : wrap64 ((a : Int) - 1) = ((a - 1 : Nat) : Int) := by rw [J.w64 (by omega) (by omega)]; omega
          refine ⟨k + 1, ?_⟩
          rw [spec_Fits.l1, if_pos ha]
          rw [if_pos (show (gl T.star).f0 = true from rfl), if_pos (by omega), if_pos (by omega), r5, if_neg (by rw [c1]; decide), if_pos (by omega), hw1, if_pos (by omega), if_pos (by omega), if_pos (by omega), hw, rdO _ _ (a - 1) rfl]
          exact hk
        · obtain ⟨k, hk⟩ := put false (by rw [hz, c1, decide_eq_false h0]; simp)
          refine ⟨k + 1, ?_⟩
          rw [spec_Fits.l1, if_pos ha]
          rw [if_pos (show (gl T.star).f0 = true from rfl), if_pos (by omega), if_pos (by omega), r5, if_neg (by rw [c1]; decide), if_neg (by omega), if_pos (by omega), hw]
          exact hk
    | one =>
      by_cases h0 : 0 < a
      · obtain ⟨b, rfl⟩ : ∃ b, a = b + 1 := ⟨a - 1, by omega⟩
        have hw1 : wrap64 (((b + 1 : Nat) : Int) - 1) = (b : Int) := by rw [J.w64 (by omega) (by omega)]; omega
        have hz : fit (cs.take (b + 1)) (done ++ [.one]) = fit (cs.take b) done := by
          rw [take_succ' cs b (by omega), fit_last _ _ _ _ (by intro h; cases h)]; simp
        have r5' : rdOf false x5 (b : Int) = fit (cs.take b) done := by rw [rdO _ _ b rfl]; exact h5 b (by omega)
        by_cases c1 : fit (cs.take b) done = true
        · obtain ⟨k, hk⟩ := put true (by rw [hz, c1])
          refine ⟨k + 1, ?_⟩
          rw [spec_Fits.l1, if_pos ha]
          rw [if_neg (show ¬ (gl T.one).f0 = true from Bool.false_ne_true), if_pos (by omega), hw1, if_pos (by omega), if_pos (by omega), r5', if_pos c1, if_pos (show (gl T.one).f1 = true from rfl), if_pos (by omega), if_pos (by omega), hw]
          exact hk
        · obtain ⟨k, hk⟩ := stay (by rw [hz]; simpa using c1)
          refine ⟨k + 1, ?_⟩
          rw [spec_Fits.l1, if_pos ha]
          rw [if_neg (show ¬ (gl T.one).f0 = true from Bool.false_ne_true), if_pos (by omega), hw1, if_pos (by omega), if_pos (by omega), r5', if_neg c1, hw]
          exact hk
      · obtain rfl : a = 0 := by omega
        obtain ⟨k, hk⟩ := stay (by rw [List.take_zero]; exact fit_nil_last done _ (by intro h; cases h))
        refine ⟨k + 1, ?_⟩
        rw [spec_Fits.l1, if_pos ha]
        rw [if_neg (show ¬ (gl T.one).f0 = true from Bool.false_ne_true), if_neg (by omega), hw]
        exact hk
    | ch e c =>
      by_cases h0 : 0 < a
      · obtain ⟨b, rfl⟩ : ∃ b, a = b + 1 := ⟨a - 1, by omega⟩
        have hb : b < cs.length := by omega
        have hw1 : wrap64 (((b + 1 : Nat) : Int) - 1) = (b : Int) := by rw [J.w64 (by omega) (by omega)]; omega
        have hz : fit (cs.take (b + 1)) (done ++ [.ch e c]) = ((cs[b] == c) && fit (cs.take b) done) := by
          rw [take_succ' cs b (by omega), fit_last _ _ _ _ (by intro h; cases h)]
        have r5' : rdOf false x5 (b : Int) = fit (cs.take b) done := by rw [rdO _ _ b rfl]; exact h5 b (by omega)
        have rc : rd cs (b : Int) = cs[b] := by unfold rd; rw [Int.toNat_natCast, List.getD_eq_getElem?_getD, List.getElem?_eq_getElem hb]; rfl
        by_cases c1 : fit (cs.take b) done = true
        · obtain ⟨k, hk⟩ := put (c == cs[b]) (by rw [hz, c1, Bool.and_true, Bool.eq_iff_iff, beq_iff_eq, beq_iff_eq]; exact eq_comm)
          refine ⟨k + 1, ?_⟩
          rw [spec_Fits.l1, if_pos ha]
          rw [if_neg (show ¬ (gl (T.ch e c)).f0 = true from Bool.false_ne_true), if_pos (by omega), hw1, if_pos (by omega), if_pos (by omega), r5', if_pos c1, if_neg (show ¬ (gl (T.ch e c)).f1 = true from Bool.false_ne_true), if_pos (by omega), if_pos (by omega), if_pos (by omega), hw, rc]
          exact hk
        · obtain ⟨k, hk⟩ := stay (by rw [hz]; simp only [Bool.not_eq_true] at c1; rw [c1, Bool.and_false])
          refine ⟨k + 1, ?_⟩
          rw [spec_Fits.l1, if_pos ha]
          rw [if_neg (show ¬ (gl (T.ch e c)).f0 = true from Bool.false_ne_true), if_pos (by omega), hw1, if_pos (by omega), if_pos (by omega), r5', if_neg c1, hw]
          exact hk
      · obtain rfl : a = 0 := by omega
        obtain ⟨k, hk⟩ := stay (by rw [List.take_zero]; exact fit_nil_last done _ (by intro h; cases h))
        refine ⟨k + 1, ?_⟩
        rw [spec_Fits.l1, if_pos ha]
        rw [if_neg (show ¬ (gl (T.ch e c)).f0 = true from Bool.false_ne_true), if_neg (by omega), hw]
        exact hk
theorem rdT (done : List T) (t : T) (ts : List T) : rd_T44 ((done ++ t :: ts).map gl) (done.length : Int) = gl t := by
  unfold rd_T44
  rw [Int.toNat_natCast, List.map_append, List.getD_eq_getElem?_getD, List.getElem?_append_right (by rw [List.length_map]; exact Nat.le_refl _), List.length_map, Nat.sub_self]
  rfl
theorem fits_l0 (cs : List Int) (hn : cs.length ≤ 100000) (all : List T) (hall : all.length ≤ 100000) : ∀ (ts done : List T), all = done ++ ts → ∀ (x5 : List Bool), x5.length = cs.length + 1 → (∀ i, i ≤ cs.length → x5.getD i false = fit (cs.take i) done) →
    ∃ k, spec_Fits.l0 k cs x5 (all.map gl) (all.length : Int) (done.length : Int) = some (fit cs all)
  | [], done, he, x5, hl, h5 => by
    rw [List.append_nil] at he
    subst he
    refine ⟨1, ?_⟩
    have := h5 cs.length (Nat.le_refl _)
    rw [List.take_length] at this
    rw [spec_Fits.l0, if_neg (by omega), if_pos (by omega), if_pos (by omega), rdO _ _ cs.length rfl, this]
  | t :: ts, done, he, x5, hl, h5 => by
    have hlen : all.length = done.length + (ts.length + 1) := by rw [he, List.length_append, List.length_cons]
    obtain ⟨k, hk⟩ := fits_l1 cs hn done t x5 hl h5 (all.map gl) (all.length : Int) (done.length : Int) (fit cs all) (fun y hy1 hy2 => by
        have := fits_l0 cs hn all hall ts (done ++ [t]) (by rw [he, List.append_assoc]; rfl) y hy1 hy2
        rw [List.length_append, List.length_singleton] at this
        rw [J.w64 (by omega) (by omega)]
        exact this) (cs.length + 1) 0 (List.replicate (cs.length + 1) false) (by omega) (by rw [List.length_replicate]) (fun i hi => by omega) (fun i _ => by
          rw [List.getD_eq_getElem?_getD, List.getElem?_replicate]; split <;> rfl)
    refine ⟨k + 1, ?_⟩
    have hw : wrap64 ((cs.length : Int) + 1) = ((cs.length + 1 : Nat) : Int) := by rw [J.w64 (by omega) (by omega)]; rfl
    rw [spec_Fits.l0, if_pos (by omega), if_pos (by omega), if_pos (by rw [List.length_map]; omega), hw, if_pos (by omega), Int.toNat_natCast, if_pos (by omega), he, rdT, ← he]
    exact hk
theorem fits_f (cs : List Int) (hn : cs.length ≤ 100000) (ts : List T) (ht : ts.length ≤ 100000) : ∃ k, spec_Fits.f k cs (ts.map gl) = some (fit cs ts) := by
  have hw : wrap64 ((cs.length : Int) + 1) = ((cs.length + 1 : Nat) : Int) := by rw [J.w64 (by omega) (by omega)]; rfl
  obtain ⟨k, hk⟩ := fits_l0 cs hn ts ht ts [] rfl ((List.replicate (cs.length + 1) false).set 0 true) (by rw [List.length_set, List.length_replicate]) (fun i hi => by
    rw [set_getD _ _ _ _ (by rw [List.length_replicate]; omega)]
    by_cases e : i = 0
    · rw [if_pos e, e, List.take_zero, fit]
    · rw [if_neg e, List.getD_eq_getElem?_getD, List.getElem?_replicate]
      obtain ⟨x, r, hx⟩ : ∃ x r, cs.take i = x :: r := by
        cases h : cs.take i with
        | nil => have := congrArg List.length h; rw [List.length_take, List.length_nil] at this; omega
        | cons x r => exact ⟨x, r, rfl⟩
      rw [hx, fit]; split <;> rfl)
  refine ⟨k, ?_⟩
  unfold spec_Fits.f
  rw [hw, if_pos (by omega), Int.toNat_natCast, if_pos (by omega), Option.bind_some, if_pos (by rw [List.length_replicate]; omega), List.length_map]
  exact hk

/-! ### Encode -/
theorem app_f (k : Nat) (l : List Int) (c : Int) (hc : okC c) (hl : l.length ≤ 1000000) : spec_appendUTF8.f (k + 1) l c = some (l ++ utf8 c) := by
  obtain ⟨h0, h1, h2⟩ := hc
  have d1 : Int.tdiv c 64 = c / 64 := Int.tdiv_eq_ediv_of_nonneg h0
  have d2 : Int.tdiv c 4096 = c / 4096 := Int.tdiv_eq_ediv_of_nonneg h0
  have d3 : Int.tdiv c 262144 = c / 262144 := Int.tdiv_eq_ediv_of_nonneg h0
  have m1 : Int.tmod c 64 = c % 64 := Int.tmod_eq_emod_of_nonneg h0
  have w1 : wrap64 (c / 64) = c / 64 := J.w64 (by omega) (by omega)
  have w2 : wrap64 (c / 4096) = c / 4096 := J.w64 (by omega) (by omega)
  have w3 : wrap64 (c / 262144) = c / 262144 := J.w64 (by omega) (by omega)
  have m2 : Int.tmod (c / 64) 64 = c / 64 % 64 := Int.tmod_eq_emod_of_nonneg (by omega)
  have m3 : Int.tmod (c / 4096) 64 = c / 4096 % 64 := Int.tmod_eq_emod_of_nonneg (by omega)
  have v1 : wrap64 (128 + c % 64) = 128 + c % 64 := J.w64 (by omega) (by omega)
  have v2 : wrap64 (128 + c / 64 % 64) = 128 + c / 64 % 64 := J.w64 (by omega) (by omega)
  have v3 : wrap64 (128 + c / 4096 % 64) = 128 + c / 4096 % 64 := J.w64 (by omega) (by omega)
  have hh : ¬ (high c = true ∨ low c = true) := by unfold high low; simp; omega
  have e : spec_appendUTF8.j0 (k + 1) l c false = some (l ++ utf8 c) ∨ c < 2048 := by
    by_cases a2 : c < 2048
    · exact .inr a2
    left
    rw [spec_appendUTF8.j0, if_neg (by decide)]
    by_cases a3 : c < 65536
    · have u1 : wrap64 (224 + c / 4096) = 224 + c / 4096 := J.w64 (by omega) (by omega)
      have e : utf8 c = [224 + c / 4096, 128 + c / 64 % 64, 128 + c % 64] := by unfold utf8; rw [if_neg (by omega), if_neg a2, if_neg hh, if_pos a3]
      rw [if_pos a3, Option.bind_some, if_pos (by simp only [List.length_cons, List.length_nil]; omega), d1, d2, m1, w1, w2, m2, v1, v2, u1, e, Int.emod_eq_of_lt (by omega) (by omega), Int.emod_eq_of_lt (by omega) (by omega), Int.emod_eq_of_lt (a := 128 + c % 64) (by omega) (by omega)]
    · have u1 : wrap64 (240 + c / 262144) = 240 + c / 262144 := J.w64 (by omega) (by omega)
      have e : utf8 c = [240 + c / 262144, 128 + c / 4096 % 64, 128 + c / 64 % 64, 128 + c % 64] := by unfold utf8; rw [if_neg (by omega), if_neg a2, if_neg hh, if_neg a3]
      rw [if_neg a3, Option.bind_some, if_pos (by simp only [List.length_cons, List.length_nil]; omega), d1, d2, d3, m1, w1, w2, w3, m2, m3, v1, v2, v3, u1, e, Int.emod_eq_of_lt (a := 240 + c / 262144) (by omega) (by omega), Int.emod_eq_of_lt (a := 128 + c / 4096 % 64) (by omega) (by omega), Int.emod_eq_of_lt (a := 128 + c / 64 % 64) (by omega) (by omega), Int.emod_eq_of_lt (a := 128 + c % 64) (by omega) (by omega)]
  unfold spec_appendUTF8.f
  by_cases a1 : c < 128
  · rw [if_pos a1, if_pos (by omega), enc1 h0 a1, Int.emod_eq_of_lt h0 (by omega)]
  rw [if_neg a1]
  by_cases a2 : c < 2048
  · have u1 : wrap64 (192 + c / 64) = 192 + c / 64 := J.w64 (by omega) (by omega)
    have e : utf8 c = [192 + c / 64, 128 + c % 64] := by unfold utf8; rw [if_neg a1, if_pos a2]
    rw [if_pos a2, Option.bind_some, if_pos (by simp only [List.length_cons, List.length_nil]; omega), d1, m1, w1, v1, u1, e, Int.emod_eq_of_lt (a := 192 + c / 64) (by omega) (by omega), Int.emod_eq_of_lt (a := 128 + c % 64) (by omega) (by omega)]
  rw [if_neg a2]
  have e2 := e.resolve_right a2
  have hi : spec_high.f c = some false ∨ (spec_high.f c = some (decide (c ≤ 56319)) ∧ 57344 ≤ c) := by
    unfold spec_high.f
    by_cases g : 55296 ≤ c
    · rw [if_pos g]; exact .inr ⟨rfl, by omega⟩
    · rw [if_neg g]; exact .inl rfl
  have lo : spec_low.f c = some false := by
    unfold spec_low.f
    by_cases g : 56320 ≤ c
    · rw [if_pos g, decide_eq_false (by omega)]
    · rw [if_neg g]
  have hi2 : spec_high.f c = some false := by
    rcases hi with h | ⟨h, h'⟩
    · exact h
    · rw [h, decide_eq_false (by omega)]
  rw [hi2, Option.bind_some, if_neg (by decide), lo, Option.bind_some]
  exact e2
theorem encode_f (c : Int) (hc : okC c) : spec_Encode.f 1 c = some (strOfNums (utf8 c)) := by
  unfold spec_Encode.f
  rw [app_f 0 [] c hc (by simp), Option.bind_some, List.nil_append]

/-! ### Pattern -/
def spell : T → T
  | .ch _ c => .ch (decide (c = 42 ∨ c = 63 ∨ c = 92)) c
  | t => t
theorem spell_ok {t : T} (h : okT t) : okT (spell t) := by
  cases t with
  | star => trivial
  | one => trivial
  | ch e c =>
    refine ⟨h.1, fun h2 => ?_⟩
    have := of_decide_eq_false h2
    omega
theorem nrm_spell (t : T) : nrm (spell t) = nrm t := by cases t <;> rfl
theorem fit_spell (cs : List Int) (ts : List T) : fit cs (ts.map spell) = fit cs ts := by
  rw [← fit_nrm (ts.map spell), ← fit_nrm ts, List.map_map]
  congr 1
  exact List.map_congr_left (fun t _ => nrm_spell t)
theorem tt_len (t : T) : (tt t).length ≤ 5 := by
  cases t with
  | star => simp [tt]
  | one => simp [tt]
  | ch e c =>
    have := (utf8_pos c).2
    cases e <;> simp only [tt, List.length_cons] <;> omega
theorem pattern_l0 (all : List T) (hall : all.length ≤ 100000) (hok : ∀ t ∈ all, okT t) : ∀ (ts done : List T), all = done ++ ts → ∀ acc : List Int, acc.length ≤ 5 * done.length →
    ∃ k, spec_Pattern.l0 k acc (all.map gl) (all.length : Int) (done.length : Int) = some (strOfNums (acc ++ pat (ts.map spell)))
  | [], done, he, acc, hl => by
    rw [List.append_nil] at he
    subst he
    refine ⟨1, ?_⟩
    rw [spec_Pattern.l0, if_neg (by omega)]
    simp [pat]
  | t :: ts, done, he, acc, hl => by
    have hlen : all.length = done.length + (ts.length + 1) := by rw [he, List.length_append, List.length_cons]
    have okt : okT t := hok t (by rw [he]; simp)
    have hw : wrap64 ((done.length : Int) + 1) = (((done ++ [t]).length : Nat) : Int) := by rw [J.w64 (by omega) (by omega), List.length_append, List.length_singleton]; rfl
    have go : ∃ k, spec_Pattern.l0 k (acc ++ tt (spell t)) (all.map gl) (all.length : Int) (wrap64 ((done.length : Int) + 1)) = some (strOfNums (acc ++ pat ((t :: ts).map spell))) := by
      rw [hw]
      obtain ⟨k, hk⟩ := pattern_l0 all hall hok ts (done ++ [t]) (by rw [he, List.append_assoc]; rfl) (acc ++ tt (spell t)) (by have := tt_len (spell t); rw [List.length_append, List.length_append, List.length_singleton]; omega)
      refine ⟨k, hk.trans ?_⟩
      rw [List.map_cons, pat_cons, List.append_assoc]
    have hr : rd_T44 (all.map gl) (done.length : Int) = gl t := by rw [he, rdT]
    have lm : (done.length : Int) < ((all.map gl).length : Int) := by rw [List.length_map]; omega
    obtain ⟨k, hk⟩ := go
    refine ⟨k + 2, ?_⟩
    have hk1 := spec_Pattern.mono_l k _ _ _ _ _ hk
    rw [spec_Pattern.l0, if_pos (by omega), if_pos (by omega), if_pos lm, hr]
    cases t with
    | star => rw [if_pos (show (gl T.star).f0 = true from rfl), if_pos (by omega)]; exact hk1
    | one => rw [if_neg (show ¬ (gl T.one).f0 = true from Bool.false_ne_true), if_pos (show (gl T.one).f1 = true from rfl), if_pos (by omega)]; exact hk1
    | ch e c =>
      rw [if_neg (show ¬ (gl (T.ch e c)).f0 = true from Bool.false_ne_true), if_neg (show ¬ (gl (T.ch e c)).f1 = true from Bool.false_ne_true)]
      by_cases c1 : c = 42
      · subst c1; rw [if_pos (show (gl (T.ch e 42)).f2 = 42 from rfl), Option.bind_some, if_pos (by simp only [List.length_cons, List.length_nil]; omega)]; exact hk1
      rw [if_neg (show ¬ (gl (T.ch e c)).f2 = 42 from c1)]
      by_cases c2 : c = 63
      · subst c2; rw [if_pos (show (gl (T.ch e 63)).f2 = 63 from rfl), Option.bind_some, if_pos (by simp only [List.length_cons, List.length_nil]; omega)]; exact hk1
      rw [if_neg (show ¬ (gl (T.ch e c)).f2 = 63 from c2)]
      by_cases c3 : c = 92
      · subst c3; rw [if_pos (show (gl (T.ch e 92)).f2 = 92 from rfl), Option.bind_some, if_pos (by simp only [List.length_cons, List.length_nil]; omega)]; exact hk1
      rw [if_neg (show ¬ (gl (T.ch e c)).f2 = 92 from c3), show spec_appendUTF8.f (k + 1) acc (gl (T.ch e c)).f2 = _ from app_f k acc c okt.1 (by omega), Option.bind_some]
      have : tt (spell (.ch e c)) = utf8 c := by unfold spell; simp only []; rw [decide_eq_false (by omega)]; rfl
      rw [← this]; exact hk1
theorem pattern_f (ts : List T) (ht : ts.length ≤ 100000) (hok : ∀ t ∈ ts, okT t) : ∃ k, spec_Pattern.f k (ts.map gl) = some (strOfNums (pat (ts.map spell))) := by
  obtain ⟨k, hk⟩ := pattern_l0 ts ht hok ts [] rfl [] (by simp)
  refine ⟨k, ?_⟩
  unfold spec_Pattern.f
  rw [List.length_map]
  exact hk
end Go.Proofs.YtjpbjbcdobibbaaDoor.JT

/- Match, of a text and a pattern given as characters and terms. -/
set_option linter.unusedVariables false
set_option linter.unusedSimpArgs false
namespace Go.Proofs.YtjpbjbcdobibbaaDoor.J
open Go.RowKit Go.Proofs.YtjpbjbcdobibbaaDoorW.PrintWords Go.Proofs.YtjpbjbcdobibbaaDoorW.PrintLast Go.Proofs.YtjpbjbcdobibbaaDoorW.PrintMore Go.Proofs.YtjpbjbcdobibbaaDoor.Aid

theorem pat_star {ts : List T} (hts : ∀ t ∈ ts, okT t) (h : pat ts = [42]) : ts = [.star] := by
  cases ts with
  | nil => cases h
  | cons t r =>
    by_cases hs : t = .star
    · subst hs
      rw [pat_cons] at h
      have h2 : pat r = [] := by injection h
      cases r with
      | nil => rfl
      | cons u r =>
        have h3 := congrArg List.length h2
        rw [pat_cons, List.length_append, List.length_nil] at h3
        have h4 := tt_pos u
        omega
    · obtain ⟨b, q, e, hb⟩ := pat_first (hts t List.mem_cons_self) hs r
      rw [e] at h
      injection h with h1 _
      exact absurd h1 hb
theorem toList_star {p : ByteArray} : (p.toList == [42]) = true ↔ bytesOf p = [42] := by
  rw [beq_iff_eq]
  constructor
  · intro e
    unfold bytesOf
    rw [ByteArray.toList_eq] at e
    rw [e]; rfl
  · intro e
    have h1 := str_of_bytes p
    rw [e] at h1
    rw [← h1, ByteArray.toList_eq]; rfl
set_option maxHeartbeats 4000000 in
set_option maxRecDepth 100000 in
theorem MtMatch_any (s p : ByteArray) (cs : List Int) (ts : List T) (w : World) (hcs : ∀ c ∈ cs, okC c) (hts : ∀ t ∈ ts, okT t) (hs : bytesOf s = enc cs) (hp : bytesOf p = pat ts) (hsz : s.size ≤ 100000) (hpz : p.size ≤ 100000) (hT : Lib.Utf8Tabs gF gA w) :
    Calls Tryd.prog 13 #[.string s, .string p] w fun e w' => e = .returned (.bool (fit cs ts)) ∧ Below w.heap.size w w' := by
  have K44 : Hid (Calls Tryd.prog 44 #[.string s, .string p, .bool false] w fun e w' => e = .returned (.bool (fit cs ts)) ∧ Below w.heap.size w w') := Lib.hid (by
    have HB := Lib.hid (Below.refl w.heap.size w)
    rcases Bool.eq_false_or_eq_true (p.toList == [42]) with h42 | h42
    · have e : Hid (fit cs ts = true) := Lib.hid (by
        have := toList_star.1 h42
        rw [hp] at this
        rw [pat_star hts this, fit_star_nil])
      clear hcs hts hs hp hsz hpz hT
      go_enter Tryd.func44, Tryd.ntmps44
      go_wp2
      go_ret
      exact ⟨by rw [e.out]; rfl, HB.out⟩
    · have K := Lib.hid (match_any (ts.length + 1) ts (by omega) cs s p w hcs hts hs hp hsz hpz hT)
      obtain ⟨r, hr⟩ : ∃ r, r = (if fit cs ts = true then (1 : Int) else 0) := ⟨_, rfl⟩
      have e : Hid (fit cs ts = (r == 1)) := Lib.hid (by rw [hr]; cases fit cs ts <;> rfl)
      rw [← hr] at K
      clear hcs hts hs hp hsz hpz hT hr
      go_enter Tryd.func44, Tryd.ntmps44
      go_wp2_with (go_at_call 56; refine K.out.mono ?_; rintro e w1 ⟨rfl, hb⟩; replace hb := Lib.hid hb)
      go_ret
      exact ⟨by rw [e.out]; rfl, hb.out⟩)
  clear hcs hts hs hp hsz hpz hT
  have K29 : Hid (Calls Tryd.prog 29 #[.string s, .string p] w fun e w' => e = .returned (.bool (fit cs ts)) ∧ Below w.heap.size w w') := Lib.hid (by
    go_enter Tryd.func29, Tryd.ntmps29
    go_wp2_with (go_at_call 44; refine K44.out.mono ?_; rintro e w1 ⟨rfl, hb⟩; replace hb := Lib.hid hb)
    go_ret
    exact ⟨rfl, hb.out⟩)
  go_enter Tryd.func13, Tryd.ntmps13
  go_wp2_with (go_at_call 29; refine K29.out.mono ?_; rintro e w1 ⟨rfl, hb⟩; replace hb := Lib.hid hb)
  go_ret
  exact ⟨rfl, hb.out⟩
end Go.Proofs.YtjpbjbcdobibbaaDoor.J

/- What mtTold, Characters and Globs give; the row that is turned, on lists. -/
set_option linter.unusedVariables false
set_option linter.unusedSimpArgs false
namespace Go.Proofs.YtjpbjbcdobibbaaDoor.JT
open Go.RowKit Go.Proofs.YtjpbjbcdobibbaaDoorW.PrintWords Go.Proofs.YtjpbjbcdobibbaaDoor.Aid Go.Proofs.YtjpbjbcdobibbaaDoor.J Go.Proofs.YtjpbjbcdobibbaaDoor.PFnMtTurned

theorem enc_len (cs : List Int) : cs.length ≤ (enc cs).length ∧ (enc cs).length ≤ 4 * cs.length := by
  induction cs with
  | nil => simp [enc]
  | cons c cs ih =>
    have := utf8_pos c
    rw [enc_cons, List.length_append, List.length_cons]
    omega
theorem pat_len (ts : List T) : ts.length ≤ (pat ts).length ∧ (pat ts).length ≤ 5 * ts.length := by
  induction ts with
  | nil => simp [pat]
  | cons t ts ih =>
    have := tt_len t
    have := tt_pos t
    rw [pat_cons, List.length_append, List.length_cons]
    omega
theorem enc_byt {cs : List Int} (h : ∀ c ∈ cs, okC c) : ∀ x ∈ enc cs, 0 ≤ x ∧ x < 256 := by
  intro x hx
  obtain ⟨c, hc, hx⟩ := List.mem_flatMap.1 hx
  have := utf8_byts (h c hc) x hx
  omega
theorem pat_byt {ts : List T} (h : ∀ t ∈ ts, okT t) : ∀ x ∈ pat ts, 0 ≤ x ∧ x < 256 := by
  intro x hx
  obtain ⟨t, ht, hx⟩ := List.mem_flatMap.1 hx
  have ok := h t ht
  cases t with
  | star => simp [tt] at hx; omega
  | one => simp [tt] at hx; omega
  | ch e c =>
    cases e with
    | true =>
      simp only [tt, List.mem_cons] at hx
      rcases hx with rfl | hx
      · decide
      · have := utf8_byts ok.1 x hx; omega
    | false => have := utf8_byts ok.1 x hx; omega
/-- What the guard tells. -/
theorem told_f (s p : ByteArray) : ∃ k fits good, laws_mtTold.f k s p = some (fits, good) ∧ (good = true → s.size ≤ 4096 ∧ p.size ≤ 4096 ∧ ∃ (cs : List Int) (ts : List T) (k' : Nat), (∀ c ∈ cs, okC c) ∧ (∀ t ∈ ts, okT t) ∧ bytesOf s = enc cs ∧ bytesOf p = pat ts ∧ fits = fit cs ts ∧ spec_Characters.f k' s = some (cs, true) ∧ spec_Globs.f k' p = some (ts.map gl, true)) := by
  by_cases h1 : (s.size : Int) > 4096
  · refine ⟨0, false, false, ?_, fun h => by cases h⟩
    unfold laws_mtTold.f
    rw [if_pos h1]
  by_cases h2 : (p.size : Int) > 4096
  · refine ⟨0, false, false, ?_, fun h => by cases h⟩
    unfold laws_mtTold.f
    rw [if_neg h1, if_pos h2]
  obtain ⟨k1, cs, b1, e1, f1⟩ := chars_f s (by omega)
  obtain ⟨k2, gs, b2, e2, f2⟩ := globs_f p (by omega)
  have q1 : ∀ K, k1 ≤ K → spec_Characters.f K s = some (cs, b1) := fun K hK => up (f := fun k => spec_Characters.f k s) (fun k => spec_Characters.mono _ k) e1 hK
  have q2 : ∀ K, k2 ≤ K → spec_Globs.f K p = some (gs, b2) := fun K hK => up (f := fun k => spec_Globs.f k p) (fun k => spec_Globs.mono _ k) e2 hK
  cases b1 with
  | false =>
    refine ⟨k1 + k2, false, false, ?_, fun h => by cases h⟩
    unfold laws_mtTold.f spec_Matches.f
    rw [if_neg h1, if_neg h2, q1 _ (by omega), Option.bind_some, q2 _ (by omega), Option.bind_some, if_neg Bool.false_ne_true]
    rfl
  | true =>
  cases b2 with
  | false =>
    refine ⟨k1 + k2, false, false, ?_, fun h => by cases h⟩
    unfold laws_mtTold.f spec_Matches.f
    rw [if_neg h1, if_neg h2, q1 _ (by omega), Option.bind_some, q2 _ (by omega), Option.bind_some, if_pos rfl, if_neg Bool.false_ne_true]
    rfl
  | true =>
  obtain ⟨g1, g2⟩ := f1 rfl
  obtain ⟨ts, rfl, g3, g4⟩ := f2 rfl
  have l1 := (enc_len cs).1
  have l2 := (pat_len ts).1
  rw [← g2, bytesOf_length] at l1
  rw [← g4, bytesOf_length] at l2
  obtain ⟨k3, e3⟩ := fits_f cs (by omega) ts (by omega)
  have q3 := up (f := fun k => spec_Fits.f k cs (ts.map gl)) (fun k => spec_Fits.mono _ _ k) e3 (show k3 ≤ k1 + k2 + k3 by omega)
  refine ⟨k1 + k2 + k3, fit cs ts, true, ?_, fun _ => ⟨by omega, by omega, cs, ts, k1 + k2, g1, g3, g2, g4, rfl, q1 _ (by omega), q2 _ (by omega)⟩⟩
  unfold laws_mtTold.f spec_Matches.f
  rw [if_neg h1, if_neg h2, q1 _ (by omega), Option.bind_some, q2 _ (by omega), Option.bind_some, if_pos rfl, if_pos rfl, q3]
  rfl
/-- The turned row, after i terms. -/
def brow (ts : List T) (n i : Nat) : List S44 := List.replicate (n - i) z44 ++ ((ts.take i).map gl).reverse
theorem brow_len (ts : List T) (n i : Nat) (h : n = ts.length) (hi : i ≤ n) : (brow ts n i).length = n := by
  unfold brow
  rw [List.length_append, List.length_replicate, List.length_reverse, List.length_map, List.length_take]
  omega
theorem brow_step (ts : List T) (n i : Nat) (h : n = ts.length) (hi : i < n) : (brow ts n i).set (n - 1 - i) (gl (ts[i]'(by omega))) = brow ts n (i + 1) := by
  unfold brow
  obtain ⟨m, rfl⟩ : ∃ m, n = i + (m + 1) := ⟨n - i - 1, by omega⟩
  have e1 : i + (m + 1) - i = m + 1 := by omega
  have e2 : i + (m + 1) - 1 - i = m := by omega
  have e3 : i + (m + 1) - (i + 1) = m := by omega
  rw [e1, e2, e3, List.take_add_one, List.getElem?_eq_getElem (by omega), Option.toList_some, List.map_append, List.reverse_append, List.map_singleton, List.reverse_singleton]
  rw [List.replicate_succ', List.append_assoc, List.set_append_right _ _ (by rw [List.length_replicate]; exact Nat.le_refl _), List.length_replicate, Nat.sub_self]
  rfl
theorem brow_zero (ts : List T) (n : Nat) : brow ts n 0 = List.replicate n z44 := by unfold brow; simp
theorem brow_end (ts : List T) : brow ts ts.length ts.length = (ts.reverse).map gl := by unfold brow; simp
theorem rdG (ts : List T) (i : Nat) (h : i < ts.length) : rd_T44 (ts.map gl) (i : Int) = gl ts[i] := by
  unfold rd_T44
  rw [Int.toNat_natCast, List.getD_eq_getElem?_getD, List.getElem?_map, List.getElem?_eq_getElem h]; rfl
/-- The text that is turned, one character more. -/
theorem turn_step (cs : List Int) (h : ∀ c ∈ cs, okC c) (j : Nat) (hj : j < cs.length) (a : ByteArray) (ha : bytesOf a = enc (cs.drop (j + 1)).reverse) : bytesOf (a ++ strOfNums (utf8 cs[j])) = enc (cs.drop j).reverse := by
  rw [bytesOf_append, ha, bytes_of_str _ (fun x hx => by have := utf8_byts (h _ (List.getElem_mem hj)) x hx; omega), List.drop_eq_getElem_cons hj, List.reverse_cons, enc_append]
  congr 1
  show utf8 _ = utf8 _ ++ []
  rw [List.append_nil]
theorem rdC (cs : List Int) (i : Nat) (h : i < cs.length) : rd cs (i : Int) = cs[i] := by
  unfold rd
  rw [Int.toNat_natCast, List.getD_eq_getElem?_getD, List.getElem?_eq_getElem h]; rfl
end Go.Proofs.YtjpbjbcdobibbaaDoor.JT

/- The law FnMtTurned. -/
set_option linter.unusedVariables false
set_option linter.unusedSimpArgs false
namespace Go.Proofs.YtjpbjbcdobibbaaDoor.JT
open Go.RowKit Go.Proofs.YtjpbjbcdobibbaaDoorW.PrintWords Go.Proofs.YtjpbjbcdobibbaaDoorW.PrintLast Go.Proofs.YtjpbjbcdobibbaaDoorW.PrintMore Go.Proofs.YtjpbjbcdobibbaaDoor.Aid Go.Proofs.YtjpbjbcdobibbaaDoor.J Go.Proofs.YtjpbjbcdobibbaaDoor.PFnMtTurned

theorem i44 : (Tryd.prog.info? 44).map (·.size) = some 3 := by kernel_rfl
theorem one44 {x y : Bool} {z : Int} : ∀ q ∈ [Value.bool x, Value.bool y, Value.int .i64 z], q.oneCell' = true := by
  intro q hq
  simp only [List.mem_cons, List.not_mem_nil, or_false] at hq
  rcases hq with rfl | rfl | rfl <;> rfl
set_option maxHeartbeats 4000000 in
set_option maxRecDepth 100000 in
theorem law_any (s p : ByteArray) (w : World) (hT : Lib.Utf8Tabs gF gA w) (hs : s.size ≤ 140737488351232) (hp : p.size ≤ 140737488351232) :
    Calls Tryd.prog 6 #[.string s, .string p] w fun e w' => e = .returned (.bool true) ∧ Below w.heap.size w w' := by
  by_cases c1 : 2147483647 < (s.size : Int)
  · have hd : decide (2147483647 < (s.size : Int)) = true := decide_eq_true c1
    clear hT
    go_enter Tryd.func6, Tryd.ntmps6
    go_wp2
    go_ret
    exact ⟨rfl, Below.refl _ _⟩
  have hd1 : decide (2147483647 < (s.size : Int)) = false := decide_eq_false c1
  by_cases c2 : 2147483647 < (p.size : Int)
  · have hd : decide (2147483647 < (p.size : Int)) = true := decide_eq_true c2
    clear hT
    go_enter Tryd.func6, Tryd.ntmps6
    go_wp2
    go_ret
    exact ⟨rfl, Below.refl _ _⟩
  have hd2 : decide (2147483647 < (p.size : Int)) = false := decide_eq_false c2
  obtain ⟨kt, fits, good, ht, hg⟩ := told_f s p
  have HK := Lib.hid (fun W => laws_mtTold.calls kt s p fits good W ht)
  clear ht
  cases good with
  | false =>
    clear hT hg
    go_enter Tryd.func6, Tryd.ntmps6
    go_wp2_with (go_at_call 15; refine (HK.out _).mono ?_; rintro e w1 ⟨rfl, hb⟩; replace hb := Lib.hid hb)
    go_ret
    exact ⟨rfl, hb.out⟩
  | true =>
  obtain ⟨z1, z2, cs, ts, kc, okc, okt, bs, bp, hF, ec, eg⟩ := hg rfl
  clear hg
  have HF := Lib.hid hF
  clear hF
  have HC := Lib.hid (fun W => spec_Characters.calls kc s cs true W ec)
  have HG := Lib.hid (fun W => spec_Globs.calls kc p (ts.map gl) true W eg)
  obtain ⟨n, hn⟩ : ∃ n, n = ts.length := ⟨_, rfl⟩
  have hnl : (ts.map gl).length = n := by rw [List.length_map]; exact hn.symm
  have HT := Lib.hid hT
  have HS := Lib.hid okc
  have HP := Lib.hid okt
  have Hbs := Lib.hid bs
  have Hbp := Lib.hid bp
  have Hn := Lib.hid hn
  have n4 : n ≤ 4096 := by have := (pat_len ts).1; rw [← bp, bytesOf_length] at this; omega
  have l4 : cs.length ≤ 4096 := by have := (enc_len cs).1; rw [← bs, bytesOf_length] at this; omega
  clear hT ec eg okc okt bs bp hn
  go_enter Tryd.func6, Tryd.ntmps6
  go_wp2_with (first
    | (go_at_call 15; refine (HK.out _).mono ?_; rintro e w1 ⟨rfl, hb⟩; have HB := Lib.hid hb; clear hb)
    | (go_at_call 16; refine (HC.out _).mono ?_; rintro e w2 ⟨v0, rfl, hR, hb⟩; obtain ⟨A0, c0, rfl, hc0, hr0⟩ := Kd.R_reads hR; have HR0 := Lib.hid hr0; replace HB := Lib.hid (below_step HB.out hb); clear hb hR hr0)
    | (go_at_call 17; refine (HG.out _).mono ?_; rintro e w3 ⟨v1, rfl, hR, hb⟩; obtain ⟨A1, c1', rfl, hc1, hr1⟩ := Kd.R_reads hR; rw [hnl] at hr1 hc1 ⊢; have HR1 := Lib.hid hr1; replace HR0 := Lib.hid (Kd.C_below HR0.out hb); replace HB := Lib.hid (below_step HB.out hb); clear hb hR hr1)
    | (refine Kd.R_make k44 _ 44 rfl (N := 44) rfl 40 _ _ rfl (n : Int) rfl rfl Tryd.underlying40 (.agg #[.bool false, .bool false, .int .i64 0]) 16 info44 rfl (by decide) (by decide) z44 (ok := fun _ => True) (okp := fun _ => True) (k44_mkM _ _ _ _) (fun _ hk => hk) trivial (by omega) (by omega) (Below.refl _ _) (Nat.le_refl _) ?_; intro vb w4 hRb hb hg_ hnew_; clear hg_ hnew_; rw [Int.toNat_natCast] at hRb; obtain ⟨Ab, cb, rfl⟩ := Kd.R_slice hRb; rw [List.length_replicate] at hRb ⊢; have HRb := Lib.hid hRb; have HM := Lib.hid hb; clear hRb hb))
  go_loopg [47] n (fun kq v47 w' => Hid (∃ i : Nat, v47 = .int .i64 ((i : Nat) : Int) ∧ i + kq = n ∧ k44.R 44 w' w3.heap.size (fun _ => True) (.slice Ab n cb) (brow ts n i) ∧ Below w3.heap.size w3 w'))
  case atStart => exact Lib.hid ⟨0, rfl, by omega, by rw [brow_zero]; exact HRb.out, HM.out⟩
  case round =>
    obtain ⟨i, rfl, hik, hRi, hMi⟩ := hrel.out
    clear hrel HRb HM
    have hil : (brow ts n i).length = n := brow_len ts n i Hn.out (by omega)
    have HMi := Lib.hid hMi
    rcases Nat.lt_or_ge i n with hlt | hge
    · have hlt' : i < ts.length := by have := Hn.out; omega
      obtain ⟨g, cap, hv, hg1, hg2, _⟩ := Kd.R_form hRi (by omega)
      rw [hil] at hv
      injection hv with hv1 _ hv2
      subst hv1; subst hv2
      obtain ⟨ad, e1, hx0, hx1, hx2⟩ := at_T44 (Kd.C_below HR1.out hMi) (i : Int) (by omega) (by omega)
      subst e1
      rw [rdG ts i hlt', Int.toNat_natCast] at hx0 hx1 hx2
      obtain ⟨t, ht⟩ : ∃ t, t = ts[i] := ⟨_, rfl⟩
      rw [← ht] at hx0 hx1 hx2
      obtain ⟨c, hcl, _, hcc, hcf⟩ := Kd.R_elem hRi z44 (((n - 1 - i : Nat) : Int)) (by omega) (by omega)
      have HRi := Lib.hid hRi
      have Hcc := Lib.hid hcc
      have Hcl := Lib.hid hcl
      have Hst : Hid ((brow ts n i).set (n - 1 - i) (gl t) = brow ts n (i + 1)) := Lib.hid (by rw [ht]; exact brow_step ts n i Hn.out hlt)
      have p0 : (0 ≤ (i : Int)) = True := eq_true (by omega)
      have q0 : ((i : Int) < (n : Int)) = True := eq_true (by omega)
      have p1 : (0 ≤ (n : Int) - 1 - (i : Int)) = True := eq_true (by omega)
      have q1 : ((n : Int) - 1 - (i : Int) < (n : Int)) = True := eq_true (by omega)
      have HMM : Hid (∀ W base, k44.M W base (fun k => k ≠ g) (gl t) (c.take 0 ++ [.bool (gl t).f0, .bool (gl t).f1, .int .i64 (gl t).f2] ++ c.drop (0 + 3))) := Lib.hid (fun W base => by
        have h3 : k44.sz = 3 := rfl
        rw [List.take_zero, List.nil_append, List.drop_eq_nil_of_le (by omega), List.append_nil]
        exact k44_mkM _ _ _ _)
      clear hRi hMi hil hcc hcl hcf ht hlt' hnl
      go_wp2_with (refine Kd.R_store k44 w3.heap.size rfl rfl 44 _ _ rfl 44 ((n - 1 - i : Nat) : Int) 0 (brow ts n i) (gl t) (.agg #[.bool (gl t).f0, .bool (gl t).f1, .int .i64 (gl t).f2]) [.bool (gl t).f0, .bool (gl t).f1, .int .i64 (gl t).f2] c (fun _ => True) (fun k => k ≠ g) rfl rfl rfl rfl i44 one44 HRi.out (by omega) (by omega) Hcl.out Hcc.out (Nat.le_refl _) (HMM.out _ _) (fun k hk => ⟨trivial, hk⟩) HMi.out ?_; intro w5 hR5 hb5 hg5; rw [Int.toNat_natCast, Hst.out] at hR5; have HR5 := Lib.hid hR5; have HB5 := Lib.hid hb5; clear hR5 hb5 hg5)
      go_roundg (n - (i + 1))
      case rel => exact Lib.hid ⟨i + 1, rfl, by omega, HR5.out, HB5.out⟩
      case measure => omega
    · obtain rfl : i = n := by omega
      obtain ⟨hni, hcb', _⟩ := Kd.R_reads' hRi
      have HRi := Lib.hid hRi
      have HBr := Lib.hid (show brow ts i i = (ts.reverse).map gl by rw [Hn.out]; exact brow_end ts)
      clear hRi hMi hil hge hni
      go_wp2
      go_loopg [13, 14] cs.length (fun kq v13 v14 w' => Hid (∃ a : ByteArray, v13 = .string a ∧ v14 = .int .i64 ((kq : Int) - 1) ∧ kq ≤ cs.length ∧ bytesOf a = enc (cs.drop kq).reverse ∧ k44.R 44 w' w3.heap.size (fun _ => True) (.slice Ab i cb) (brow ts i i) ∧ Below w3.heap.size w3 w'))
      case atStart => exact Lib.hid ⟨⟨#[]⟩, rfl, rfl, Nat.le_refl _, by rw [List.drop_length]; rfl, HRi.out, HMi.out⟩
      case round =>
        obtain ⟨a, rfl, rfl, hkl, ha, hRj, hMj⟩ := hrel.out
        clear hrel HRi HMi
        have ha4 : a.size ≤ 20000 := by
          have h1 := (enc_len (cs.drop gk).reverse).2
          rw [← ha, bytesOf_length, List.length_reverse, List.length_drop] at h1
          omega
        cases gk with
        | zero =>
          have hCj := Kd.R_reads' hRj
          obtain ⟨pb, hpb⟩ : ∃ pb, pb = strOfNums (pat ((ts.reverse).map spell)) := ⟨_, rfl⟩
          have okr : ∀ t ∈ (ts.reverse).map spell, okT t := fun t ht => by
            obtain ⟨u, hu, rfl⟩ := List.mem_map.1 ht
            exact spell_ok (HP.out u (List.mem_reverse.1 hu))
          have bpb : bytesOf pb = pat ((ts.reverse).map spell) := by rw [hpb]; exact bytes_of_str _ (pat_byt okr)
          have zpb : pb.size ≤ 100000 := by
            have h1 := (pat_len ((ts.reverse).map spell)).2
            rw [← bpb, bytesOf_length, List.length_map, List.length_reverse, ← Hn.out] at h1
            omega
          have HPat : Hid (∀ W, k44.C W Ab i (brow ts i i) → Calls Tryd.prog 19 #[.slice Ab i cb] W fun e w' => e = .returned (.string pb) ∧ Below W.heap.size W w') := Lib.hid (fun W hC => by
            obtain ⟨kp, hkp⟩ := pattern_f ts.reverse (by rw [List.length_reverse]; have := Hn.out; omega) (fun t ht => HP.out t (List.mem_reverse.1 ht))
            have hl : ((ts.reverse).map gl).length = i := by rw [List.length_map, List.length_reverse]; exact Hn.out.symm
            have := spec_Pattern.calls kp Ab cb ((ts.reverse).map gl) pb W (by rw [hl, ← HBr.out]; exact hC) (by rw [hl]; exact hcb') (by rw [hpb]; exact hkp)
            rw [hl] at this
            exact this)
          have HM1 : Hid (∀ W, Lib.Utf8Tabs gF gA W → Calls Tryd.prog 13 #[.string a, .string pb] W fun e w' => e = .returned (.bool fits) ∧ Below W.heap.size W w') := Lib.hid (fun W hW => by
            have := MtMatch_any a pb cs.reverse ((ts.reverse).map spell) W (fun c hc => HS.out c (List.mem_reverse.1 hc)) okr (by rw [ha, List.drop_zero]) bpb (by omega) zpb hW
            rw [fit_spell, fit_rev, ← HF.out] at this
            exact this)
          have HM2 : Hid (∀ W, Lib.Utf8Tabs gF gA W → Calls Tryd.prog 13 #[.string s, .string p] W fun e w' => e = .returned (.bool fits) ∧ Below W.heap.size W w') := Lib.hid (fun W hW => by
            have := MtMatch_any s p cs ts W HS.out HP.out Hbs.out Hbp.out (by omega) (by omega) hW
            rw [← HF.out] at this
            exact this)
          have HCj := Lib.hid (show k44.C _ Ab i (brow ts i i) by have h := hCj.2.2; rwa [brow_len ts i i Hn.out (Nat.le_refl _)] at h)
          have HBj := Lib.hid (below_step HB.out hMj)
          clear hRj hMj hCj ha okr bpb zpb hpb hkl
          cases fits
          all_goals
            go_wp2_with (first
              | (go_at_call 19; refine (HPat.out _ HCj.out).mono ?_; rintro e w6 ⟨rfl, hb⟩; replace HBj := Lib.hid (below_step HBj.out hb); clear hb)
              | (go_at_call_of 13 (Value.string a); refine (HM1.out _ (tabs_below HT.out HBj.out)).mono ?_; rintro e w7 ⟨rfl, hb⟩; replace HBj := Lib.hid (below_step HBj.out hb); clear hb)
              | (go_at_call_of 13 (Value.string s); refine (HM2.out _ (tabs_below HT.out HBj.out)).mono ?_; rintro e w8 ⟨rfl, hb⟩; replace HBj := Lib.hid (below_step HBj.out hb); clear hb))
            go_ret
            exact ⟨rfl, HBj.out⟩
        | succ j =>
          have hj : j < cs.length := by omega
          obtain ⟨ad, e1, hx0⟩ := Kd.at_int (Kd.C_below HR0.out hMj) (j : Int) (by omega) (by omega)
          subst e1
          rw [rdC cs j hj, Int.toNat_natCast] at hx0
          obtain ⟨c, hc⟩ : ∃ c, c = cs[j] := ⟨_, rfl⟩
          have okc : okC c := by rw [hc]; exact HS.out _ (List.getElem_mem hj)
          obtain ⟨u, hu⟩ : ∃ u, u = strOfNums (utf8 c) := ⟨_, rfl⟩
          have HE : Hid (∀ W, Calls Tryd.prog 18 #[.int .i64 c] W fun e w' => e = .returned (.string u) ∧ Below W.heap.size W w') := Lib.hid (fun W => spec_Encode.calls 1 c u W (by rw [hu]; exact encode_f c okc))
          have hb1 := Lib.hid (show bytesOf (a ++ u) = enc (cs.drop j).reverse by rw [hu, hc]; exact turn_step cs HS.out j hj a ha)
          have hzu : u.size ≤ 4 := by
            have h1 := bytesOf_length u
            rw [hu, bytes_of_str _ (fun x hx => by have := utf8_byts okc x hx; omega)] at h1
            have := (utf8_pos c).2
            rw [hu]; omega
          rw [← hc] at hx0
          have e0 : (((j + 1 : Nat) : Int) - 1) = (j : Int) := by omega
          rw [e0]
          have p0 : (0 ≤ (j : Int)) = True := eq_true (by omega)
          have q0 : ((j : Int) < (cs.length : Int)) = True := eq_true (by omega)
          have hz : a.size + u.size ≤ 9223372036854775807 := by omega
          have HRj := Lib.hid hRj
          have HMj := Lib.hid hMj
          clear hRj hMj ha okc hu hc hj
          go_wp2_with (go_at_call 18; refine (HE.out _).mono ?_; rintro e w6 ⟨rfl, hb⟩; replace HRj := Lib.hid (Kd.R_below HRj.out hb); replace HMj := Lib.hid (below_then HMj.out HMj.out.size hb); clear hb)
          go_roundg j
          case rel => exact Lib.hid ⟨_, rfl, rfl, by omega, hb1.out, HRj.out, HMj.out⟩
          case measure => omega
end Go.Proofs.YtjpbjbcdobibbaaDoor.JT

