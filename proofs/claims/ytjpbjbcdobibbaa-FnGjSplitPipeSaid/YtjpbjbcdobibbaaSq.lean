/- FnGjSplitPipe: the split, and the law, in plain Lean. -/
import Derived.Test.YtjpbjbcdobibbaaSp
import Derived.Test.YtjpbjbcdobibbaaSx4
set_option linter.unusedVariables false
set_option linter.unusedSimpArgs false
namespace Go.Proofs.Ytjpbjbcdobibbaa.Sp
open Go.RowKit Go.Proofs.YtjpbjbcdobibbaaW.PrintWords Go.Proofs.YtjpbjbcdobibbaaW.PrintLast Go.Proofs.YtjpbjbcdobibbaaW.PrintMore Go.Proofs.Ytjpbjbcdobibbaa.Aid Go.Proofs.Ytjpbjbcdobibbaa.PFnGjSplitPipe

abbrev R3 := ByteArray × ByteArray × Bool
/-- The end. -/
theorem run_end (t x2 x3 : ByteArray) (x4 : Bool) (a : Nat) (h : a = t.size) : ∃ k, gjson_splitPossiblePipe.l1 k t x2 x3 x4 (a : Int) = some (x2, x3, x4) :=
  ⟨1, by rw [gjson_splitPossiblePipe.l1, if_neg (by omega)]⟩
section
variable (t x2 x3 : ByteArray) (x4 : Bool) (ht : t.size ≤ 700000000000) (r : R3)
include ht
/-- Over written bytes. -/
theorem run_eks : ∀ (cs : L) (a : Nat) (rest : L), from_ t a = eks cs ++ rest → (∃ k, gjson_splitPossiblePipe.l1 k t x2 x3 x4 ((a + (eks cs).length : Nat) : Int) = some r) → ∃ k, gjson_splitPossiblePipe.l1 k t x2 x3 x4 (a : Int) = some r
  | [], a, rest, _, h => h
  | c :: cs, a, rest, hf, h => by
    rw [eks_cons] at hf h
    by_cases hp : pb c = true
    · have e : eb c = [c] := if_pos hp
      rw [e] at hf h
      obtain ⟨h1, h2, h3⟩ := from_eq (show from_ t a = c :: (eks cs ++ rest) by rw [hf]; rfl)
      obtain ⟨n1, n2, n3, _, _⟩ := pb_not hp
      obtain ⟨k, hk⟩ := run_eks cs (a + 1) rest h3 (by obtain ⟨k, hk⟩ := h; refine ⟨k, ?_⟩; rw [← hk]; congr 2; simp only [List.length_append, List.length_singleton]; omega)
      refine ⟨k + 1, ?_⟩
      rw [gjson_splitPossiblePipe.l1, if_pos (by omega), if_pos (by omega), h2, if_neg n1, if_neg n2, if_neg n3, w64n a (by omega)]
      exact hk
    · have e : eb c = [92, c] := if_neg hp
      rw [e] at hf h
      obtain ⟨h1, h2, h3⟩ := from_eq (show from_ t a = 92 :: (c :: (eks cs ++ rest)) by rw [hf]; rfl)
      obtain ⟨h4, h5, h6⟩ := from_eq h3
      obtain ⟨k, hk⟩ := run_eks cs (a + 1 + 1) rest h6 (by obtain ⟨k, hk⟩ := h; refine ⟨k, ?_⟩; rw [← hk]; congr 2; simp only [List.length_append, List.length_cons, List.length_nil]; omega)
      refine ⟨k + 1, ?_⟩
      rw [gjson_splitPossiblePipe.l1, if_pos (by omega), if_pos (by omega), h2, if_pos rfl, w64n a (by omega), w64n (a + 1) (by omega)]
      exact hk
/-- Over a dot and a key. -/
theorem run_pj : ∀ (ks : List ByteArray) (a : Nat) (rest : L), (∀ x ∈ ks, x.size ≠ 0) → from_ t a = pj ks ++ rest → (∃ k, gjson_splitPossiblePipe.l1 k t x2 x3 x4 ((a + (pj ks).length : Nat) : Int) = some r) → ∃ k, gjson_splitPossiblePipe.l1 k t x2 x3 x4 (a : Int) = some r
  | [], a, rest, _, _, h => h
  | q :: ks, a, rest, hne, hf, h => by
    have hq := hne q List.mem_cons_self
    simp only [pj, List.cons_append, List.append_assoc] at hf h
    obtain ⟨h1, h2, h3⟩ := from_eq hf
    obtain ⟨b0, bt0, hb⟩ : ∃ b0 bt0, bytesOf q = b0 :: bt0 := by
      cases hb : bytesOf q with
      | nil => have := bytesOf_length q; rw [hb] at this; simp at this; omega
      | cons b0 bt0 => exact ⟨b0, bt0, rfl⟩
    have hx : ∃ y r', from_ t (a + 1) = y :: r' ∧ y ≠ 35 := by
      rw [h3]
      unfold ek
      rw [hb, eks_cons]
      by_cases hp : pb b0 = true
      · have e : eb b0 = [b0] := if_pos hp
        rw [e]
        exact ⟨b0, _, rfl, (pb_not hp).2.2.2.1⟩
      · have e : eb b0 = [92, b0] := if_neg hp
        rw [e]
        exact ⟨92, _, rfl, by decide⟩
    obtain ⟨y, r', hy, hy35⟩ := hx
    obtain ⟨g1, g2, _⟩ := from_eq hy
    obtain ⟨k, hk⟩ := run_eks t x2 x3 x4 ht r (bytesOf q) (a + 1) (pj ks ++ rest) h3 (run_pj ks (a + 1 + (ek q).length) rest (fun x hx => hne x (List.mem_cons_of_mem _ hx)) (by rw [← from_drop, h3, List.drop_left' rfl]) (by
      obtain ⟨k, hk⟩ := h; refine ⟨k, ?_⟩; rw [← hk]; congr 2; simp only [List.length_cons, List.length_append]; omega))
    refine ⟨k + 1, ?_⟩
    have hw2 : wrap64 ((t.size : Int) - 1) = (t.size : Int) - 1 := w64 (by omega) (by omega)
    rw [gjson_splitPossiblePipe.l1, if_pos (by omega), if_pos (by omega), h2, if_neg (by decide), if_pos rfl, w64n a (by omega), hw2, if_neg (by omega), if_pos (by omega), if_pos (by omega), g2, if_neg hy35]
    exact hk
theorem run_pt (ks : List ByteArray) (rest : L) (hne : ∀ x ∈ ks, x.size ≠ 0) (hf : bytesOf t = pt ks ++ rest) (h : ∃ k, gjson_splitPossiblePipe.l1 k t x2 x3 x4 (((pt ks).length : Nat) : Int) = some r) : ∃ k, gjson_splitPossiblePipe.l1 k t x2 x3 x4 0 = some r := by
  have h0 : from_ t 0 = pt ks ++ rest := hf
  cases ks with
  | nil => exact h
  | cons q ks =>
    simp only [pt, List.append_assoc] at h0 h
    refine run_eks t x2 x3 x4 ht r (bytesOf q) 0 (pj ks ++ rest) h0 (run_pj t x2 x3 x4 ht r ks (0 + (ek q).length) rest (fun x hx => hne x (List.mem_cons_of_mem _ hx)) (by rw [← from_drop, h0, List.drop_left' rfl]) (by
      obtain ⟨k, hk⟩ := h; refine ⟨k, ?_⟩; rw [← hk]; congr 2; simp only [List.length_append]; omega))
/-- The pipe. -/
theorem run_pipe (a : Nat) (R : L) (h : from_ t a = 124 :: R) : ∃ k, gjson_splitPossiblePipe.l1 k t x2 x3 x4 (a : Int) = some (t.extract 0 a, t.extract (a + 1) t.size, true) := by
  obtain ⟨h1, h2, _⟩ := from_eq h
  refine ⟨1, ?_⟩
  rw [gjson_splitPossiblePipe.l1, if_pos (by omega), if_pos (by omega), h2, if_neg (by decide), if_neg (by decide), if_pos rfl, w64n a (by omega), if_pos (by omega), if_pos (by omega), if_pos (by omega)]
  rw [Int.toNat_natCast, Int.toNat_natCast]
/-- The quick look for a pipe. -/
theorem run_look (h1 : ∃ k, gjson_splitPossiblePipe.j1 k t x2 x3 x4 true = some r) : ∀ (m a : Nat), a + m = t.size → ((124 : Int) ∈ from_ t a ∨ ∃ k, gjson_splitPossiblePipe.j1 k t x2 x3 x4 false = some r) → ∃ k, gjson_splitPossiblePipe.l0 k t x2 x3 x4 false (a : Int) = some r := by
  intro m
  induction m with
  | zero =>
    intro a e h
    obtain rfl : a = t.size := by omega
    rw [from_end] at h
    rcases h with h | ⟨k, hk⟩
    · cases h
    · refine ⟨k + 1, ?_⟩
      rw [gjson_splitPossiblePipe.l0, if_neg (by omega)]
      exact hk
  | succ m ih =>
    intro a e h
    have hc := from_cons t a (by omega)
    by_cases hb : bt t (a : Int) = 124
    · obtain ⟨k, hk⟩ := h1
      refine ⟨k + 1, ?_⟩
      rw [gjson_splitPossiblePipe.l0, if_pos (by omega), if_pos (by omega), if_pos hb]
      exact hk
    · obtain ⟨k, hk⟩ := ih (a + 1) (by omega) (by
        rcases h with h | h
        · rw [hc] at h
          rcases List.mem_cons.1 h with h | h
          · exact absurd h.symm hb
          · exact .inl h
        · exact .inr h)
      refine ⟨k + 1, ?_⟩
      rw [gjson_splitPossiblePipe.l0, if_pos (by omega), if_pos (by omega), if_neg hb, w64n a (by omega)]
      exact hk
/-- A path of keys, cut or not. -/
theorem run_j1 (q : ByteArray) (ks : List ByteArray) (rest : L) (hne : ∀ x ∈ q :: ks, x.size ≠ 0) (hf : bytesOf t = pt (q :: ks) ++ rest) (h : ∃ k, gjson_splitPossiblePipe.l1 k t x2 x3 x4 0 = some r) : ∃ k, gjson_splitPossiblePipe.j1 k t x2 x3 x4 true = some r := by
  obtain ⟨k, hk⟩ := h
  have hq := hne q List.mem_cons_self
  obtain ⟨b0, bt0, hb⟩ : ∃ b0 bt0, bytesOf q = b0 :: bt0 := by
    cases hb : bytesOf q with
    | nil => have := bytesOf_length q; rw [hb] at this; simp at this; omega
    | cons b0 bt0 => exact ⟨b0, bt0, rfl⟩
  have hx : ∃ y r', from_ t 0 = y :: r' ∧ y ≠ 123 := by
    have h0 : from_ t 0 = pt (q :: ks) ++ rest := hf
    rw [h0]
    simp only [pt]
    unfold ek
    rw [hb, eks_cons]
    by_cases hp : pb b0 = true
    · have e : eb b0 = [b0] := if_pos hp
      rw [e]
      exact ⟨b0, _, rfl, (pb_not hp).2.2.2.2⟩
    · have e : eb b0 = [92, b0] := if_neg hp
      rw [e]
      exact ⟨92, _, rfl, by decide⟩
  obtain ⟨y, r', hy, hy2⟩ := hx
  obtain ⟨g1, g2, _⟩ := from_eq hy
  have g3 : bt t 0 = y := g2
  have g4 : (bt t 0 == 123) = false := by rw [g3]; exact beq_eq_false_iff_ne.mpr hy2
  refine ⟨k + 2, ?_⟩
  rw [gjson_splitPossiblePipe.j1, if_pos rfl, if_pos (by omega), if_pos (by omega), g4, gjson_splitPossiblePipe.j2, if_neg (by decide)]
  exact hk
end
theorem impl_of (t : ByteArray) (r : R3) (h : ∃ k, gjson_splitPossiblePipe.l0 k t (⟨#[]⟩ : ByteArray) (⟨#[]⟩ : ByteArray) false false 0 = some r) : ∃ k, impl_GjSplitPipe.f k t = some r := by
  obtain ⟨k, hk⟩ := h
  refine ⟨k, ?_⟩
  unfold impl_GjSplitPipe.f gjson_DoorPipe.f gjson_splitPossiblePipe.f
  rw [hk]; rfl
/-- No pipe. -/
theorem split_none (t : ByteArray) (ht : t.size ≤ 700000000000) (q : ByteArray) (ks : List ByteArray) (hne : ∀ x ∈ q :: ks, x.size ≠ 0) (hf : bytesOf t = pt (q :: ks)) : ∃ k, impl_GjSplitPipe.f k t = some ((⟨#[]⟩ : ByteArray), (⟨#[]⟩ : ByteArray), false) := by
  have hf' : bytesOf t = pt (q :: ks) ++ [] := by rw [hf, List.append_nil]
  have hlen : (pt (q :: ks)).length = t.size := by rw [← hf, bytesOf_length]
  refine impl_of t _ (run_look t _ _ _ ht _ (run_j1 t _ _ _ ht _ q ks [] hne hf' (run_pt t _ _ _ ht _ (q :: ks) [] hne hf' (run_end t _ _ _ _ hlen))) t.size 0 (by omega) (.inr ⟨1, ?_⟩))
  rw [gjson_splitPossiblePipe.j1, if_neg (by decide)]
/-- A pipe. -/
theorem split_some (t : ByteArray) (ht : t.size ≤ 700000000000) (q : ByteArray) (ks : List ByteArray) (R : L) (hne : ∀ x ∈ q :: ks, x.size ≠ 0) (hf : bytesOf t = pt (q :: ks) ++ 124 :: R) :
    ∃ k, impl_GjSplitPipe.f k t = some (t.extract 0 (pt (q :: ks)).length, t.extract ((pt (q :: ks)).length + 1) t.size, true) := by
  have h0 : from_ t 0 = pt (q :: ks) ++ 124 :: R := hf
  refine impl_of t _ (run_look t _ _ _ ht _ (run_j1 t _ _ _ ht _ q ks (124 :: R) hne hf (run_pt t _ _ _ ht _ (q :: ks) (124 :: R) hne hf (run_pipe t _ _ _ ht _ R ?_))) t.size 0 (by omega) (.inl ?_))
  · rw [show (pt (q :: ks)).length = 0 + (pt (q :: ks)).length by omega, ← from_drop, h0, List.drop_left' rfl]
  · rw [h0]; simp
end Go.Proofs.Ytjpbjbcdobibbaa.Sp
