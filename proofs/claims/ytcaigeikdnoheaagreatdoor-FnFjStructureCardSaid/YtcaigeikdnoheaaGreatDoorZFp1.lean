/- Several texts in one. -/
import Derived.Test.YtcaigeikdnoheaaGreatDoorZGj
import Derived.Deep.AppendSrc
import Derived.BigQuiet
import Derived.StillTailTactics
import Derived.IntWalk
set_option linter.unusedVariables false
set_option linter.unusedSimpArgs false
namespace Go.Proofs.YtcaigeikdnoheaaGreatDoor.Fp
open Go.RowKit Go.Proofs.YtcaigeikdnoheaaGreatDoorW.PrintWords Go.Proofs.YtcaigeikdnoheaaGreatDoorW.PrintLast Go.Proofs.YtcaigeikdnoheaaGreatDoorW.PrintMore Go.Proofs.YtcaigeikdnoheaaGreatDoor.Aid Go.Proofs.YtcaigeikdnoheaaGreatDoor.J

abbrev tV : Nat := 89
abbrev tPar : Nat := 76
/-- Where the cache's row lies, and how many of its values are given away. -/
def vsOf : Value → Option (Nat × Nat)
  | .slice (some a) n _ => some (a.block, n)
  | _ => none
/-- A cell that parsing from here on leaves alone. -/
def Old (A : Nat) (W : World) (vs : Value) (b o : Nat) : Prop := b < W.heap.size ∧ b ≠ A ∧ ∀ B n, vsOf vs = some (B, n) → b = B → o < 5 * n
/-- What parsing leaves alone. -/
structure Fr (A : Nat) (W : World) (vs : Value) (W' : World) (vs' : Value) : Prop where
  size : W.heap.size ≤ W'.heap.size
  block : ∀ k, k < W.heap.size → k ≠ A → (∀ B n, vsOf vs = some (B, n) → k ≠ B) → W'.heap[k]? = W.heap[k]?
  pre : ∀ B n, vsOf vs = some (B, n) → B ≠ A ∧ ∃ Z Z', W.heap[B]? = some (.cells Z tV (0, 0)) ∧ W'.heap[B]? = some (.cells Z' tV (0, 0)) ∧ Z'.size = Z.size ∧ ∀ j, j < 5 * n → Z'[j]? = Z[j]?
  vs : ∀ B' n', vsOf vs' = some (B', n') → W.heap.size ≤ B' ∨ ∃ n, vsOf vs = some (B', n) ∧ n ≤ n'
theorem Fr.trans {A : Nat} {W W1 W2 : World} {vs vs1 vs2 : Value} (h : Fr A W vs W1 vs1) (k : Fr A W1 vs1 W2 vs2) : Fr A W vs W2 vs2 := by
  refine ⟨Nat.le_trans h.size k.size, fun i hi hA hB => ?_, fun B n hv => ?_, fun B n hv => ?_⟩
  · rw [k.block i (Nat.lt_of_lt_of_le hi h.size) hA, h.block i hi hA hB]
    intro B1 n1 h1 e
    subst e
    rcases h.vs i n1 h1 with g | ⟨n0, g, _⟩
    · omega
    · exact hB i n0 g rfl
  · obtain ⟨hA, Z, Z1, e0, e1, ez, e2⟩ := h.pre B n hv
    refine ⟨hA, Z, ?_⟩
    by_cases hq : ∃ n1, vsOf vs1 = some (B, n1)
    · obtain ⟨n1, hq⟩ := hq
      obtain ⟨_, Y, Y1, f0, f1, fz, f2⟩ := k.pre B n1 hq
      rw [e1] at f0
      injection f0 with f0
      injection f0 with f0 _ _
      subst f0
      refine ⟨Y1, e0, f1, fz.trans ez, fun j hj => ?_⟩
      have hn : n ≤ n1 := by
        rcases h.vs B n1 hq with g | ⟨n0, g, hl⟩
        · have := blk_lt e0; omega
        · rw [hv] at g
          injection g with g; injection g with _ g
          omega
      rw [f2 j (by omega), e2 j hj]
    · refine ⟨Z1, e0, ?_, ez, e2⟩
      rw [k.block B (blk_lt e1) hA (fun B1 n1 h1 e => hq ⟨n1, by rw [h1, e]⟩), e1]
  · rcases k.vs B n hv with g | ⟨n1, g, hl⟩
    · exact .inl (Nat.le_trans h.size g)
    · rcases h.vs B n1 g with g2 | ⟨n0, g2, hl2⟩
      · exact .inl g2
      · exact .inr ⟨n0, g2, by omega⟩
theorem Old.fr {A : Nat} {W W1 : World} {vs vs1 : Value} {b o : Nat} (h : Old A W vs b o) (k : Fr A W vs W1 vs1) : Old A W1 vs1 b o := by
  obtain ⟨h1, h2, h3⟩ := h
  refine ⟨Nat.lt_of_lt_of_le h1 k.size, h2, fun B n hv e => ?_⟩
  rcases k.vs B n hv with g | ⟨n0, g, hl⟩
  · omega
  · have := h3 B n0 g e
    omega
theorem Fr.cell {A : Nat} {W W1 : World} {vs vs1 : Value} {b o : Nat} (k : Fr A W vs W1 vs1) (h : Old A W vs b o) : W1.cell? ⟨b, o, none⟩ = W.cell? ⟨b, o, none⟩ := by
  obtain ⟨h1, h2, h3⟩ := h
  by_cases hq : ∃ n, vsOf vs = some (b, n)
  · obtain ⟨n, hq⟩ := hq
    obtain ⟨_, Z, Z', e0, e1, ez, e2⟩ := k.pre b n hq
    rw [blk_cell e1 o, blk_cell e0 o, e2 o (h3 b n hq rfl)]
  · exact World.cell?_of_block (k.block b h1 h2 (fun B n hv e => hq ⟨n, by rw [hv, e]⟩))
/-- A block of a type. -/
def ty (W : World) (b t : Nat) : Prop := ∃ Z, W.heap[b]? = some (.cells Z t (0, 0))
theorem ty.lt {W : World} {b t : Nat} (h : ty W b t) : b < W.heap.size := by obtain ⟨Z, h⟩ := h; exact blk_lt h
theorem Fr.ty {A : Nat} {W W1 : World} {vs vs1 : Value} {b t : Nat} (k : Fr A W vs W1 vs1) (hA : b ≠ A) (h : ty W b t) : ty W1 b t := by
  by_cases hq : ∃ n, vsOf vs = some (b, n)
  · obtain ⟨n, hq⟩ := hq
    obtain ⟨_, Z, Z', e0, e1, ez, e2⟩ := k.pre b n hq
    obtain ⟨Y, h⟩ := h
    rw [e0] at h
    injection h with h; injection h with _ h _
    subst h
    exact ⟨Z', e1⟩
  · obtain ⟨Y, h⟩ := h
    exact ⟨Y, by rw [k.block b (blk_lt h) hA (fun B n hv e => hq ⟨n, by rw [hv, e]⟩), h]⟩
theorem ty.set {W : World} {b t : Nat} (h : ty W b t) (b' o : Nat) (u : Value) : ty (W.setCell ⟨b', o, none⟩ u) b t := by
  obtain ⟨Z, h⟩ := h
  by_cases e : b = b'
  · subst e
    exact ⟨_, blk_set h o u⟩
  · exact ⟨Z, blk_far h e u⟩
theorem ty.below {W W1 : World} {b t : Nat} (h : ty W b t) (k : Below W.heap.size W W1) : ty W1 b t := by
  obtain ⟨Z, h⟩ := h
  exact ⟨Z, blk_below h k⟩
/-- The cache's row: what is not given away is zero. -/
def Cv (W : World) (vs : Value) (n : Nat) : Prop := (vs = .slice none 0 0 ∧ n = 0) ∨ ∃ B m Z, vs = .slice (some ⟨B, 0, none⟩) n m ∧ W.heap[B]? = some (.cells Z tV (0, 0)) ∧ Z.size = 5 * m ∧ n ≤ m ∧ m ≤ 9223372036854775807 ∧ ∀ j, n ≤ j → j < m → Z[5 * j]? = some (.slice none 0 0) ∧ Z[5 * j + 1]? = some (.bool false) ∧ Z[5 * j + 2]? = some (.slice none 0 0)
/-- A parser at work. -/
structure St (w0 : World) (A : Nat) (W : World) (pb vs : Value) (n : Nat) : Prop where
  par : W.heap[A]? = some (.cells #[pb, vs] tPar (0, 0))
  low : w0.heap.size ≤ A
  bel : Below w0.heap.size w0 W
  cv : Cv W vs n
  vlow : ∀ B n, vsOf vs = some (B, n) → w0.heap.size ≤ B
theorem St.lt {w0 W : World} {A n : Nat} {pb vs : Value} (h : St w0 A W pb vs n) : A < W.heap.size := blk_lt h.par
theorem St.len {w0 W : World} {A n : Nat} {pb vs : Value} (h : St w0 A W pb vs n) {B k : Nat} (hv : vsOf vs = some (B, k)) : k = n ∧ B ≠ A ∧ ∃ Z, W.heap[B]? = some (.cells Z tV (0, 0)) := by
  rcases h.cv with ⟨rfl, rfl⟩ | ⟨B0, m, Z, rfl, e, hz, hn, hm, hj⟩
  · cases hv
  · injection hv with hv; injection hv with h1 h2
    subst h1; subst h2
    exact ⟨rfl, blk_ne e h.par (by decide), Z, e⟩
theorem St.fr {w0 W : World} {A n : Nat} {pb vs : Value} (h : St w0 A W pb vs n) : Fr A W vs W vs :=
  ⟨Nat.le_refl _, fun _ _ _ _ => rfl, fun B k hv => by obtain ⟨_, hA, Z, e⟩ := h.len hv; exact ⟨hA, Z, Z, e, e, rfl, fun _ _ => rfl⟩, fun B k hv => .inr ⟨k, hv, Nat.le_refl _⟩⟩
theorem Cv.blk {W W1 : World} {vs : Value} {n : Nat} (h : Cv W vs n) (k : ∀ B n, vsOf vs = some (B, n) → W1.heap[B]? = W.heap[B]?) : Cv W1 vs n := by
  rcases h with h | ⟨B, m, Z, rfl, e, hz, hn, hm, hj⟩
  · exact .inl h
  · exact .inr ⟨B, m, Z, rfl, (k B n rfl).trans e, hz, hn, hm, hj⟩
theorem St.below {w0 W W1 : World} {A n : Nat} {pb vs : Value} (h : St w0 A W pb vs n) (k : Below W.heap.size W W1) : St w0 A W1 pb vs n :=
  ⟨blk_below h.par k, h.low, below_step h.bel k, h.cv.blk (fun B j hv => by obtain ⟨_, _, Z, e⟩ := h.len hv; exact k.block B (blk_lt e)), h.vlow⟩
theorem St.frb {w0 W W1 : World} {A n : Nat} {pb vs : Value} (h : St w0 A W pb vs n) (k : Below W.heap.size W W1) : Fr A W vs W1 vs :=
  ⟨k.size, fun i hi _ _ => k.block i hi, fun B j hv => by obtain ⟨_, hA, Z, e⟩ := h.len hv; exact ⟨hA, Z, Z, e, blk_below e k, rfl, fun _ _ => rfl⟩, fun B j hv => .inr ⟨j, hv, Nat.le_refl _⟩⟩
theorem St.set {w0 W : World} {A n b o : Nat} {pb vs : Value} (h : St w0 A W pb vs n) (hA : b ≠ A) (hl : w0.heap.size ≤ b) (ho : ∀ B k, vsOf vs = some (B, k) → b = B → o < 5 * k) (u : Value) : St w0 A (W.setCell ⟨b, o, none⟩ u) pb vs n := by
  refine ⟨blk_far h.par (fun e => hA e.symm) u, h.low, below_set h.bel hl, ?_, h.vlow⟩
  rcases h.cv with g | ⟨B, m, Z, rfl, e, hz, hn, hm, hj⟩
  · exact .inl g
  · refine .inr ?_
    by_cases hb : b = B
    · subst hb
      have := ho b n rfl rfl
      refine ⟨b, m, Z.setIfInBounds o u, rfl, blk_set e o u, by simp [hz], hn, hm, fun j h1 h2 => ?_⟩
      rw [Array.getElem?_setIfInBounds_ne (by omega), Array.getElem?_setIfInBounds_ne (by omega), Array.getElem?_setIfInBounds_ne (by omega)]
      exact hj j h1 h2
    · exact ⟨B, m, Z, rfl, blk_far e (fun e => hb e.symm) u, hz, hn, hm, hj⟩
theorem Fr.set {A : Nat} {W W1 : World} {vs vs1 : Value} {b o : Nat} (k : Fr A W vs W1 vs1) (hA : b ≠ A) (h : ¬ Old A W vs b o) (u : Value) : Fr A W vs (W1.setCell ⟨b, o, none⟩ u) vs1 := by
  have hs : (W1.setCell ⟨b, o, none⟩ u).heap.size = W1.heap.size := by simp [World.setCell]
  refine ⟨by rw [hs]; exact k.size, fun i hi h1 h2 => ?_, fun B n hv => ?_, k.vs⟩
  · rw [Below.heap_setCell _ _ _ _ ?_]
    · exact k.block i hi h1 h2
    · rintro rfl
      exact h ⟨hi, hA, fun B n hv e => absurd e (h2 B n hv)⟩
  · obtain ⟨h1, Z, Z', e0, e1, ez, e2⟩ := k.pre B n hv
    by_cases hb : b = B
    · subst hb
      refine ⟨h1, Z, Z'.setIfInBounds o u, e0, blk_set e1 o u, by simpa using ez, fun j hj => ?_⟩
      by_cases ho : o < 5 * n
      · exact absurd ⟨blk_lt e0, h1, fun B n' hv' e => by rw [e] at hv; rw [hv] at hv'; injection hv' with g; injection g with _ g; omega⟩ h
      · rw [Array.getElem?_setIfInBounds_ne (by omega)]; exact e2 j hj
    · exact ⟨h1, Z, Z', e0, blk_far e1 (fun e => hb e.symm) u, ez, e2⟩
theorem Fr.below {A : Nat} {W W1 W2 : World} {vs vs1 : Value} (k : Fr A W vs W1 vs1) (h : Below W1.heap.size W1 W2) : Fr A W vs W2 vs1 := by
  refine ⟨Nat.le_trans k.size h.size, fun i hi h1 h2 => ?_, fun B n hv => ?_, k.vs⟩
  · rw [h.block i (Nat.lt_of_lt_of_le hi k.size)]; exact k.block i hi h1 h2
  · obtain ⟨h1, Z, Z', e0, e1, ez, e2⟩ := k.pre B n hv
    exact ⟨h1, Z, Z', e0, blk_below e1 h, ez, e2⟩
theorem Old.set {A : Nat} {W : World} {vs : Value} {b o : Nat} (h : Old A W vs b o) (p : Addr) (u : Value) : Old A (W.setCell p u) vs b o := ⟨by simpa [World.setCell] using h.1, h.2⟩
theorem Old.below {A : Nat} {W W1 : World} {vs : Value} {b o : Nat} (h : Old A W vs b o) (k : Below W.heap.size W W1) : Old A W1 vs b o := ⟨Nat.lt_of_lt_of_le h.1 k.size, h.2⟩

/-- Blocks stay what they are. -/
def Tk (W W' : World) : Prop := ∀ (i : Nat) (Z : Array Value) (t : Nat), W.heap[i]? = some (Obj.cells Z t (0, 0)) → ∃ Z' : Array Value, W'.heap[i]? = some (Obj.cells Z' t (0, 0)) ∧ Z'.size = Z.size
theorem Tk.refl (W : World) : Tk W W := by intro i Z t h; exact ⟨Z, h, rfl⟩
theorem Tk.trans {a b c : World} (h : Tk a b) (k : Tk b c) : Tk a c := by
  intro i Z t e
  obtain ⟨Z1, e1, z1⟩ := h i Z t e
  obtain ⟨Z2, e2, z2⟩ := k i Z1 t e1
  exact ⟨Z2, e2, z2.trans z1⟩
theorem Tk.below {W W' : World} (k : Below W.heap.size W W') : Tk W W' := by intro i Z t h; exact ⟨Z, blk_below h k, rfl⟩
theorem Tk.set (W : World) (b o : Nat) (u : Value) : Tk W (W.setCell ⟨b, o, none⟩ u) := by
  intro i Z t h
  by_cases e : i = b
  · subst e; exact ⟨_, blk_set h o u, by simp⟩
  · exact ⟨Z, blk_far h e u, rfl⟩
theorem Tk.of_fr {w0 W W1 : World} {A n n1 : Nat} {pb vs vs1 : Value} (h : St w0 A W pb vs n) (f : Fr A W vs W1 vs1) (k : St w0 A W1 pb vs1 n1) : Tk W W1 := by
  intro i Z t e
  by_cases hA : i = A
  · subst hA
    rw [h.par] at e
    injection e with e; injection e with e1 e2 _
    subst e1; subst e2
    exact ⟨_, k.par, rfl⟩
  · by_cases hq : ∃ m, vsOf vs = some (i, m)
    · obtain ⟨m, hq⟩ := hq
      obtain ⟨_, Y, Y', e0, e1, ez, _⟩ := f.pre i m hq
      rw [e0] at e
      injection e with e; injection e with e2 e3 _
      subst e2; subst e3
      exact ⟨Y', e1, ez⟩
    · exact ⟨Z, by rw [f.block i (blk_lt e) hA (fun B m hv eb => hq ⟨m, by rw [hv, eb]⟩), e], rfl⟩

abbrev tKv : Nat := 126
abbrev tVp : Nat := 56
def slc (g n c : Nat) : Value := if n = 0 then .slice none 0 0 else .slice (some ⟨g, 0, none⟩) n c
def isV (W : World) (b o : Nat) : Prop := ty W b tV ∧ o % 5 = 0
mutual
/-- At ⟨b, o⟩ a tree stands, in cells of O. -/
def rep (W : World) (O : Nat → Nat → Prop) : T → Nat → Nat → Prop
  | .leaf k s, b, o => isV W b o ∧ (W.cell? ⟨b, o + 3, none⟩ = some (.string (strOfNums s)) ∧ O b (o + 3)) ∧ W.cell? ⟨b, o + 4, none⟩ = some (.int .i64 k) ∧ O b (o + 4)
  | .arr l, b, o => isV W b o ∧ (W.cell? ⟨b, o + 4, none⟩ = some (.int .i64 2) ∧ O b (o + 4)) ∧ ∃ g c, (W.cell? ⟨b, o + 2, none⟩ = some (slc g l.len c) ∧ O b (o + 2)) ∧ repL W O l g 0
  | .obj l, b, o => isV W b o ∧ (W.cell? ⟨b, o + 4, none⟩ = some (.int .i64 1) ∧ O b (o + 4)) ∧ (W.cell? ⟨b, o + 1, none⟩ = some (.bool false) ∧ O b (o + 1)) ∧ ∃ g c, (W.cell? ⟨b, o, none⟩ = some (slc g l.len c) ∧ O b o) ∧ repO W (fun x y => O x y ∧ ¬ (x = b ∧ o ≤ y ∧ y < o + 5)) l g 0
/-- From cell i on of the block g stand pointers to trees. -/
def repL (W : World) (O : Nat → Nat → Prop) : TL → Nat → Nat → Prop
  | .nil, _, _ => True
  | .cons t l, g, i => ty W g tVp ∧ ∃ (b o : Nat) (S : Nat → Nat → Prop), (W.cell? ⟨g, i, none⟩ = some (.pointer (some ⟨b, o, none⟩)) ∧ O g i) ∧ rep W (fun x y => O x y ∧ x ≠ g ∧ S x y) t b o ∧ repL W (fun x y => O x y ∧ (x = g ∨ ¬ S x y)) l g (i + 1)
def repO (W : World) (O : Nat → Nat → Prop) : OL → Nat → Nat → Prop
  | .nil, _, _ => True
  | .cons k t l, g, i => ty W g tKv ∧ (W.cell? ⟨g, 2 * i, none⟩ = some (.string (strOfNums k)) ∧ O g (2 * i)) ∧ ∃ (b o : Nat) (S : Nat → Nat → Prop), (W.cell? ⟨g, 2 * i + 1, none⟩ = some (.pointer (some ⟨b, o, none⟩)) ∧ O g (2 * i + 1)) ∧ rep W (fun x y => O x y ∧ x ≠ g ∧ S x y) t b o ∧ repO W (fun x y => O x y ∧ (x = g ∨ ¬ S x y)) l g (i + 1)
end
/-- One world's cells in another one. -/
def Keep (W : World) (O : Nat → Nat → Prop) (W' : World) (O' : Nat → Nat → Prop) : Prop := ∀ b o, O b o → O' b o ∧ W'.cell? ⟨b, o, none⟩ = W.cell? ⟨b, o, none⟩ ∧ ∀ t, ty W b t → ty W' b t
theorem Keep.at {W W' : World} {O O' : Nat → Nat → Prop} (h : Keep W O W' O') {b o : Nat} {v : Value} (k : W.cell? ⟨b, o, none⟩ = some v ∧ O b o) : W'.cell? ⟨b, o, none⟩ = some v ∧ O' b o := by
  obtain ⟨h1, h2, _⟩ := h b o k.2
  exact ⟨h2.trans k.1, h1⟩
theorem Keep.and {W W' : World} {O O' : Nat → Nat → Prop} (h : Keep W O W' O') (P : Nat → Nat → Prop) : Keep W (fun x y => O x y ∧ P x y) W' (fun x y => O' x y ∧ P x y) := fun b o q => ⟨⟨(h b o q.1).1, q.2⟩, (h b o q.1).2⟩
mutual
theorem rep_keep {W W' : World} {O O' : Nat → Nat → Prop} (h : Keep W O W' O') : ∀ (t : T) (b o : Nat), rep W O t b o → rep W' O' t b o
  | .leaf k s, b, o, r => by
    rw [rep] at r ⊢
    exact ⟨⟨(h b (o + 3) r.2.1.2).2.2 _ r.1.1, r.1.2⟩, h.at r.2.1, h.at r.2.2⟩
  | .arr l, b, o, r => by
    rw [rep] at r ⊢
    obtain ⟨r1, r2, g, c, r3, r4⟩ := r
    exact ⟨⟨(h b (o + 4) r2.2).2.2 _ r1.1, r1.2⟩, h.at r2, g, c, h.at r3, repL_keep h l g 0 r4⟩
  | .obj l, b, o, r => by
    rw [rep] at r ⊢
    obtain ⟨r1, r2, r3, g, c, r4, r5⟩ := r
    exact ⟨⟨(h b (o + 4) r2.2).2.2 _ r1.1, r1.2⟩, h.at r2, h.at r3, g, c, h.at r4, repO_keep (h.and _) l g 0 r5⟩
theorem repL_keep {W W' : World} {O O' : Nat → Nat → Prop} (h : Keep W O W' O') : ∀ (l : TL) (g i : Nat), repL W O l g i → repL W' O' l g i
  | .nil, g, i, r => by rw [repL]; trivial
  | .cons t l, g, i, r => by
    rw [repL] at r ⊢
    obtain ⟨r0, b, o, S, r1, r2, r3⟩ := r
    exact ⟨(h g i r1.2).2.2 _ r0, b, o, S, h.at r1, rep_keep (h.and _) t b o r2, repL_keep (h.and _) l g (i + 1) r3⟩
theorem repO_keep {W W' : World} {O O' : Nat → Nat → Prop} (h : Keep W O W' O') : ∀ (l : OL) (g i : Nat), repO W O l g i → repO W' O' l g i
  | .nil, g, i, r => by rw [repO]; trivial
  | .cons k t l, g, i, r => by
    rw [repO] at r ⊢
    obtain ⟨r0, r1, b, o, S, r2, r3, r4⟩ := r
    exact ⟨(h g (2 * i) r1.2).2.2 _ r0, h.at r1, b, o, S, h.at r2, rep_keep (h.and _) t b o r3, repO_keep (h.and _) l g (i + 1) r4⟩
end
theorem Keep.drop (W : World) (O P : Nat → Nat → Prop) : Keep W (fun x y => O x y ∧ P x y) W O := fun b o q => ⟨q.1, rfl, fun _ h => h⟩
theorem Fr.keep {A : Nat} {W W1 : World} {vs vs1 : Value} (k : Fr A W vs W1 vs1) (P : Nat → Nat → Prop) : Keep W (fun b o => Old A W vs b o ∧ P b o) W1 (fun b o => Old A W1 vs1 b o ∧ P b o) := fun b o h =>
  ⟨⟨h.1.fr k, h.2⟩, k.cell h.1, fun t ht => k.ty h.1.2.1 ht⟩
end Go.Proofs.YtcaigeikdnoheaaGreatDoor.Fp

set_option linter.unusedVariables false
set_option linter.unusedSimpArgs false
namespace Go.Proofs.YtcaigeikdnoheaaGreatDoor.Fp
open Go.RowKit Go.Proofs.YtcaigeikdnoheaaGreatDoorW.PrintWords Go.Proofs.YtcaigeikdnoheaaGreatDoorW.PrintLast Go.Proofs.YtcaigeikdnoheaaGreatDoorW.PrintMore Go.Proofs.YtcaigeikdnoheaaGreatDoor.Aid Go.Proofs.YtcaigeikdnoheaaGreatDoor.J

theorem zeroCells_at (z : Array Value) (n i : Nat) (h : i < n * z.size) : (Builtin.zeroCells z n)[i]? = z[i % z.size]? := by
  have hp : 0 < z.size := by
    rcases Nat.eq_zero_or_pos z.size with e | e
    · rw [e] at h; omega
    · exact e
  have hm := Nat.mod_lt i hp
  unfold Builtin.zeroCells
  rw [Array.getElem?_map, Array.getElem?_range, if_pos h, Option.map_some, Array.getElem?_eq_getElem hm, getElem!_pos z (i % z.size) hm]
section
variable {ops : Array Oper} {rest : List Oper} {o : Oper} {a : Act} {Q : Exit → Act → World → Prop}
/-- append(s, x), no room. -/
theorem row_grow {W : World} (hgd : o.guard = none) (s x : Operand) (ts e : TypeId) (z : Value) (sz by_ : Nat) (ho : o.op = .call { callee := .builtin .append, args := #[s, x], argTypes := #[ts, ts] })
    (hu : Tryz.prog.underlying ts = some (.slice e)) (hinfo : (Tryz.prog.info? e).map (fun i => (i.zero, i.size, i.bytes)) = some (some z, sz, by_)) (base : Option Addr) (n c : Nat) (olds : List Value) (hol : olds.length = n * sz)
    (hold : ∀ ad, base = some ad → ∀ j u, olds[j]? = some u → W.cell? (ad.add j) = some u) (hnone : base = none → n = 0) (g cx : Nat) (Zl : List Value) (hz : Zl.length = sz)
    (hone : ∀ q ∈ Zl, q.oneCell' = true) (hs : a.eval s = .slice base n c) (hx : a.eval x = .slice (some ⟨g, 0, none⟩) 1 cx) (hlit : ∀ j u, Zl[j]? = some u → W.cell? ⟨g, j, none⟩ = some u)
    (hg : c < n + 1) (hfit : (n + 1) * by_ ≤ 140737488355328) (hn : n + 1 ≤ 9223372036854775807)
    (h : ∀ B cap w1, B = W.heap.size → n + 1 ≤ cap → cap ≤ 9223372036854775807 → w1.heap[B]? = some (.cells ((olds ++ Zl).toArray ++ Builtin.zeroCells z.cells (cap - (n + 1))) e (0, 0)) → Below W.heap.size W w1 → wpList Tryz.prog ops Q rest (a.put o.dst (.slice (some ⟨B, 0, none⟩) (n + 1) cap)) w1) : wpList Tryz.prog ops Q (o :: rest) a W := by
  obtain ⟨i, hi, hz0, hz1, hz2⟩ := info_parts hinfo
  have hsrc : Src Tryz.prog i.size ts (.slice (some ⟨g, 0, none⟩) 1 cx) 1 Zl W := by
    rw [hz1]
    exact Src.ofSlice _ hu _ 1 cx _ (by rw [hz, Nat.one_mul]) (fun j u hj => by rw [add_plain]; exact hlit j u hj) hone
  have hfc : (Builtin.firstCells i.size n (.slice base n c)).run Tryz.prog W.drew = .ok olds.toArray W.drew := by
    cases base with
    | none =>
      have := hnone rfl
      subst this
      have : olds = [] := List.eq_nil_of_length_eq_zero (by omega)
      rw [this]
      exact run_firstCells_none W.drew i.size 0 0 c
    | some ad =>
      rw [hz1]
      exact run_firstCells_some W.drew sz n ad n c olds hol (fun j u hj => by have := hold ad rfl j u hj; simpa using this)
  have hrun := run_append_grow_src (P := Tryz.prog) W ts ts o.type e i z hu hi hz0 base n c olds hfc (.slice (some ⟨g, 0, none⟩) 1 cx) 1 Zl hsrc (by omega) (by omega) (growslice_fits (by omega) (by rw [hz2]; exact hfit))
  refine wpList_plain hgd fun K hK => ?_
  unfold Oper.wp execOp
  simp only [ho, resolve, invoke, builtin, Sem.run_bind, Sem.run_pure, Result.andThen_ok, List.map_toArray, List.map_cons, List.map_nil, hs, hx, hrun]
  have hge := grownCap_ge W (n + 1) c e
  have hle : grownCap W (n + 1) c e ≤ 9223372036854775807 := by
    have := grownCap_le_maxLen W (n + 1) c e (by simp only [maxLen]; omega)
    simpa [maxLen] using this
  exact hK _ _ (h W.heap.size _ _ rfl hge hle (heap_alloc_new W.drew _) ((below_drew (Below.refl _ _)).alloc (Nat.le_refl _) _))
/-- append(s, x) of one cell, room. -/
theorem row_room {W : World} (hgd : o.guard = none) (s x : Operand) (ts e : TypeId) (z : Value) (by_ : Nat) (ho : o.op = .call { callee := .builtin .append, args := #[s, x], argTypes := #[ts, ts] })
    (hu : Tryz.prog.underlying ts = some (.slice e)) (hinfo : (Tryz.prog.info? e).map (fun i => (i.zero, i.size, i.bytes)) = some (some z, 1, by_)) (G n c : Nat) (Z : Array Value) (hZ : W.heap[G]? = some (.cells Z e (0, 0))) (hzs : Z.size = c) (g cx : Nat) (u : Value)
    (hone : u.oneCell' = true) (hs : a.eval s = .slice (some ⟨G, 0, none⟩) n c) (hx : a.eval x = .slice (some ⟨g, 0, none⟩) 1 cx) (hlit : W.cell? ⟨g, 0, none⟩ = some u) (hg : n + 1 ≤ c)
    (h : wpList Tryz.prog ops Q rest (a.put o.dst (.slice (some ⟨G, 0, none⟩) (n + 1) c)) (W.setCell ⟨G, n, none⟩ u)) : wpList Tryz.prog ops Q (o :: rest) a W := by
  obtain ⟨i, hi, hz0, hz1, hz2⟩ := info_parts hinfo
  have hsrc : Src Tryz.prog i.size ts (.slice (some ⟨g, 0, none⟩) 1 cx) 1 [u] W := by
    rw [hz1]
    refine Src.ofSlice _ hu _ 1 cx _ rfl (fun j v hj => ?_) (fun q hq => by rw [List.mem_singleton] at hq; rw [hq]; exact hone)
    cases j with
    | zero =>
      simp only [List.getElem?_cons_zero] at hj
      obtain rfl := Option.some.inj hj
      rw [add_plain]; exact hlit
    | succ j => simp at hj
  have hrun := run_append_room_src (P := Tryz.prog) W ts ts o.type e i hu hi G 0 n c (.slice (some ⟨g, 0, none⟩) 1 cx) 1 [u] hsrc hg
    (fun j hj => by
      obtain rfl : j = 0 := by simpa using hj
      rw [hz1, Nat.mul_one, Nat.zero_add, Nat.add_zero, blk_cell hZ, Array.getElem?_eq_getElem (by omega)]; rfl) (fun j hj => by rw [hz1, Nat.mul_one, Nat.zero_add]; exact blk_frozen hZ _)
  rw [hz1, Nat.mul_one, Nat.zero_add] at hrun
  refine wpList_plain hgd fun K hK => ?_
  unfold Oper.wp execOp
  simp only [ho, resolve, invoke, builtin, Sem.run_bind, Sem.run_pure, Result.andThen_ok, List.map_toArray, List.map_cons, List.map_nil, hs, hx, hrun]
  exact hK _ _ h
end
end Go.Proofs.YtcaigeikdnoheaaGreatDoor.Fp

set_option linter.unusedVariables false
set_option linter.unusedSimpArgs false
namespace Go.Proofs.YtcaigeikdnoheaaGreatDoor.Fp
open Go.RowKit Go.Proofs.YtcaigeikdnoheaaGreatDoorW.PrintWords Go.Proofs.YtcaigeikdnoheaaGreatDoorW.PrintLast Go.Proofs.YtcaigeikdnoheaaGreatDoorW.PrintMore Go.Proofs.YtcaigeikdnoheaaGreatDoor.Aid Go.Proofs.YtcaigeikdnoheaaGreatDoor.J

abbrev tVs : Nat := 51
def zV : Value := .agg #[.slice none 0 0, .bool false, .slice none 0 0, .string ByteArray.empty, .int .i64 0]
theorem infoV : (Tryz.prog.info? tV).map (fun i => (i.zero, i.size, i.bytes)) = some (some zV, 5, 80) := by kernel_rfl
theorem one5 : ∀ q ∈ [Value.slice none 0 0, .bool false, .slice none 0 0, .string ⟨#[]⟩, .int .i64 0], q.oneCell' = true := by
  intro q hq
  simp only [List.mem_cons, List.not_mem_nil, or_false] at hq
  rcases hq with rfl | rfl | rfl | rfl | rfl <;> rfl
/-- One value more is given away: the one at ⟨B, o⟩. -/
structure Gv (w0 : World) (A : Nat) (W : World) (pb vs : Value) (n : Nat) (W' : World) (vs' : Value) (B o : Nat) : Prop where
  st : St w0 A W' pb vs' (n + 1)
  fr : Fr A W vs W' vs'
  at_ : vsOf vs' = some (B, n + 1)
  c0 : W'.cell? ⟨B, o, none⟩ = some (.slice none 0 0)
  c1 : W'.cell? ⟨B, o + 1, none⟩ = some (.bool false)
  c2 : W'.cell? ⟨B, o + 2, none⟩ = some (.slice none 0 0)
  ex : ∃ Z, W'.heap[B]? = some (.cells Z tV (0, 0)) ∧ o + 5 ≤ Z.size
theorem Gv.below {w0 W W' W2 : World} {A n B o : Nat} {pb vs vs' : Value} (h : Gv w0 A W pb vs n W' vs' B o) (k : Below W'.heap.size W' W2) : Gv w0 A W pb vs n W2 vs' B o := by
  obtain ⟨Z, e, hz⟩ := h.ex
  have hl := blk_lt e
  exact ⟨h.st.below k, h.fr.below k, h.at_, (k.cell (p := ⟨B, _, none⟩) hl).trans h.c0, (k.cell (p := ⟨B, _, none⟩) hl).trans h.c1, (k.cell (p := ⟨B, _, none⟩) hl).trans h.c2, Z, blk_below e k, hz⟩
theorem Fr.trans' {w0 W W3 W4 W5 : World} {A n B o : Nat} {pb vs vs3 vs' : Value} (h : Fr A W vs W3 vs3) (g : Gv w0 A W3 pb vs3 n W4 vs' B o) (k : Below W4.heap.size W4 W5) : Gv w0 A W pb vs n W5 vs' B o := by
  have g' := g.below k
  exact ⟨g'.st, h.trans g'.fr, g'.at_, g'.c0, g'.c1, g'.c2, g'.ex⟩
def GvPost (w0 : World) (A : Nat) (W : World) (pb vs : Value) (n : Nat) (e : Ending) (w' : World) : Prop := ∃ B vs' o, e = .returned (.pointer (some ⟨B, o, none⟩)) ∧ o = 5 * n ∧ Gv w0 A W pb vs n w' vs' B o
/-- The cache's cell is written: the row is as it was, longer by one. -/
theorem gv_room {w0 W : World} {A n B m : Nat} {pb : Value} (h : St w0 A W pb (.slice (some ⟨B, 0, none⟩) n m) n) (hm : n < m) : Gv w0 A W pb (.slice (some ⟨B, 0, none⟩) n m) n (W.setCell ⟨A, 1, none⟩ (.slice (some ⟨B, 0, none⟩) (n + 1) m)) (.slice (some ⟨B, 0, none⟩) (n + 1) m) B (5 * n) := by
  rcases h.cv with ⟨h0, _⟩ | ⟨B0, m0, Z, e0, e, hz, hn, hmm, hj⟩
  · cases h0
  injection e0 with e0 _ e1
  injection e0 with e0; injection e0 with e0
  subst e0; subst e1
  have hBA : B ≠ A := blk_ne e h.par (by decide)
  have e' := blk_far e (p := ⟨A, 1, none⟩) hBA (.slice (some ⟨B, 0, none⟩) (n + 1) m)
  obtain ⟨j0, j1, j2⟩ := hj n (Nat.le_refl _) hm
  refine ⟨⟨blk_set h.par 1 _, h.low, below_set h.bel h.low, .inr ⟨B, m, Z, rfl, e', hz, by omega, hmm, fun j h1 h2 => hj j (by omega) h2⟩, fun B' k hv => ?_⟩, ⟨by simp [World.setCell], fun i hi h1 h2 => Below.heap_setCell _ _ _ _ h1, fun B' k hv => ?_, fun B' k hv => ?_⟩, rfl, ?_, ?_, ?_, Z, e', by omega⟩
  · injection hv with hv; injection hv with hv _
    exact h.vlow B' n (by rw [← hv]; rfl)
  · injection hv with hv; injection hv with hv hk
    subst hv; subst hk
    exact ⟨hBA, Z, Z, e, e', rfl, fun _ _ => rfl⟩
  · injection hv with hv; injection hv with hv hk
    subst hv; subst hk
    exact .inr ⟨n, rfl, by omega⟩
  · rw [blk_cell e', j0]
  · rw [blk_cell e', j1]
  · rw [blk_cell e', j2]
set_option maxHeartbeats 4000000 in
set_option maxRecDepth 100000 in
theorem gvroom_any (w0 W : World) (A n B m : Nat) (pb : Value) (h : St w0 A W pb (.slice (some ⟨B, 0, none⟩) n m) n) (hm : n < m) (hn : n ≤ 100000) :
    Calls Tryz.prog 81 #[.pointer (some ⟨A, 1, none⟩)] W (GvPost w0 A W pb (.slice (some ⟨B, 0, none⟩) n m) n) := by
  have hmm : (m : Int) ≤ 9223372036854775807 := by
    rcases h.cv with ⟨h0, _⟩ | ⟨B0, m0, Z, e0, e, hz, hn, hmm, hj⟩
    · cases h0
    · injection e0 with _ _ e1; omega
  have c1 : W.cell? ⟨A, 1, none⟩ = some (.slice (some ⟨B, 0, none⟩) n m) := (blk_cell h.par 1).trans rfl
  have f1 : W.frozen? ⟨A, 1, none⟩ = false := blk_frozen h.par 1
  have d1 : decide ((n : Int) < (m : Int)) = true := decide_eq_true (by omega)
  have H := Lib.hid h
  have hm' : (n : Int) + 1 ≤ (m : Int) := by omega
  have Hm := Lib.hid hm
  clear h hm
  go_enter Tryz.func81, Tryz.ntmps81
  go_upto_region 1 with (fail)
  go_quiet (fail)
  go_upto_region 2 with (fail)
  obtain ⟨W2, hW2⟩ : ∃ z, z = W.drewN nq := ⟨_, rfl⟩
  rw [← hW2]
  have H2 := Lib.hid (show St w0 A W2 pb (.slice (some ⟨B, 0, none⟩) n m) n by rw [hW2]; exact H.out.below (pw_below_drewN (Below.refl _ _) nq))
  have HF := Lib.hid (show Fr A W (.slice (some ⟨B, 0, none⟩) n m) W2 (.slice (some ⟨B, 0, none⟩) n m) by rw [hW2]; exact H.out.frb (pw_below_drewN (Below.refl _ _) nq))
  clear hW2 c1 f1
  have c1 : W2.cell? ⟨A, 1, none⟩ = some (.slice (some ⟨B, 0, none⟩) n m) := (blk_cell H2.out.par 1).trans rfl
  have f1 : W2.frozen? ⟨A, 1, none⟩ = false := blk_frozen H2.out.par 1
  have hwr : IntKind.i64.wrap ((n : Int) + 1) = (n : Int) + 1 := IntWalk.i64_in _ (by omega)
  have hp0 : (0 : Int) ≤ (n : Int) + 1 := by omega
  have hpn : ((n : Int) + 1).toNat = n + 1 := by omega
  go_still_tail 14, (by kernel_rfl)
  clear hwr hp0 hpn c1 f1
  change wpList _ _ _ _ _ W2.drew
  obtain ⟨W3, hW3⟩ : ∃ z, z = W2.drew := ⟨_, rfl⟩
  rw [← hW3]
  have H3 := Lib.hid (show St w0 A W3 pb (.slice (some ⟨B, 0, none⟩) n m) n by rw [hW3]; exact H2.out.below (below_drew (Below.refl _ _)))
  have HF3 := Lib.hid (show Fr A W (.slice (some ⟨B, 0, none⟩) n m) W3 (.slice (some ⟨B, 0, none⟩) n m) by rw [hW3]; exact HF.out.trans (H2.out.frb (below_drew (Below.refl _ _))))
  clear hW3
  have c1 : W3.cell? ⟨A, 1, none⟩ = some (.slice (some ⟨B, 0, none⟩) n m) := (blk_cell H3.out.par 1).trans rfl
  have f1 : W3.frozen? ⟨A, 1, none⟩ = false := blk_frozen H3.out.par 1
  go_wp2
  clear c1 f1
  have HG := Lib.hid (show Gv w0 A W3 pb _ n _ _ B (n * 5) by rw [Nat.mul_comm n 5]; exact gv_room H3.out Hm.out)
  generalize World.setCell W3 _ _ = W4 at HG ⊢
  have c1 : W4.cell? ⟨A, 1, none⟩ = some (.slice (some ⟨B, 0, none⟩) (n + 1) m) := (blk_cell HG.out.st.par 1).trans rfl
  have hwr : IntKind.i64.wrap ((n : Int) + 1 - 1) = (n : Int) := by rw [show (n : Int) + 1 - 1 = n by omega]; exact IntWalk.i64_in _ (by omega)
  have hpn : ((n : Int)).toNat = n := by omega
  go_quiet (fail)
  go_wp2
  go_ret
  exact ⟨B, _, _, rfl, by omega, HF3.out.trans' HG.out (pw_below_drewN (Below.refl _ _) _)⟩
/-- A new row of values: the old ones, one more, zeros. -/
theorem gv_grow {w0 W W1 : World} {A n B cap : Nat} {pb : Value} {base : Option Addr} {olds : List Value} (h : St w0 A W pb (.slice base n n) n) (hol : olds.length = n * 5) (hB : B = W1.heap.size) {W2 : World} (b1 : Below W.heap.size W W1) (b2 : Below W1.heap.size W1 W2) (hc : n + 1 ≤ cap) (hm : cap ≤ 9223372036854775807)
    (he : W2.heap[B]? = some (.cells ((olds ++ [Value.slice none 0 0, .bool false, .slice none 0 0, .string ⟨#[]⟩, .int .i64 0]).toArray ++ Builtin.zeroCells zV.cells (cap - (n + 1))) tV (0, 0))) :
    Gv w0 A W pb (.slice base n n) n (W2.setCell ⟨A, 1, none⟩ (.slice (some ⟨B, 0, none⟩) (n + 1) cap)) (.slice (some ⟨B, 0, none⟩) (n + 1) cap) B (n * 5) := by
  have h1 := h.below b1
  have h2 := h1.below b2
  have hlt := h1.lt
  have hBA : B ≠ A := by omega
  have hBW : W.heap.size ≤ B := by rw [hB]; exact b1.size
  have e' := blk_far he (p := ⟨A, 1, none⟩) hBA (.slice (some ⟨B, 0, none⟩) (n + 1) cap)
  have hsz : ((olds ++ [Value.slice none 0 0, .bool false, .slice none 0 0, .string ⟨#[]⟩, .int .i64 0]).toArray ++ Builtin.zeroCells zV.cells (cap - (n + 1))).size = 5 * cap := by
    rw [Array.size_append, size_zeroCells]
    simp only [List.size_toArray, List.length_append, hol, List.length_cons, List.length_nil]
    show _ + _ * 5 = _
    omega
  have hnew : ∀ i (hi : i < 5), ((olds ++ [Value.slice none 0 0, .bool false, .slice none 0 0, .string ⟨#[]⟩, .int .i64 0]).toArray ++ Builtin.zeroCells zV.cells (cap - (n + 1)))[n * 5 + i]? = [Value.slice none 0 0, .bool false, .slice none 0 0, .string ⟨#[]⟩, .int .i64 0][i]? := fun i hi => by
    rw [Array.getElem?_append_left (by simp [hol]; omega), List.getElem?_toArray, List.getElem?_append_right (by omega), hol, Nat.add_sub_cancel_left]
  have hz : ∀ j i, n + 1 ≤ j → j < cap → i < 5 → ((olds ++ [Value.slice none 0 0, .bool false, .slice none 0 0, .string ⟨#[]⟩, .int .i64 0]).toArray ++ Builtin.zeroCells zV.cells (cap - (n + 1)))[5 * j + i]? = zV.cells[i]? := fun j i g1 g2 g3 => by
    have hs : (olds ++ [Value.slice none 0 0, .bool false, .slice none 0 0, .string ⟨#[]⟩, .int .i64 0]).toArray.size = (n + 1) * 5 := by simp [hol]; omega
    have hc5 : zV.cells.size = 5 := rfl
    rw [Array.getElem?_append_right (by omega), hs, zeroCells_at _ _ _ (by rw [hc5]; omega), hc5]
    congr 1
    omega
  refine ⟨⟨blk_set h2.par 1 _, h.low, below_set h2.bel h.low, .inr ⟨B, cap, _, rfl, e', hsz, by omega, hm, fun j g1 g2 => ⟨hz j 0 g1 g2 (by omega), hz j 1 g1 g2 (by omega), hz j 2 g1 g2 (by omega)⟩⟩, fun B' k hv => ?_⟩, ⟨?_, fun i hi g1 g2 => ?_, fun B' k hv => ?_, fun B' k hv => ?_⟩, rfl, ?_, ?_, ?_, _, e', by rw [hsz]; omega⟩
  · injection hv with hv; injection hv with hv _
    subst hv
    exact Nat.le_trans h.bel.size hBW
  · have := b1.size
    have := b2.size
    simp only [World.setCell, Array.size_modify]; omega
  · rw [Below.heap_setCell _ _ _ _ g1, b2.block i (by have := b1.size; omega), b1.block i hi]
  · obtain ⟨_, gA, Z, e⟩ := h.len hv
    exact ⟨gA, Z, Z, e, blk_far (blk_below (blk_below e b1) b2) gA _, rfl, fun _ _ => rfl⟩
  · injection hv with hv; injection hv with hv _
    subst hv
    exact .inl hBW
  · rw [blk_cell e']; exact hnew 0 (by omega)
  · rw [blk_cell e']; exact hnew 1 (by omega)
  · rw [blk_cell e']; exact hnew 2 (by omega)
abbrev litV : Obj := .cells #[.slice none 0 0, .bool false, .slice none 0 0, .string ⟨#[]⟩, .int .i64 0] tV
theorem litV_at (W : World) (j : Nat) (u : Value) (hj : [Value.slice none 0 0, .bool false, .slice none 0 0, .string ⟨#[]⟩, .int .i64 0][j]? = some u) : (W.alloc litV).cell? ⟨W.heap.size, j, none⟩ = some u := (blk_cell (blk_new W litV) j).trans (by simpa using hj)
theorem olds_of {w0 W : World} {A n : Nat} {pb : Value} {base : Option Addr} (h : St w0 A W pb (.slice base n n) n) : ∃ olds : List Value, olds.length = n * 5 ∧ (∀ W', Below W.heap.size W W' → ∀ ad, base = some ad → ∀ j u, olds[j]? = some u → W'.cell? (ad.add j) = some u) ∧ (base = none → n = 0) := by
  rcases h.cv with ⟨e, rfl⟩ | ⟨B, m, Z, e, he, hz, hn, hm, hj⟩
  · injection e with e
    subst e
    exact ⟨[], rfl, ⟨fun _ _ ad h => (by cases h), fun _ => rfl⟩⟩
  · injection e with e _ e2
    subst e; subst e2
    refine ⟨Z.toList, by rw [Array.length_toList, hz]; omega, fun W' b ad h j u hu => ?_, fun h => by cases h⟩
    injection h with h
    subst h
    rw [add_plain, blk_cell (blk_below he b), ← Array.getElem?_toList]
    exact hu
section
variable {ops : Array Oper} {rest : List Oper} {o : Oper} {a : Act} {Q : Exit → Act → World → Prop}
/-- append(vs, Value), no room. -/
theorem val_grow {w0 W0 W : World} {A n : Nat} {pb : Value} {base : Option Addr} (hgd : o.guard = none) (s x : Operand) (ho : o.op = .call { callee := .builtin .append, args := #[s, x], argTypes := #[tVs, tVs] }) (hs : a.eval s = .slice base n n) (hx : a.eval x = .slice (some ⟨W.heap.size, 0, none⟩) 1 1) (H : St w0 A W0 pb (.slice base n n) n) (HB : Below W0.heap.size W0 W) (hn : n ≤ 100000)
    (h : ∀ B cap w1, Gv w0 A W0 pb (.slice base n n) n (w1.setCell ⟨A, 1, none⟩ (.slice (some ⟨B, 0, none⟩) (n + 1) cap)) (.slice (some ⟨B, 0, none⟩) (n + 1) cap) B (n * 5) → (cap : Int) ≤ 9223372036854775807 → Below W.heap.size W w1 → wpList Tryz.prog ops Q rest (a.put o.dst (.slice (some ⟨B, 0, none⟩) (n + 1) cap)) w1) : wpList Tryz.prog ops Q (o :: rest) a (W.alloc (.cells #[.slice none 0 0, .bool false, .slice none 0 0, .string ⟨#[]⟩, .int .i64 0] tV)) := by
  obtain ⟨olds, hol, hold, hnone⟩ := olds_of H
  refine row_grow hgd s x tVs tV zV 5 80 ho Tryz.underlying51 infoV base n n olds hol (hold _ (below_alloc HB litV)) hnone W.heap.size 1 [.slice none 0 0, .bool false, .slice none 0 0, .string ⟨#[]⟩, .int .i64 0] rfl one5 hs hx (litV_at W) (by omega) (by omega) (by omega) ?_
  intro B cap w1 hB hc hm he hb
  exact h B cap w1 (gv_grow H hol hB (below_alloc HB litV) hb hc hm he) (by omega) (Below.trans (below_alloc (Below.refl _ _) litV) (hb.mono (by simp)))
end
set_option maxHeartbeats 4000000 in
set_option maxRecDepth 100000 in
theorem gvgrow_any (w0 W : World) (A n : Nat) (pb : Value) (base : Option Addr) (h : St w0 A W pb (.slice base n n) n) (hn : n ≤ 100000) :
    Calls Tryz.prog 81 #[.pointer (some ⟨A, 1, none⟩)] W (GvPost w0 A W pb (.slice base n n) n) := by
  have c1 : W.cell? ⟨A, 1, none⟩ = some (.slice base n n) := (blk_cell h.par 1).trans rfl
  have f1 : W.frozen? ⟨A, 1, none⟩ = false := blk_frozen h.par 1
  have d1 : decide ((n : Int) < (n : Int)) = false := decide_eq_false (by omega)
  have H := Lib.hid h
  clear h
  go_enter Tryz.func81, Tryz.ntmps81
  go_upto_region 1 with (fail)
  go_quiet (fail)
  go_upto_region 3 with (fail)
  obtain ⟨W2, hW2⟩ : ∃ z, z = W.drewN nq := ⟨_, rfl⟩
  rw [← hW2]
  have HB := Lib.hid (show Below W.heap.size W W2 by rw [hW2]; exact pw_below_drewN (Below.refl _ _) nq)
  have H2 := Lib.hid (H.out.below HB.out)
  clear hW2 c1 f1
  have c1 : W2.cell? ⟨A, 1, none⟩ = some (.slice base n n) := (blk_cell H2.out.par 1).trans rfl
  have f1 : W2.frozen? ⟨A, 1, none⟩ = false := blk_frozen H2.out.par 1
  go_upto_region 4 with (at_builtin; refine val_grow rfl (.tmp 32) (.tmp 34) rfl rfl (by simp [go_sem]) H.out HB.out hn ?_; intro B cap w1 hg hm hb; have HG := Lib.hid hg; have HS := Lib.hid (H2.out.below hb); have d1 : w1.cell? ⟨A, 1, none⟩ = some (.slice base n n) := (blk_cell HS.out.par 1).trans rfl; have g1 : w1.frozen? ⟨A, 1, none⟩ = false := blk_frozen HS.out.par 1; clear hg hb c1 f1)
  clear d1 g1
  generalize World.setCell w1 _ _ = W4 at HG ⊢
  have c1 : W4.cell? ⟨A, 1, none⟩ = some (.slice (some ⟨B, 0, none⟩) (n + 1) cap) := (blk_cell HG.out.st.par 1).trans rfl
  have hwr : IntKind.i64.wrap ((n : Int) + 1 - 1) = (n : Int) := by rw [show (n : Int) + 1 - 1 = n by omega]; exact IntWalk.i64_in _ (by omega)
  have hpn : ((n : Int)).toNat = n := by omega
  go_quiet (fail)
  go_wp2
  go_ret
  exact ⟨B, _, _, rfl, by omega, HG.out.below (pw_below_drewN (Below.refl _ _) _)⟩
/-- getValue. -/
theorem gv_any {w0 W : World} {A n : Nat} {pb vs : Value} (h : St w0 A W pb vs n) (hn : n ≤ 100000) :
    Calls Tryz.prog 81 #[.pointer (some ⟨A, 1, none⟩)] W (GvPost w0 A W pb vs n) := by
  rcases h.cv with ⟨e, rfl⟩ | ⟨B, m, Z, e, he, hz, hnm, hm, hj⟩
  · subst e
    exact gvgrow_any w0 W A 0 pb none h hn
  · subst e
    rcases Nat.lt_or_ge n m with g | g
    · exact gvroom_any w0 W A n B m pb h g hn
    · obtain rfl : n = m := by omega
      exact gvgrow_any w0 W A n pb _ h hn
end Go.Proofs.YtcaigeikdnoheaaGreatDoor.Fp

set_option linter.unusedVariables false
set_option linter.unusedSimpArgs false
namespace Go.Proofs.YtcaigeikdnoheaaGreatDoor.Fp
open Go.RowKit Go.Proofs.YtcaigeikdnoheaaGreatDoorW.PrintWords Go.Proofs.YtcaigeikdnoheaaGreatDoorW.PrintLast Go.Proofs.YtcaigeikdnoheaaGreatDoorW.PrintMore Go.Proofs.YtcaigeikdnoheaaGreatDoor.Aid Go.Proofs.YtcaigeikdnoheaaGreatDoor.J

abbrev tKvs : Nat := 83
def zKv : Value := .agg #[.string ByteArray.empty, .pointer none]
theorem infoKv : (Tryz.prog.info? tKv).map (fun i => (i.zero, i.size, i.bytes)) = some (some zKv, 2, 24) := by kernel_rfl
theorem one2 : ∀ q ∈ [Value.string ⟨#[]⟩, .pointer none], q.oneCell' = true := by
  intro q hq
  simp only [List.mem_cons, List.not_mem_nil, or_false] at hq
  rcases hq with rfl | rfl <;> rfl
/-- A row of members: v has n of them, in the cells ks. -/
def Kv (W : World) (v : Value) (n : Nat) (ks : List Value) : Prop := ks.length = n * 2 ∧ ((v = .slice none 0 0 ∧ n = 0) ∨ ∃ g m Z, v = .slice (some ⟨g, 0, none⟩) n m ∧ W.heap[g]? = some (.cells Z tKv (0, 0)) ∧ Z.size = m * 2 ∧ n ≤ m ∧ m ≤ 9223372036854775807 ∧ Z.toList.take (n * 2) = ks)
theorem Kv.below {W W1 : World} {v : Value} {n : Nat} {ks : List Value} (h : Kv W v n ks) (k : Below W.heap.size W W1) : Kv W1 v n ks := by
  obtain ⟨hl, h | ⟨g, m, Z, e, he, h1, h2, h3, h4⟩⟩ := h
  · exact ⟨hl, .inl h⟩
  · exact ⟨hl, .inr ⟨g, m, Z, e, blk_below he k, h1, h2, h3, h4⟩⟩
abbrev litKv : Obj := .cells #[.string ⟨#[]⟩, .pointer none] tKv
theorem litKv_at (W : World) (j : Nat) (u : Value) (hj : [Value.string ⟨#[]⟩, .pointer none][j]? = some u) : (W.alloc litKv).cell? ⟨W.heap.size, j, none⟩ = some u := (blk_cell (blk_new W litKv) j).trans (by simpa using hj)
/-- One member more: at ⟨g, 2 n⟩; the object's cell is written. -/
def KvPost (W : World) (b o n : Nat) (v : Value) (ks : List Value) (e : Ending) (w' : World) : Prop := ∃ g o' m v' Z W1, e = .returned (.pointer (some ⟨g, o', none⟩)) ∧ o' = n * 2 ∧ v' = .slice (some ⟨g, 0, none⟩) (n + 1) m ∧ Below W.heap.size W W1 ∧ Below W1.heap.size (W1.setCell ⟨b, o, none⟩ v') w' ∧ W1.heap[g]? = some (.cells Z tKv (0, 0)) ∧ Z.size = m * 2 ∧ n + 1 ≤ m ∧ m ≤ 9223372036854775807 ∧ Z.toList.take (n * 2) = ks ∧ ks.length = n * 2 ∧ ((∃ m0, v = .slice (some ⟨g, 0, none⟩) n m0) ∨ W.heap.size ≤ g)
set_option maxHeartbeats 4000000 in
set_option maxRecDepth 100000 in
theorem kvroom_any (W : World) (b o g n m : Nat) (Z : Array Value) (ks : List Value) (hk : ks.length = n * 2) (hv : W.cell? ⟨b, o, none⟩ = some (.slice (some ⟨g, 0, none⟩) n m)) (hf : W.frozen? ⟨b, o, none⟩ = false) (hb : b < W.heap.size) (hZ : W.heap[g]? = some (.cells Z tKv (0, 0))) (hz : Z.size = m * 2) (hm : n < m) (hmm : m ≤ 9223372036854775807) (ht : Z.toList.take (n * 2) = ks) (hn : n ≤ 100000) :
    Calls Tryz.prog 111 #[.pointer (some ⟨b, o, none⟩)] W (KvPost W b o n (.slice (some ⟨g, 0, none⟩) n m) ks) := by
  have d1 : decide ((n : Int) < (m : Int)) = true := decide_eq_true (by omega)
  have hm' : (n : Int) + 1 ≤ (m : Int) := by omega
  have hmi : (m : Int) ≤ 9223372036854775807 := by omega
  have HV := Lib.hid hv
  have HF := Lib.hid hf
  have HB := Lib.hid hb
  have FIN := Lib.hid (show W.heap[g]? = some (.cells Z tKv (0, 0)) ∧ Z.size = m * 2 ∧ n + 1 ≤ m ∧ m ≤ 9223372036854775807 ∧ Z.toList.take (n * 2) = ks ∧ ks.length = n * 2 from ⟨hZ, hz, hm, hmm, ht, hk⟩)
  clear hm hmm hZ hz ht hk hb
  go_enter Tryz.func111, Tryz.ntmps111
  go_upto_region 1 with (fail)
  go_quiet (fail)
  go_upto_region 2 with (fail)
  obtain ⟨W2, hW2⟩ : ∃ z, z = W.drewN nq := ⟨_, rfl⟩
  rw [← hW2]
  have HB2 := Lib.hid (show Below W.heap.size W W2 by rw [hW2]; exact pw_below_drewN (Below.refl _ _) nq)
  clear hW2 hv hf
  have c1 : W2.cell? ⟨b, o, none⟩ = some (.slice (some ⟨g, 0, none⟩) n m) := (HB2.out.cell (p := ⟨b, o, none⟩) HB.out).trans HV.out
  have f1 : W2.frozen? ⟨b, o, none⟩ = false := (HB2.out.frozen (p := ⟨b, o, none⟩) HB.out).trans HF.out
  have hwr : IntKind.i64.wrap ((n : Int) + 1) = (n : Int) + 1 := IntWalk.i64_in _ (by omega)
  have hp0 : (0 : Int) ≤ (n : Int) + 1 := by omega
  have hpn : ((n : Int) + 1).toNat = n + 1 := by omega
  go_still_tail 14, (by kernel_rfl)
  clear hwr hp0 hpn c1 f1
  change wpList _ _ _ _ _ W2.drew
  obtain ⟨W3, hW3⟩ : ∃ z, z = W2.drew := ⟨_, rfl⟩
  rw [← hW3]
  have HB3 := Lib.hid (show Below W.heap.size W W3 by rw [hW3]; exact below_drew HB2.out)
  clear hW3
  have c1 : W3.cell? ⟨b, o, none⟩ = some (.slice (some ⟨g, 0, none⟩) n m) := (HB3.out.cell (p := ⟨b, o, none⟩) HB.out).trans HV.out
  have f1 : W3.frozen? ⟨b, o, none⟩ = false := (HB3.out.frozen (p := ⟨b, o, none⟩) HB.out).trans HF.out
  go_wp2
  have HL := Lib.hid (show b < W3.heap.size from Nat.lt_of_lt_of_le HB.out HB3.out.size)
  obtain ⟨W4, hW4⟩ : ∃ z, z = World.setCell W3 ⟨b, o, none⟩ (.slice (some ⟨g, 0, none⟩) (n + 1) m) := ⟨_, rfl⟩
  rw [← hW4]
  have c4 : W4.cell? ⟨b, o, none⟩ = some (.slice (some ⟨g, 0, none⟩) (n + 1) m) := by rw [hW4]; exact World.cell?_setCell_same' _ _ _ (by rw [c1]; rfl)
  have H4 := Lib.hid hW4
  clear hW4 c1 f1
  have hwr : IntKind.i64.wrap ((n : Int) + 1 - 1) = (n : Int) := by rw [show (n : Int) + 1 - 1 = n by omega]; exact IntWalk.i64_in _ (by omega)
  have hpn : ((n : Int)).toNat = n := by omega
  go_quiet (fail)
  go_wp2
  go_ret
  obtain ⟨f1, f2, f3, f4, f5, f6⟩ := FIN.out
  refine ⟨g, _, m, _, Z, W3, rfl, rfl, rfl, HB3.out, ?_, blk_below f1 HB3.out, f2, f3, f4, f5, f6, .inl ⟨m, rfl⟩⟩
  rw [← H4.out]
  have hs : W4.heap.size = W3.heap.size := by rw [H4.out]; simp [World.setCell]
  rw [← hs]
  exact pw_below_drewN (Below.refl _ _) _
section
variable {ops : Array Oper} {rest : List Oper} {o : Oper} {a : Act} {Q : Exit → Act → World → Prop}
/-- append(kvs, kv), no room. -/
theorem kv_grow {W0 W : World} {n : Nat} {base : Option Addr} {ks : List Value} (hgd : o.guard = none) (s x : Operand) (ho : o.op = .call { callee := .builtin .append, args := #[s, x], argTypes := #[tKvs, tKvs] }) (hs : a.eval s = .slice base n n) (hx : a.eval x = .slice (some ⟨W.heap.size, 0, none⟩) 1 1) (H : Kv W0 (.slice base n n) n ks) (HB : Below W0.heap.size W0 W) (hn : n ≤ 100000)
    (h : ∀ B cap w1 Z, w1.heap[B]? = some (.cells Z tKv (0, 0)) → Z.size = cap * 2 ∧ n + 1 ≤ cap ∧ cap ≤ 9223372036854775807 ∧ Z.toList.take (n * 2) = ks ∧ ks.length = n * 2 ∧ W0.heap.size ≤ B → (cap : Int) ≤ 9223372036854775807 → Below W.heap.size W w1 → wpList Tryz.prog ops Q rest (a.put o.dst (.slice (some ⟨B, 0, none⟩) (n + 1) cap)) w1) : wpList Tryz.prog ops Q (o :: rest) a (W.alloc (.cells #[.string ⟨#[]⟩, .pointer none] tKv)) := by
  obtain ⟨hk, H⟩ := H
  have hold : ∀ ad, base = some ad → ∀ j u, ks[j]? = some u → (W.alloc litKv).cell? (ad.add j) = some u := by
    intro ad hb j u hj
    rcases H with ⟨e, rfl⟩ | ⟨g, m, Z, e, he, h1, h2, h3, h4⟩
    · injection e with e; rw [e] at hb; cases hb
    · injection e with e _ _
      rw [e] at hb
      injection hb with hb
      subst hb
      have hjl : j < n * 2 := by have := (List.getElem?_eq_some_iff.1 hj).1; omega
      rw [add_plain, blk_cell (blk_alloc (blk_below he HB) litKv), ← Array.getElem?_toList, ← List.getElem?_take_of_lt hjl, h4, hj]
  have hnone : base = none → n = 0 := by
    intro hb
    rcases H with ⟨e, h0⟩ | ⟨g, m, Z, e, he, h1, h2, h3, h4⟩
    · exact h0
    · injection e with e _ _; rw [e] at hb; cases hb
  refine row_grow hgd s x tKvs tKv zKv 2 24 ho Tryz.underlying83 infoKv base n n ks hk hold hnone W.heap.size 1 [.string ⟨#[]⟩, .pointer none] rfl one2 hs hx (litKv_at W) (by omega) (by omega) (by omega) ?_
  intro B cap w1 hB hc hm he hb
  refine h B cap w1 _ he ⟨?_, hc, hm, ?_, hk, by rw [hB]; have := HB.size; simp; omega⟩ (by omega) (Below.trans (below_alloc (Below.refl _ _) litKv) (hb.mono (by simp)))
  · rw [Array.size_append, size_zeroCells]
    simp only [List.size_toArray, List.length_append, hk, List.length_cons, List.length_nil]
    show _ + _ * 2 = _
    omega
  · rw [Array.toList_append, List.toList_toArray, List.append_assoc, List.take_left' hk]
end
set_option maxHeartbeats 4000000 in
set_option maxRecDepth 100000 in
theorem kvgrow_any (W : World) (b o n : Nat) (base : Option Addr) (ks : List Value) (hk : Kv W (.slice base n n) n ks) (hv : W.cell? ⟨b, o, none⟩ = some (.slice base n n)) (hf : W.frozen? ⟨b, o, none⟩ = false) (hb : b < W.heap.size) (hn : n ≤ 100000) :
    Calls Tryz.prog 111 #[.pointer (some ⟨b, o, none⟩)] W (KvPost W b o n (.slice base n n) ks) := by
  have d1 : decide ((n : Int) < (n : Int)) = false := decide_eq_false (by omega)
  have HV := Lib.hid hv
  have HF := Lib.hid hf
  have HB := Lib.hid hb
  have HK := Lib.hid hk
  clear hb hk
  go_enter Tryz.func111, Tryz.ntmps111
  go_upto_region 1 with (fail)
  go_quiet (fail)
  go_upto_region 3 with (fail)
  obtain ⟨W2, hW2⟩ : ∃ z, z = W.drewN nq := ⟨_, rfl⟩
  rw [← hW2]
  have HB2 := Lib.hid (show Below W.heap.size W W2 by rw [hW2]; exact pw_below_drewN (Below.refl _ _) nq)
  clear hW2 hv hf
  have c1 : W2.cell? ⟨b, o, none⟩ = some (.slice base n n) := (HB2.out.cell (p := ⟨b, o, none⟩) HB.out).trans HV.out
  have f1 : W2.frozen? ⟨b, o, none⟩ = false := (HB2.out.frozen (p := ⟨b, o, none⟩) HB.out).trans HF.out
  go_upto_region 4 with (at_builtin; refine kv_grow rfl (.tmp 32) (.tmp 34) rfl rfl (by simp [go_sem]) HK.out HB2.out hn ?_; intro g cap w1 Z he hz hm hb; have HE := Lib.hid he; have HZ := Lib.hid hz; have HB3 := Lib.hid (HB2.out.trans (hb.mono HB2.out.size)); have d2 : w1.cell? ⟨b, o, none⟩ = some (.slice base n n) := (HB3.out.cell (p := ⟨b, o, none⟩) HB.out).trans HV.out; have g1 : w1.frozen? ⟨b, o, none⟩ = false := (HB3.out.frozen (p := ⟨b, o, none⟩) HB.out).trans HF.out; clear he hz hb c1 f1)
  obtain ⟨W4, hW4⟩ : ∃ z, z = World.setCell w1 ⟨b, o, none⟩ (.slice (some ⟨g, 0, none⟩) (n + 1) cap) := ⟨_, rfl⟩
  rw [← hW4]
  have c4 : W4.cell? ⟨b, o, none⟩ = some (.slice (some ⟨g, 0, none⟩) (n + 1) cap) := by rw [hW4]; exact World.cell?_setCell_same' _ _ _ (by rw [d2]; rfl)
  have H4 := Lib.hid hW4
  clear hW4 d2 g1
  have hwr : IntKind.i64.wrap ((n : Int) + 1 - 1) = (n : Int) := by rw [show (n : Int) + 1 - 1 = n by omega]; exact IntWalk.i64_in _ (by omega)
  have hpn : ((n : Int)).toNat = n := by omega
  go_quiet (fail)
  go_wp2
  go_ret
  obtain ⟨f2, f3, f4, f5, f6, f7⟩ := HZ.out
  refine ⟨g, _, cap, _, Z, w1, rfl, rfl, rfl, HB3.out, ?_, HE.out, f2, f3, f4, f5, f6, .inr f7⟩
  rw [← H4.out]
  have hs : W4.heap.size = w1.heap.size := by rw [H4.out]; simp [World.setCell]
  rw [← hs]
  exact pw_below_drewN (Below.refl _ _) _
/-- getKV. -/
theorem kv_any (W : World) (b o n : Nat) (v : Value) (ks : List Value) (hk : Kv W v n ks) (hv : W.cell? ⟨b, o, none⟩ = some v) (hf : W.frozen? ⟨b, o, none⟩ = false) (hb : b < W.heap.size) (hn : n ≤ 100000) :
    Calls Tryz.prog 111 #[.pointer (some ⟨b, o, none⟩)] W (KvPost W b o n v ks) := by
  have hk0 := hk
  obtain ⟨hl, ⟨e, rfl⟩ | ⟨g, m, Z, e, he, h1, h2, h3, h4⟩⟩ := hk
  · subst e
    exact kvgrow_any W b o 0 none ks hk0 hv hf hb hn
  · subst e
    rcases Nat.lt_or_ge n m with q | q
    · exact kvroom_any W b o g n m Z ks hl hv hf hb he h1 q h3 h4 hn
    · obtain rfl : n = m := by omega
      exact kvgrow_any W b o n _ ks hk0 hv hf hb hn
end Go.Proofs.YtcaigeikdnoheaaGreatDoor.Fp
