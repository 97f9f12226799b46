/- Several texts in one. -/
import Derived.Test.YtcaigeikdnoheaaGreatDoorZFp1
import Derived.Test.YtcaigeikdnoheaaGreatDoorZFp2
import Derived.RegionTactic
set_option linter.unusedVariables false
set_option linter.unusedSimpArgs false
namespace Go.Proofs.YtcaigeikdnoheaaGreatDoor.Fp
open Go.RowKit Go.Proofs.YtcaigeikdnoheaaGreatDoorW.PrintWords Go.Proofs.YtcaigeikdnoheaaGreatDoorW.PrintLast Go.Proofs.YtcaigeikdnoheaaGreatDoorW.PrintMore Go.Proofs.YtcaigeikdnoheaaGreatDoor.Aid Go.Proofs.YtcaigeikdnoheaaGreatDoor.J

abbrev tVps : Nat := 86
theorem infoVp : (Tryz.prog.info? tVp).map (fun i => (i.zero, i.size, i.bytes)) = some (some (.pointer none), 1, 8) := by kernel_rfl
/-- A value of the cache that is being filled. -/
structure Nd (w0 : World) (A : Nat) (pb : Value) (W0 : World) (vs0 : Value) (W : World) (vs : Value) (n b o : Nat) : Prop where
  st : St w0 A W pb vs n
  fr : Fr A W0 vs0 W vs
  v : isV W b o
  old : ∀ j, j < 5 → Old A W vs b (o + j)
  new : ∀ j, j < 5 → ¬ Old A W0 vs0 b (o + j)
  low : w0.heap.size ≤ b
  A0 : A < W0.heap.size
  ex : ∃ Z, W.heap[b]? = some (.cells Z tV (0, 0)) ∧ o + 5 ≤ Z.size
section
variable {w0 W0 W W1 : World} {A n n1 b o : Nat} {pb vs0 vs vs1 : Value}
theorem Nd.of_gv {B : Nat} (h : St w0 A W0 pb vs0 n) (g : Gv w0 A W0 pb vs0 n W vs B o) (e : o = 5 * n) : Nd w0 A pb W0 vs0 W vs (n + 1) B o := by
  obtain ⟨Z, e1, hz⟩ := g.ex
  have hA : B ≠ A := blk_ne e1 g.st.par (by decide)
  refine ⟨g.st, g.fr, ⟨⟨Z, e1⟩, by omega⟩, fun j hj => ⟨blk_lt e1, hA, fun B' k hv eb => ?_⟩, fun j hj ho => ?_, g.st.vlow _ _ g.at_, h.lt, Z, e1, hz⟩
  · rw [g.at_] at hv
    injection hv with hv; injection hv with _ hk
    omega
  · rcases g.fr.vs _ _ g.at_ with q | ⟨k, q, _⟩
    · have := ho.1; omega
    · obtain ⟨rfl, _, _⟩ := h.len q
      have := ho.2.2 _ _ q rfl
      omega
theorem Nd.neA (h : Nd w0 A pb W0 vs0 W vs n b o) : b ≠ A := (h.old 0 (by omega)).2.1
theorem Nd.step (h : Nd w0 A pb W0 vs0 W vs n b o) (f : Fr A W vs W1 vs1) (s : St w0 A W1 pb vs1 n1) : Nd w0 A pb W0 vs0 W1 vs1 n1 b o := by
  refine ⟨s, h.fr.trans f, ⟨f.ty h.neA h.v.1, h.v.2⟩, fun j hj => (h.old j hj).fr f, h.new, h.low, h.A0, ?_⟩
  obtain ⟨Z, e, hz⟩ := h.ex
  by_cases hq : ∃ k, vsOf vs = some (b, k)
  · obtain ⟨k, hq⟩ := hq
    obtain ⟨_, Y, Y', e0, e1, ez, e2⟩ := f.pre b k hq
    refine ⟨Y', e1, ?_⟩
    have hk := (h.old 4 (by omega)).2.2 _ _ hq rfl
    rw [e] at e0
    injection e0 with e0; injection e0 with e0 _ _
    subst e0
    have h4 : Y'[o + 4]? = Z[o + 4]? := e2 _ hk
    have hs : (Z[o + 4]?).isSome = true := by rw [Array.getElem?_eq_getElem (by omega)]; rfl
    rw [← h4] at hs
    have := (Array.getElem?_eq_some_iff.1 (Option.eq_some_of_isSome hs)).1
    omega
  · exact ⟨Z, by rw [f.block b (blk_lt e) h.neA (fun B k hv eb => hq ⟨k, by rw [hv, eb]⟩), e], hz⟩
theorem Nd.set (h : Nd w0 A pb W0 vs0 W vs n b o) (j : Nat) (hj : j < 5) (u : Value) : Nd w0 A pb W0 vs0 (W.setCell ⟨b, o + j, none⟩ u) vs n b o := by
  obtain ⟨Z, e, hz⟩ := h.ex
  exact ⟨h.st.set h.neA h.low (fun B k hv eb => (h.old j hj).2.2 B k hv eb) u, h.fr.set h.neA (h.new j hj) u, ⟨h.v.1.set _ _ _, h.v.2⟩, fun i hi => (h.old i hi).set _ _, h.new, h.low, h.A0, Z.setIfInBounds (o + j) u, blk_set e _ u, by simpa using hz⟩
theorem Nd.below (h : Nd w0 A pb W0 vs0 W vs n b o) (k : Below W.heap.size W W1) : Nd w0 A pb W0 vs0 W1 vs n b o := h.step (h.st.frb k) (h.st.below k)
theorem Nd.frozen (h : Nd w0 A pb W0 vs0 W vs n b o) (j : Nat) : W.frozen? ⟨b, o + j, none⟩ = false := by
  obtain ⟨Z, e, hz⟩ := h.ex
  exact blk_frozen e _
theorem Nd.some_cell (h : Nd w0 A pb W0 vs0 W vs n b o) (j : Nat) (hj : j < 5) : ∃ u, W.cell? ⟨b, o + j, none⟩ = some u := by
  obtain ⟨Z, e, hz⟩ := h.ex
  exact ⟨_, (blk_cell e (o + j)).trans (Array.getElem?_eq_getElem (by omega))⟩
theorem Nd.same (h : Nd w0 A pb W0 vs0 W vs n b o) (j : Nat) (hj : j < 5) (u : Value) : (W.setCell ⟨b, o + j, none⟩ u).cell? ⟨b, o + j, none⟩ = some u := by
  obtain ⟨x, hx⟩ := h.some_cell j hj
  exact World.cell?_setCell_same' _ _ _ (by rw [hx]; rfl)
theorem Nd.other (i j : Nat) (hij : i ≠ j) (u : Value) : (W.setCell ⟨b, o + j, none⟩ u).cell? ⟨b, o + i, none⟩ = W.cell? ⟨b, o + i, none⟩ :=
  World.cell?_setCell_other _ _ _ _ (fun e => by injection e with _ e _; omega)
end
/-- Cells of what hangs on a node under construction: new, not the node's own, and of its row no more than what is filled. -/
def Pn (A : Nat) (W0 : World) (vs0 : Value) (b o g len : Nat) (i j : Nat) : Prop := ¬ Old A W0 vs0 i j ∧ (i = g → j < len) ∧ ¬ (i = b ∧ o ≤ j ∧ j < o + 5)
def RowV (W0 W : World) (g len c t sz : Nat) : Prop := ∃ Z, W.heap[g]? = some (.cells Z t (0, 0)) ∧ Z.size = c * sz ∧ len ≤ c ∧ c ≤ 9223372036854775807 ∧ W0.heap.size ≤ g
/-- An array under construction. -/
structure ArrN (w0 : World) (A : Nat) (pb : Value) (W0 : World) (vs0 : Value) (W : World) (vs : Value) (n b o : Nat) (acc : TL) (v2 : Value) : Prop where
  nd : Nd w0 A pb W0 vs0 W vs n b o
  t : W.cell? ⟨b, o + 4, none⟩ = some (.int .i64 2)
  c2 : W.cell? ⟨b, o + 2, none⟩ = some v2
  row : ∃ g c, v2 = slc g acc.len c ∧ (acc.len ≠ 0 → RowV W0 W g acc.len c tVp 1) ∧ repL W (fun i j => Old A W vs i j ∧ Pn A W0 vs0 b o g acc.len i j) acc g 0
section
variable {w0 W0 W W1 : World} {A n n1 b o : Nat} {pb vs0 vs vs1 v2 : Value} {acc : TL}
theorem RowV.step {g len c t sz : Nat} (h : RowV W0 W g len c t sz) (k : Nd w0 A pb W0 vs0 W vs n b o) (ht : t ≠ tV) (f : Fr A W vs W1 vs1) : RowV W0 W1 g len c t sz := by
  obtain ⟨Z, e, h1, h2, h3, h4⟩ := h
  refine ⟨Z, ?_, h1, h2, h3, h4⟩
  rw [f.block g (blk_lt e) (by have := k.A0; omega) ?_, e]
  intro B m hv eb
  subst eb
  obtain ⟨_, _, Y, ey⟩ := k.st.len hv
  exact blk_ne e ey ht rfl
theorem RowV.old {g len c t sz j : Nat} (h : RowV W0 W g len c t sz) (k : Nd w0 A pb W0 vs0 W vs n b o) (ht : t ≠ tV) : Old A W vs g j := by
  obtain ⟨Z, e, h1, h2, h3, h4⟩ := h
  refine ⟨blk_lt e, by have := k.A0; omega, fun B m hv eb => ?_⟩
  subst eb
  obtain ⟨_, _, Y, ey⟩ := k.st.len hv
  exact absurd rfl (blk_ne e ey ht)
theorem RowV.set {g len c t sz : Nat} (h : RowV W0 W g len c t sz) (p : Nat) (q : Nat) (hp : g ≠ p) (u : Value) : RowV W0 (W.setCell ⟨p, q, none⟩ u) g len c t sz := by
  obtain ⟨Z, e, h1, h2, h3, h4⟩ := h
  exact ⟨Z, blk_far e hp u, h1, h2, h3, h4⟩
theorem ArrN.step (h : ArrN w0 A pb W0 vs0 W vs n b o acc v2) (f : Fr A W vs W1 vs1) (s : St w0 A W1 pb vs1 n1) : ArrN w0 A pb W0 vs0 W1 vs1 n1 b o acc v2 := by
  obtain ⟨nd, t, c2, g, c, e, hr, hl⟩ := h
  refine ⟨nd.step f s, (f.cell (nd.old 4 (by omega))).trans t, (f.cell (nd.old 2 (by omega))).trans c2, g, c, e, fun hn => (hr hn).step nd (by decide) f, repL_keep (f.keep _) acc g 0 hl⟩
theorem ArrN.below (h : ArrN w0 A pb W0 vs0 W vs n b o acc v2) (k : Below W.heap.size W W1) : ArrN w0 A pb W0 vs0 W1 vs n b o acc v2 := h.step (h.nd.st.frb k) (h.nd.st.below k)
/-- The array is done. -/
theorem ArrN.rep (h : ArrN w0 A pb W0 vs0 W vs n b o acc v2) : rep W (fun i j => Old A W vs i j ∧ ¬ Old A W0 vs0 i j) (.arr acc) b o := by
  obtain ⟨nd, t, c2, g, c, rfl, hr, hl⟩ := h
  rw [Fp.rep]
  exact ⟨nd.v, ⟨t, nd.old 4 (by omega), nd.new 4 (by omega)⟩, g, c, ⟨c2, nd.old 2 (by omega), nd.new 2 (by omega)⟩, repL_keep (fun i j hq => ⟨⟨hq.1, hq.2.1⟩, rfl, fun _ h => h⟩) acc g 0 hl⟩
/-- One element more in another row. -/
theorem repL_move {g g1 : Nat} (ht : ty W1 g1 tVp) : ∀ (l : TL) (i : Nat) (O O' : Nat → Nat → Prop), Keep W O W1 O' → (∀ x y, O x y → x ≠ g → x ≠ g1) → (∀ j, i ≤ j → j < i + l.len → W1.cell? ⟨g1, j, none⟩ = W.cell? ⟨g, j, none⟩ ∧ O' g1 j) → repL W O l g i → repL W1 O' l g1 i
  | .nil, i, O, O', h, hm, hc, r => by rw [repL]; trivial
  | .cons t l, i, O, O', h, hm, hc, r => by
    rw [repL] at r ⊢
    obtain ⟨r0, tb, tq, S, r1, r2, r3⟩ := r
    obtain ⟨e1, e2⟩ := hc i (Nat.le_refl _) (by rw [TL.len]; omega)
    refine ⟨ht, tb, tq, fun x y => S x y ∧ x ≠ g, ⟨e1.trans r1.1, e2⟩, rep_keep (fun x y q => ⟨⟨(h x y q.1).1, hm x y q.1 q.2.1, q.2.2, q.2.1⟩, (h x y q.1).2⟩) t tb tq r2, repL_move ht l (i + 1) _ _ (fun x y q => ⟨⟨(h x y q.1).1, .inr fun hs => q.2.elim (fun e => hs.2 e) (fun hn => hn hs.1)⟩, (h x y q.1).2⟩) (fun x y q hne => hm x y q.1 hne) (fun j h1 h2 => ?_) r3⟩
    obtain ⟨f1, f2⟩ := hc j (by omega) (by rw [TL.len]; omega)
    exact ⟨f1, f2, .inl rfl⟩
/-- One element more: its cells, O2, are none of those ahead of it, O1. -/
theorem repL_snoc {g : Nat} {t : T} {tb tq : Nat} (ht : ty W g tVp) : ∀ (l : TL) (i : Nat) (O1 O2 O : Nat → Nat → Prop), (∀ x y, O1 x y → O x y) → (∀ x y, O2 x y → O x y ∧ x ≠ g ∧ ¬ O1 x y) → W.cell? ⟨g, i + l.len, none⟩ = some (.pointer (some ⟨tb, tq, none⟩)) ∧ O g (i + l.len) → rep W O2 t tb tq → repL W O1 l g i → repL W O (l.snoc t) g i
  | .nil, i, O1, O2, O, h1, h2, hc, r, _ => by
    rw [TL.snoc, repL]
    exact ⟨ht, tb, tq, fun _ _ => True, hc, rep_keep (fun x y q => ⟨⟨(h2 x y q).1, (h2 x y q).2.1, trivial⟩, rfl, fun _ h => h⟩) _ _ _ r, by rw [repL]; trivial⟩
  | .cons u l, i, O1, O2, O, h1, h2, hc, r, q => by
    rw [repL] at q
    rw [TL.snoc, repL]
    rw [TL.len, show i + (l.len + 1) = i + 1 + l.len by omega] at hc
    obtain ⟨q0, b, o, S, q1, q2, q3⟩ := q
    refine ⟨q0, b, o, fun x y => S x y ∧ O1 x y, ⟨q1.1, h1 _ _ q1.2⟩, rep_keep (fun x y k => ⟨⟨h1 x y k.1, k.2.1, k.2.2, k.1⟩, rfl, fun _ h => h⟩) _ _ _ q2, repL_snoc ht l (i + 1) _ O2 _ (fun x y k => ⟨h1 x y k.1, k.2.elim .inl (fun hn => .inr fun hs => hn hs.1)⟩) (fun x y k => ?_) ⟨hc.1, hc.2, .inl rfl⟩ r q3⟩
    obtain ⟨a1, a2, a3⟩ := h2 x y k
    exact ⟨⟨a1, .inr fun hs => a3 hs.2⟩, a2, fun hs => a3 hs.1⟩
end
section
variable {ops : Array Oper} {rest : List Oper} {op : Oper} {a : Act} {Q : Exit → Act → World → Prop}
/-- a.a = append(a.a, v): the row has the child's pointer, too. Wc: the world in which the child's parsing began. -/
theorem vp_append {w0 W0 Wc W : World} {A n nc b o : Nat} {pb vs0 vsc vs v2 : Value} {acc : TL} {t : T} {tb tq : Nat} (hgd : op.guard = none) (s x : Operand) (ho : op.op = .call { callee := .builtin .append, args := #[s, x], argTypes := #[tVps, tVps] }) (hs : a.eval s = v2) (hx : a.eval x = .slice (some ⟨W.heap.size, 0, none⟩) 1 1)
    (hc : ArrN w0 A pb W0 vs0 Wc vsc nc b o acc v2) (f : Fr A Wc vsc W vs) (st : St w0 A W pb vs n) (hr : rep W (fun i j => Old A W vs i j ∧ ¬ Old A Wc vsc i j) t tb tq) (hl : acc.len ≤ 100000)
    (h : ∀ g1 c1 w1, ArrN w0 A pb W0 vs0 (w1.setCell ⟨b, o + 2, none⟩ (.slice (some ⟨g1, 0, none⟩) (acc.len + 1) c1)) vs n b o (acc.snoc t) (.slice (some ⟨g1, 0, none⟩) (acc.len + 1) c1) → w1.cell? ⟨b, o + 2, none⟩ = some v2 → w1.frozen? ⟨b, o + 2, none⟩ = false → wpList Tryz.prog ops Q rest (a.put op.dst (.slice (some ⟨g1, 0, none⟩) (acc.len + 1) c1)) w1) :
    wpList Tryz.prog ops Q (op :: rest) a (W.alloc (.cells #[.pointer (some ⟨tb, tq, none⟩)] tVp)) := by
  have hN := hc.step f st
  have hB : Below W.heap.size W (W.alloc (.cells #[.pointer (some ⟨tb, tq, none⟩)] tVp)) := below_alloc (Below.refl _ _) _
  have hlit : ∀ j u, [Value.pointer (some ⟨tb, tq, none⟩)][j]? = some u → (W.alloc (.cells #[.pointer (some ⟨tb, tq, none⟩)] tVp)).cell? ⟨W.heap.size, j, none⟩ = some u := fun j u hj => (blk_cell (blk_new W (.cells #[.pointer (some ⟨tb, tq, none⟩)] tVp)) j).trans (by simpa using hj)
  have hone : ∀ q ∈ [Value.pointer (some ⟨tb, tq, none⟩)], q.oneCell' = true := by intro q hq; simp only [List.mem_singleton] at hq; rw [hq]; rfl
  have hNew : ∀ i j, ¬ Old A Wc vsc i j → ¬ Old A W0 vs0 i j := fun i j h1 h2 => h1 (h2.fr hc.nd.fr)
  have hSlot : ∀ i j, ¬ Old A Wc vsc i j → ¬ (i = b ∧ o ≤ j ∧ j < o + 5) := fun i j h1 e => h1 (by
    obtain ⟨rfl, e1, e2⟩ := e
    have := hc.nd.old (j - o) (by omega)
    rwa [show o + (j - o) = j by omega] at this)
  obtain ⟨nd, ht, hc2, _⟩ := hN
  obtain ⟨g, c, e2, hrow0, hrl0⟩ := hc.row
  have hrow : acc.len ≠ 0 → RowV W0 W g acc.len c tVp 1 := fun hn => (hrow0 hn).step hc.nd (by decide) f
  have hrl : repL W (fun i j => Old A W vs i j ∧ (Old A Wc vsc i j ∧ Pn A W0 vs0 b o g acc.len i j)) acc g 0 := repL_keep (f.keep (fun i j => Old A Wc vsc i j ∧ Pn A W0 vs0 b o g acc.len i j)) acc g 0 (repL_keep (fun i j q => ⟨⟨q.1, q⟩, rfl, fun _ h => h⟩) acc g 0 hrl0)
  -- a new row
  have grow : ∀ (base : Option Addr) (olds : List Value), v2 = .slice base acc.len acc.len → olds.length = acc.len → (∀ ad, base = some ad → ∀ j u, olds[j]? = some u → (W.alloc (.cells #[.pointer (some ⟨tb, tq, none⟩)] tVp)).cell? (ad.add j) = some u) → (base = none → acc.len = 0) → (∀ j, j < acc.len → olds[j]? = W.cell? ⟨g, j, none⟩) → wpList Tryz.prog ops Q (op :: rest) a (W.alloc (.cells #[.pointer (some ⟨tb, tq, none⟩)] tVp)) := by
    intro base olds hv hol hold hnone hsame
    refine row_grow hgd s x tVps tVp (.pointer none) 1 8 ho Tryz.underlying86 infoVp base acc.len acc.len olds (by omega) hold hnone W.heap.size 1 [.pointer (some ⟨tb, tq, none⟩)] rfl hone (hs.trans hv) hx hlit (by omega) (by omega) (by omega) ?_
    intro B cap w1 hBe hcap hmax he hb
    have hb1 : Below W.heap.size W w1 := Below.trans hB (hb.mono (by simp))
    have hWB : W.heap.size < B := by rw [hBe]; simp
    have n1 := nd.below hb1
    have hbB : b ≠ B := by have := (nd.old 0 (by omega)).1; omega
    have he2 := blk_far he (p := ⟨b, o + 2, none⟩) (fun e => hbB e.symm) (.slice (some ⟨B, 0, none⟩) (acc.len + 1) cap)
    have hat : ∀ j, j < acc.len + 1 → ((olds ++ [Value.pointer (some ⟨tb, tq, none⟩)]).toArray ++ Builtin.zeroCells (Value.pointer none).cells (cap - (acc.len + 1)))[j]? = (olds ++ [Value.pointer (some ⟨tb, tq, none⟩)])[j]? := fun j hj => by
      rw [Array.getElem?_append_left (by simp [hol]; omega), List.getElem?_toArray]
    have hty : ty (w1.setCell ⟨b, o + 2, none⟩ (.slice (some ⟨B, 0, none⟩) (acc.len + 1) cap)) B tVp := ⟨_, he2⟩
    have hold2 : ∀ i j, Old A W vs i j → Old A (w1.setCell ⟨b, o + 2, none⟩ (.slice (some ⟨B, 0, none⟩) (acc.len + 1) cap)) vs i j := fun i j h => (h.below hb1).set _ _
    have hB2 : ∀ j, Old A (w1.setCell ⟨b, o + 2, none⟩ (.slice (some ⟨B, 0, none⟩) (acc.len + 1) cap)) vs B j := fun j => by
      refine ⟨blk_lt he2, by have := nd.st.lt; omega, fun B' k hv' eb => ?_⟩
      obtain ⟨_, _, Y, ey⟩ := nd.st.len hv'
      have := blk_lt ey
      omega
    have keep : ∀ (P P' : Nat → Nat → Prop), (∀ i j, Old A W vs i j → P i j → P' i j ∧ ¬ (i = b ∧ o ≤ j ∧ j < o + 5)) → Keep W (fun i j => Old A W vs i j ∧ P i j) (w1.setCell ⟨b, o + 2, none⟩ (.slice (some ⟨B, 0, none⟩) (acc.len + 1) cap)) (fun i j => Old A (w1.setCell ⟨b, o + 2, none⟩ (.slice (some ⟨B, 0, none⟩) (acc.len + 1) cap)) vs i j ∧ P' i j) := fun P P' hP i j hq => by
      obtain ⟨p1, p2⟩ := hP i j hq.1 hq.2
      refine ⟨⟨hold2 i j hq.1, p1⟩, ?_, fun t' ht' => (ht'.below hb1).set _ _ _⟩
      rw [World.cell?_setCell_other _ _ _ _ (fun e => by injection e with e1 e2 _; subst e1; exact p2 ⟨rfl, by omega, by omega⟩)]
      exact hb1.cell (p := ⟨i, j, none⟩) hq.1.1
    refine h _ _ w1 ⟨n1.set 2 (by omega) _, ?_, n1.same 2 (by omega) _, B, cap, ?_, fun _ => ⟨_, he2, ?_, ?_, by omega, Nat.le_trans nd.fr.size (by omega)⟩, ?_⟩ ((hb1.cell (p := ⟨b, o + 2, none⟩) (nd.old 2 (by omega)).1).trans hc2) (n1.frozen 2)
    · rw [Nd.other 4 2 (by omega)]
      exact (hb1.cell (p := ⟨b, o + 4, none⟩) (nd.old 4 (by omega)).1).trans ht
    · rw [TL.len_snoc]; rfl
    · rw [Array.size_append, size_zeroCells]
      simp only [List.size_toArray, List.length_append, hol, List.length_cons, List.length_nil]
      show _ + _ * 1 = _
      omega
    · rw [TL.len_snoc]; exact hcap
    · rw [TL.len_snoc]
      refine repL_snoc hty acc 0 (fun i j => Old A (w1.setCell ⟨b, o + 2, none⟩ (.slice (some ⟨B, 0, none⟩) (acc.len + 1) cap)) vs i j ∧ ((Old A Wc vsc i j ∨ i = B) ∧ Pn A W0 vs0 b o B (acc.len + 1) i j)) (fun i j => Old A (w1.setCell ⟨b, o + 2, none⟩ (.slice (some ⟨B, 0, none⟩) (acc.len + 1) cap)) vs i j ∧ (¬ Old A Wc vsc i j ∧ i ≠ B ∧ Pn A W0 vs0 b o B (acc.len + 1) i j)) _ (fun x y q => ⟨q.1, q.2.2⟩) (fun x y q => ⟨⟨q.1, q.2.2.2⟩, q.2.2.1, fun o1 => o1.2.1.elim (fun h => q.2.1 h) (fun h => q.2.2.1 h)⟩) ?_ (rep_keep (keep _ _ (fun i j h1 h2 => ⟨⟨h2, fun e => absurd h1.1 (by omega), hNew i j h2, fun e => absurd h1.1 (by omega), hSlot i j h2⟩, hSlot i j h2⟩)) t tb tq hr) (repL_move hty acc 0 _ _ (keep _ _ (fun i j h1 h2 => ⟨⟨.inl h2.1, h2.2.1, fun e => absurd h1.1 (by omega), h2.2.2.2⟩, h2.2.2.2⟩)) (fun x y q _ e => absurd q.1.1 (by omega)) ?_ hrl)
      · refine ⟨?_, hB2 _, fun e => absurd e.1 (by have := nd.fr.size; omega), fun _ => by omega, fun e => hbB e.1.symm⟩
        rw [blk_cell he2, Nat.zero_add, hat _ (by omega), List.getElem?_append_right (by omega), hol, Nat.sub_self]; rfl
      · intro j _ hj
        refine ⟨?_, hB2 _, .inr rfl, fun e => absurd e.1 (by have := nd.fr.size; omega), fun _ => by omega, fun e => hbB e.1.symm⟩
        rw [blk_cell he2, hat _ (by omega), List.getElem?_append_left (by omega), hsame j (by omega)]
  rcases Nat.eq_zero_or_pos acc.len with hz | hz
  · refine grow none [] (by rw [e2, hz]; rfl) (by rw [hz]; rfl) (fun ad h => by cases h) (fun _ => hz) (fun j hj => by omega)
  · have hrw := hrow (by omega)
    obtain ⟨Z, eZ, hZs, hlc, hmx, hgW⟩ := hrw
    have ev : v2 = .slice (some ⟨g, 0, none⟩) acc.len c := by rw [e2]; unfold slc; rw [if_neg (by omega)]
    rcases Nat.lt_or_ge acc.len c with hroom | hfull
    · have hgA : g ≠ A := by have := nd.A0; omega
      have hgb : g ≠ b := fun e => by
        obtain ⟨Zb, eb, _⟩ := nd.ex
        rw [e] at eZ
        exact blk_ne eZ eb (by decide) rfl
      refine row_room hgd s x tVps tVp (.pointer none) 8 ho Tryz.underlying86 infoVp g acc.len c Z (blk_alloc eZ _) (by omega) W.heap.size 1 (.pointer (some ⟨tb, tq, none⟩)) rfl (hs.trans ev) hx (hlit 0 _ rfl) hroom ?_
      have n1 := nd.below hB
      have hgS : w0.heap.size ≤ g := Nat.le_trans (Nat.le_trans hc.nd.st.low (Nat.le_of_lt nd.A0)) hgW
      have hgV : ∀ B k, vsOf vs = some (B, k) → g = B → acc.len < 5 * k := fun B k hv eb => by
        obtain ⟨_, _, Y, ey⟩ := nd.st.len hv
        subst eb
        exact absurd rfl (blk_ne eZ ey (by decide))
      have hgO : ¬ Old A W0 vs0 g acc.len := fun e => absurd e.1 (by omega)
      have n2 : Nd w0 A pb W0 vs0 ((W.alloc (.cells #[.pointer (some ⟨tb, tq, none⟩)] tVp)).setCell ⟨g, acc.len, none⟩ (.pointer (some ⟨tb, tq, none⟩))) vs n b o := by
        obtain ⟨Zb, eb, hzb⟩ := n1.ex
        exact ⟨n1.st.set hgA hgS hgV _, n1.fr.set hgA hgO _, ⟨n1.v.1.set _ _ _, n1.v.2⟩, fun i hi => (n1.old i hi).set _ _, n1.new, n1.low, n1.A0, Zb, blk_far eb (fun e => hgb e.symm) _, hzb⟩
      have hcell : ∀ i j, ¬ (i = g ∧ j = acc.len) → i < W.heap.size → ((W.alloc (.cells #[.pointer (some ⟨tb, tq, none⟩)] tVp)).setCell ⟨g, acc.len, none⟩ (.pointer (some ⟨tb, tq, none⟩))).cell? ⟨i, j, none⟩ = W.cell? ⟨i, j, none⟩ := fun i j hq hi => by
        rw [World.cell?_setCell_other _ _ _ _ (fun e => by injection e with e1 e2 _; exact hq ⟨e1.symm, e2.symm⟩)]
        exact hB.cell (p := ⟨i, j, none⟩) hi
      have eZ2 := blk_set (blk_alloc eZ (.cells #[.pointer (some ⟨tb, tq, none⟩)] tVp)) acc.len (.pointer (some ⟨tb, tq, none⟩))
      have eZ3 := blk_far eZ2 (p := ⟨b, o + 2, none⟩) hgb (.slice (some ⟨g, 0, none⟩) (acc.len + 1) c)
      have hgOld : ∀ j, Old A W vs g j := fun j => (show RowV W0 W g acc.len c tVp 1 from ⟨Z, eZ, hZs, hlc, hmx, hgW⟩).old nd (by decide)
      have keep : ∀ (P P' : Nat → Nat → Prop), (∀ i j, Old A W vs i j → P i j → P' i j ∧ ¬ (i = b ∧ o ≤ j ∧ j < o + 5) ∧ ¬ (i = g ∧ j = acc.len)) → Keep W (fun i j => Old A W vs i j ∧ P i j) (((W.alloc (.cells #[.pointer (some ⟨tb, tq, none⟩)] tVp)).setCell ⟨g, acc.len, none⟩ (.pointer (some ⟨tb, tq, none⟩))).setCell ⟨b, o + 2, none⟩ (.slice (some ⟨g, 0, none⟩) (acc.len + 1) c)) (fun i j => Old A (((W.alloc (.cells #[.pointer (some ⟨tb, tq, none⟩)] tVp)).setCell ⟨g, acc.len, none⟩ (.pointer (some ⟨tb, tq, none⟩))).setCell ⟨b, o + 2, none⟩ (.slice (some ⟨g, 0, none⟩) (acc.len + 1) c)) vs i j ∧ P' i j) := fun P P' hP i j hq => by
        obtain ⟨p1, p2, p3⟩ := hP i j hq.1 hq.2
        refine ⟨⟨((hq.1.below hB).set _ _).set _ _, p1⟩, ?_, fun t' ht' => ((ht'.below hB).set _ _ _).set _ _ _⟩
        rw [World.cell?_setCell_other _ _ _ _ (fun e => by injection e with e1 e2 _; subst e1; exact p2 ⟨rfl, by omega, by omega⟩)]
        exact hcell i j p3 hq.1.1
      refine h _ _ _ ⟨n2.set 2 (by omega) _, ?_, n2.same 2 (by omega) _, g, c, ?_, fun _ => ⟨_, eZ3, ?_, ?_, hmx, hgW⟩, ?_⟩ ((hcell b (o + 2) (fun e => hgb e.1.symm) (nd.old 2 (by omega)).1).trans hc2) (n2.frozen 2)
      · rw [Nd.other 4 2 (by omega)]
        exact (hcell b (o + 4) (fun e => hgb e.1.symm) (nd.old 4 (by omega)).1).trans ht
      · rw [TL.len_snoc]; rfl
      · simpa using hZs
      · rw [TL.len_snoc]; exact hroom
      · rw [TL.len_snoc]
        have hgc : ∀ j, Old A Wc vsc g j := fun j => (hrow0 (by omega)).old hc.nd (by decide)
        have hoff : ∀ i j, ¬ Old A Wc vsc i j → i ≠ g := fun i j h1 e => h1 (by rw [e]; exact hgc j)
        refine repL_snoc ⟨_, eZ3⟩ acc 0 (fun i j => Old A (((W.alloc (.cells #[.pointer (some ⟨tb, tq, none⟩)] tVp)).setCell ⟨g, acc.len, none⟩ (.pointer (some ⟨tb, tq, none⟩))).setCell ⟨b, o + 2, none⟩ (.slice (some ⟨g, 0, none⟩) (acc.len + 1) c)) vs i j ∧ (Old A Wc vsc i j ∧ Pn A W0 vs0 b o g (acc.len + 1) i j)) (fun i j => Old A (((W.alloc (.cells #[.pointer (some ⟨tb, tq, none⟩)] tVp)).setCell ⟨g, acc.len, none⟩ (.pointer (some ⟨tb, tq, none⟩))).setCell ⟨b, o + 2, none⟩ (.slice (some ⟨g, 0, none⟩) (acc.len + 1) c)) vs i j ∧ (¬ Old A Wc vsc i j ∧ i ≠ g ∧ Pn A W0 vs0 b o g (acc.len + 1) i j)) _ (fun x y q => ⟨q.1, q.2.2⟩) (fun x y q => ⟨⟨q.1, q.2.2.2⟩, q.2.2.1, fun o1 => q.2.1 o1.2.1⟩) ?_ (rep_keep (keep _ _ (fun i j h1 h2 => ⟨⟨h2, hoff i j h2, hNew i j h2, fun e => absurd e (hoff i j h2), hSlot i j h2⟩, hSlot i j h2, fun e => hoff i j h2 e.1⟩)) t tb tq hr) (repL_move ⟨_, eZ3⟩ acc 0 _ _ (keep _ _ (fun i j h1 h2 => ⟨⟨h2.1, h2.2.1, fun e => by have := h2.2.2.1 e; omega, h2.2.2.2⟩, h2.2.2.2, fun e => by have := h2.2.2.1 e.1; omega⟩)) (fun x y _ h => h) ?_ hrl)
        · refine ⟨?_, ((hgOld _).below hB |>.set _ _).set _ _, fun e => absurd e.1 (by omega), fun _ => by omega, fun e => hgb e.1⟩
          rw [blk_cell eZ3, Nat.zero_add, Array.getElem?_setIfInBounds_self_of_lt (by omega)]
        · intro j _ hj
          refine ⟨?_, ((hgOld _).below hB |>.set _ _).set _ _, hgc _, fun e => absurd e.1 (by omega), fun _ => by omega, fun e => hgb e.1⟩
          rw [blk_cell eZ3, Array.getElem?_setIfInBounds_ne (by omega), blk_cell eZ]
    · obtain rfl : acc.len = c := by omega
      refine grow (some ⟨g, 0, none⟩) Z.toList ev (by rw [Array.length_toList]; omega) (fun ad had j u hj => ?_) (fun h => by cases h) (fun j hj => by rw [blk_cell eZ, Array.getElem?_toList])
      injection had with had
      subst had
      rw [add_plain, blk_cell (blk_alloc eZ _), ← Array.getElem?_toList]
      exact hj
end
end Go.Proofs.YtcaigeikdnoheaaGreatDoor.Fp

set_option linter.unusedVariables false
set_option linter.unusedSimpArgs false
namespace Go.Proofs.YtcaigeikdnoheaaGreatDoor.Fp
open Go.RowKit Go.Proofs.YtcaigeikdnoheaaGreatDoorW.PrintWords Go.Proofs.YtcaigeikdnoheaaGreatDoorW.PrintLast Go.Proofs.YtcaigeikdnoheaaGreatDoorW.PrintMore Go.Proofs.YtcaigeikdnoheaaGreatDoor.Aid Go.Proofs.YtcaigeikdnoheaaGreatDoor.J

def Sb (r l : L) : Prop := ∀ x ∈ r, x ∈ l
theorem Sb.trans {a b c : L} (h : Sb a b) (k : Sb b c) : Sb a c := fun x hx => k x (h x hx)
theorem Sb.cons (c : Int) (t : L) : Sb t (c :: t) := fun x hx => List.mem_cons_of_mem _ hx
theorem ws_sb (l : L) : Sb (ws l) l := fun x hx => (List.dropWhile_sublist _).subset hx
theorem rs_sb : ∀ (l : L) (o : Bool) (a r : L), rs o l = some (a, r) → Sb r l
  | [], o, a, r, h => by cases h
  | c :: t, o, a, r, h => by
    rw [rs] at h
    split at h
    · injection h with h; injection h with h1 h2; subst h2; exact Sb.cons c t
    · cases e : rs (c == 92 && !o) t with
      | none => rw [e] at h; cases h
      | some x =>
        rw [e] at h
        injection h with h; injection h with h1 h2; subst h2
        exact (rs_sb t _ x.1 x.2 e).trans (Sb.cons c t)
theorem drop_sb (k : Nat) (l : L) : Sb (l.drop k) l := fun x hx => List.mem_of_mem_drop hx
theorem num_sb {l a r : L} (h : num l = some (a, r)) : Sb r l := by
  have hd : Sb (l.dropWhile nb) l := fun x hx => (List.dropWhile_sublist _).subset hx
  unfold num at h
  simp only [] at h
  split at h
  · injection h with h; injection h with h1 h2; subst h2; intro x hx; cases hx
  · split at h
    · split at h
      · injection h with h; injection h with h1 h2; subst h2; exact (drop_sb 3 _).trans hd
      · cases h
    · split at h
      · split at h
        · injection h with h; injection h with h1 h2; subst h2; exact (drop_sb 3 _).trans hd
        · cases h
      · injection h with h; injection h with h1 h2; subst h2; exact hd
theorem sbs : ∀ n, (∀ d l t r, pv n d l = some (t, r) → Sb r l) ∧ (∀ d l t r, pa n d l = some (t, r) → Sb r l) ∧ (∀ d l t r, po n d l = some (t, r) → Sb r l) := by
  intro n
  induction n with
  | zero => exact ⟨fun d l t r h => (by rw [pv] at h; cases h), fun d l t r h => (by rw [pa] at h; cases h), fun d l t r h => (by rw [po] at h; cases h)⟩
  | succ n ih =>
    obtain ⟨iv, ia, io⟩ := ih
    refine ⟨fun d l t r h => ?_, fun d l t r h => ?_, fun d l t r h => ?_⟩
    · cases l with
      | nil => rw [pv] at h; cases h
      | cons c l =>
        have hc := Sb.cons c l
        have hw := ws_sb l
        rw [pv] at h
        split at h
        · cases h
        split at h
        · unfold obj0 at h
          cases e : ws l with
          | nil => rw [e] at h; cases h
          | cons c2 q =>
            rw [e] at h hw
            simp only [] at h
            split at h
            · injection h with h; injection h with h1 h2; subst h2
              exact ((Sb.cons c2 q).trans hw).trans hc
            · cases e2 : po n (d + 1) (c2 :: q) with
              | none => rw [e2] at h; cases h
              | some x =>
                rw [e2] at h
                injection h with h; injection h with h1 h2; subst h2
                exact ((io _ _ x.1 x.2 e2).trans hw).trans hc
        split at h
        · unfold arr0 at h
          cases e : ws l with
          | nil => rw [e] at h; cases h
          | cons c2 q =>
            rw [e] at h hw
            simp only [] at h
            split at h
            · injection h with h; injection h with h1 h2; subst h2
              exact ((Sb.cons c2 q).trans hw).trans hc
            · cases e2 : pa n (d + 1) (c2 :: q) with
              | none => rw [e2] at h; cases h
              | some x =>
                rw [e2] at h
                injection h with h; injection h with h1 h2; subst h2
                exact ((ia _ _ x.1 x.2 e2).trans hw).trans hc
        split at h
        · cases e : rs false l with
          | none => rw [e] at h; cases h
          | some x =>
            rw [e] at h
            injection h with h; injection h with h1 h2; subst h2
            exact (rs_sb l false x.1 x.2 e).trans hc
        split at h
        · split at h
          · injection h with h; injection h with h1 h2; subst h2; exact drop_sb 4 _
          · cases h
        split at h
        · split at h
          · injection h with h; injection h with h1 h2; subst h2; exact drop_sb 5 _
          · cases h
        split at h
        · split at h
          · injection h with h; injection h with h1 h2; subst h2; exact drop_sb 4 _
          · split at h
            · injection h with h; injection h with h1 h2; subst h2; exact drop_sb 3 _
            · cases h
        cases e : num (c :: l) with
        | none => rw [e] at h; cases h
        | some x =>
          rw [e] at h
          injection h with h; injection h with h1 h2; subst h2
          exact num_sb (a := x.1) (r := x.2) e
    · rw [pa] at h
      have hw := ws_sb l
      cases e : pv n d (ws l) with
      | none => rw [e] at h; cases h
      | some x =>
        rw [e] at h
        have h1 := (iv _ _ x.1 x.2 e).trans hw
        have hw2 := (ws_sb x.2).trans h1
        simp only [] at h
        cases e2 : ws x.2 with
        | nil => rw [e2] at h; cases h
        | cons c q =>
          rw [e2] at h hw2
          have hq := (Sb.cons c q).trans hw2
          simp only [] at h
          split at h
          · cases e3 : pa n d q with
            | none => rw [e3] at h; cases h
            | some y =>
              rw [e3] at h
              injection h with h; injection h with h3 h4; subst h4
              exact (ia _ _ y.1 y.2 e3).trans hq
          · split at h
            · injection h with h; injection h with h3 h4; subst h4; exact hq
            · cases h
    · rw [po] at h
      have hw := ws_sb l
      cases e0 : ws l with
      | nil => rw [e0] at h; cases h
      | cons c0 q0 =>
        rw [e0] at h hw
        have hq0 := (Sb.cons c0 q0).trans hw
        simp only [] at h
        split at h
        · cases e1 : rs false q0 with
          | none => rw [e1] at h; cases h
          | some k =>
            rw [e1] at h
            have hk := (rs_sb q0 false k.1 k.2 e1).trans hq0
            have hw1 := (ws_sb k.2).trans hk
            simp only [] at h
            cases e2 : ws k.2 with
            | nil => rw [e2] at h; cases h
            | cons c2 q2 =>
              rw [e2] at h hw1
              have hq2 := (Sb.cons c2 q2).trans hw1
              simp only [] at h
              split at h
              · have hw2 := (ws_sb q2).trans hq2
                cases e : pv n d (ws q2) with
                | none => rw [e] at h; cases h
                | some x =>
                  rw [e] at h
                  have h1 := (iv _ _ x.1 x.2 e).trans hw2
                  have hw3 := (ws_sb x.2).trans h1
                  simp only [] at h
                  cases e3 : ws x.2 with
                  | nil => rw [e3] at h; cases h
                  | cons c q =>
                    rw [e3] at h hw3
                    have hq := (Sb.cons c q).trans hw3
                    simp only [] at h
                    split at h
                    · cases e4 : po n d q with
                      | none => rw [e4] at h; cases h
                      | some y =>
                        rw [e4] at h
                        injection h with h; injection h with h3 h4; subst h4
                        exact (io _ _ y.1 y.2 e4).trans hq
                    · split at h
                      · injection h with h; injection h with h3 h4; subst h4; exact hq
                      · cases h
              · cases h
        · cases h
theorem bs_of {s : ByteArray} {r : L} (h : Sb r (bytesOf s)) : bytesOf (strOfNums r) = r := bytes_of_str r fun x hx => bytesOf_range s x (h x hx)
theorem sz_of (r : L) : (strOfNums r).size = r.length := by unfold strOfNums; simp [ByteArray.size]

def PvPost (w0 : World) (A : Nat) (pb : Value) (W : World) (vs : Value) (n len : Nat) (r : Option (T × L)) (e : Ending) (w' : World) : Prop :=
  Below w0.heap.size w0 w' ∧ match r with
    | some x => ∃ b o vs' n', e = .returned (.tuple #[.pointer (some ⟨b, o, none⟩), .string (strOfNums x.2), .nilIface]) ∧ St w0 A w' pb vs' n' ∧ n' + x.2.length ≤ n + len ∧ Fr A W vs w' vs' ∧ rep w' (fun i j => Old A w' vs' i j ∧ ¬ Old A W vs i j) x.1 b o
    | none => Tk W w' ∧ ∃ a N, e = .returned (.tuple #[.pointer none, .string a, eI N])
theorem pv_none {w0 W w' : World} {A n len N : Nat} {pb vs : Value} {r : Option (T × L)} {e : Ending} {a : ByteArray} (hr : r = none) (hb : Below w0.heap.size w0 w') (tk : Tk W w') (h : e = .returned (.tuple #[.pointer none, .string a, eI N])) : PvPost w0 A pb W vs n len r e w' := by
  subst hr; exact ⟨hb, tk, a, N, h⟩
theorem pv_noneB {w0 W w' : World} {A n len N : Nat} {pb vs : Value} {r : Option (T × L)} {e : Ending} {a : ByteArray} (hr : r = none) (hs : St w0 A W pb vs n) (hb : Below W.heap.size W w') (h : e = .returned (.tuple #[.pointer none, .string a, eI N])) : PvPost w0 A pb W vs n len r e w' := pv_none hr (below_step hs.bel hb) (Tk.below hb) h
theorem pv_some {w0 W w' : World} {A n n' len b o : Nat} {pb vs vs' : Value} {r : Option (T × L)} {x : T × L} {e : Ending} (hr : r = some x) (h : e = .returned (.tuple #[.pointer (some ⟨b, o, none⟩), .string (strOfNums x.2), .nilIface])) (hs : St w0 A w' pb vs' n') (hn : n' + x.2.length ≤ n + len) (hf : Fr A W vs w' vs') (hp : rep w' (fun i j => Old A w' vs' i j ∧ ¬ Old A W vs i j) x.1 b o) : PvPost w0 A pb W vs n len r e w' := by
  subst hr; exact ⟨hs.bel, b, o, vs', n', h, hs, hn, hf, hp⟩
theorem rep_new {W W1 W2 : World} {A b o : Nat} {vs vs1 vs2 : Value} {t : T} (f : Fr A W vs W1 vs1) (h : rep W2 (fun i j => Old A W2 vs2 i j ∧ ¬ Old A W1 vs1 i j) t b o) : rep W2 (fun i j => Old A W2 vs2 i j ∧ ¬ Old A W vs i j) t b o :=
  rep_keep (fun i j hq => ⟨⟨hq.1, fun e => hq.2 (e.fr f)⟩, rfl, fun _ h => h⟩) t b o h
/-- The end of a walk at a leaf of the cache. -/
theorem leaf_end {w0 W W1 W2 : World} {A n len b o : Nat} {pb vs vs2 : Value} {r : Option (T × L)} {k : Int} {a q : L} {e : Ending} (hr : r = some (.leaf k a, q)) (hq : n + 1 + q.length ≤ n + len) (f : Fr A W vs W1 vs) (h : Nd w0 A pb W1 vs W2 vs2 (n + 1) b o) (he : e = .returned (.tuple #[.pointer (some ⟨b, o, none⟩), .string (strOfNums q), .nilIface]))
    (ld : Nd w0 A pb W1 vs ((W2.setCell ⟨b, o + 4, none⟩ (.int .i64 k)).setCell ⟨b, o + 3, none⟩ (.string (strOfNums a))) vs2 (n + 1) b o ∧ rep ((W2.setCell ⟨b, o + 4, none⟩ (.int .i64 k)).setCell ⟨b, o + 3, none⟩ (.string (strOfNums a))) (fun i j => Old A ((W2.setCell ⟨b, o + 4, none⟩ (.int .i64 k)).setCell ⟨b, o + 3, none⟩ (.string (strOfNums a))) vs2 i j ∧ ¬ Old A W1 vs i j) (.leaf k a) b o) :
    PvPost w0 A pb W vs n len r e ((W2.setCell ⟨b, o + 4, none⟩ (.int .i64 k)).setCell ⟨b, o + 3, none⟩ (.string (strOfNums a))) :=
  pv_some (x := (.leaf k a, q)) hr he ld.1.st hq (f.trans ld.1.fr) (rep_new f ld.2)
/-- A leaf of the cache is written. -/
theorem leaf_done {w0 W0 W : World} {A n b o : Nat} {pb vs0 vs : Value} (h : Nd w0 A pb W0 vs0 W vs n b o) (k : Int) (a : L) :
    Nd w0 A pb W0 vs0 ((W.setCell ⟨b, o + 4, none⟩ (.int .i64 k)).setCell ⟨b, o + 3, none⟩ (.string (strOfNums a))) vs n b o ∧ rep ((W.setCell ⟨b, o + 4, none⟩ (.int .i64 k)).setCell ⟨b, o + 3, none⟩ (.string (strOfNums a))) (fun i j => Old A ((W.setCell ⟨b, o + 4, none⟩ (.int .i64 k)).setCell ⟨b, o + 3, none⟩ (.string (strOfNums a))) vs i j ∧ ¬ Old A W0 vs0 i j) (.leaf k a) b o := by
  have h1 := h.set 4 (by omega) (.int .i64 k)
  have h2 := h1.set 3 (by omega) (.string (strOfNums a))
  refine ⟨h2, ?_⟩
  rw [rep]
  exact ⟨h2.v, ⟨h1.same 3 (by omega) _, h2.old 3 (by omega), h2.new 3 (by omega)⟩, (Nd.other 4 3 (by omega) _).trans (h.same 4 (by omega) _), h2.old 4 (by omega), h2.new 4 (by omega)⟩
/-- A word's value is a block of its own. -/
theorem word_done {w0 W W1 : World} {A n : Nat} {pb vs : Value} (h : St w0 A W pb vs n) (k : Int) (hb : Below W.heap.size W W1) (e : W1.heap[W.heap.size]? = some (.cells #[.slice none 0 0, .bool false, .slice none 0 0, .string ⟨#[]⟩, .int .i64 k] tV (0, 0))) :
    St w0 A W1 pb vs n ∧ Fr A W vs W1 vs ∧ rep W1 (fun i j => Old A W1 vs i j ∧ ¬ Old A W vs i j) (.leaf k []) W.heap.size 0 := by
  refine ⟨h.below hb, h.frb hb, ?_⟩
  have hO : ∀ j, Old A W1 vs W.heap.size j ∧ ¬ Old A W vs W.heap.size j := fun j => ⟨⟨blk_lt e, by have := h.lt; omega, fun B m hv eb => by
    obtain ⟨_, _, Y, ey⟩ := h.len hv
    have := blk_lt ey
    omega⟩, fun q => absurd q.1 (by omega)⟩
  rw [rep]
  exact ⟨⟨⟨_, e⟩, rfl⟩, ⟨(blk_cell e 3).trans rfl, hO _⟩, (blk_cell e 4).trans rfl, hO _⟩
/-- Facts on a text that begins with a byte. -/
theorem head_facts {s : ByteArray} {c : Int} {t : L} (h : bytesOf s = c :: t) : s.size = t.length + 1 ∧ (∀ W : World, (Instr.index 9 (.string s) (.int .i64 0)).run Tryz.prog W = .ok (.int .u8 c) W) ∧ (∀ W : World, (Instr.slice 9 (.string s) (some (.int .i64 1)) none none).run Tryz.prog W = .ok (.string (strOfNums t)) W) := by
  have hz : s.size = t.length + 1 := by rw [← bytesOf_length, h]; rfl
  refine ⟨hz, fun W => ?_, fun W => ?_⟩
  · rw [ix s 0 (by omega) (by omega) W]
    have := bytesOf_get? s 0 (by omega)
    rw [h] at this
    rw [Option.some.inj this]; rfl
  · rw [sl_fromI s 1 (by omega) (by omega) W, show (1 : Int).toNat = ([c] : L).length from rfl, ext_from s [c] t (by rw [h]; rfl)]
set_option maxHeartbeats 8000000 in
set_option maxRecDepth 100000 in
theorem pvStr_any (w0 W : World) (A n d : Nat) (pb vs : Value) (s : ByteArray) (t : L) (hs : bytesOf s = 34 :: t) (h1 : s.size ≤ 100000) (hd : d < 300) (h : St w0 A W pb vs n) (hn : n + s.size ≤ 100000) :
    Calls Tryz.prog 69 #[.pointer (some ⟨A, 1, none⟩), .string s, .int .i64 (d : Int)] W (PvPost w0 A pb W vs n s.size ((rs false t).map fun x => (.leaf 7 x.1, x.2))) := by
  obtain ⟨hz, k0, k1⟩ := head_facts hs
  have hz0 : ((s.size : Int) == 0) = false := beq_eq_false_iff_ne.mpr (by omega)
  have hd2 : decide ((300 : Int) < (d : Int) + 1) = false := decide_eq_false (by omega)
  have hbt : bytesOf (strOfNums t) = t := bs_of (s := s) (by rw [hs]; exact Sb.cons _ _)
  have HS := Lib.hid (fun W => rawStr_any (strOfNums t) (by rw [sz_of]; omega) W)
  rw [hbt] at HS
  have HT := Lib.hid h
  cases hr : rs false t with
  | none =>
    rw [hr] at HS
    have HE : Hid (∀ W, Calls Tryz.prog 95 #[.string (strOfNums t)] W fun e w' => (∃ a b N, e = .returned (.tuple #[.string a, .string b, eI N])) ∧ Below W.heap.size W w') := Lib.hid fun W => (HS.out W).mono fun e w' h => ⟨h.2, h.1⟩
    clear hs h hr HS hbt
    go_enter Tryz.func69, Tryz.ntmps69
    go_wp2_with (first
      | (go_at_call 95; refine (HE.out _).mono ?_; rintro e w1 ⟨⟨a, b, N, rfl⟩, hb⟩; have HB := Lib.hid hb; clear hb)
      | (go_at_call 54; refine (new_any _ _).mono ?_; rintro e w2 ⟨⟨N2, rfl⟩, hb⟩; have HB2 := Lib.hid (below_step HB.out hb); clear hb))
    go_ret3
    exact pv_noneB rfl HT.out HB2.out rfl
  | some x =>
    rw [hr] at HS
    have hlen := rs_len t false x.1 x.2 hr
    have HE : Hid (∀ W, Calls Tryz.prog 95 #[.string (strOfNums t)] W fun e w' => e = .returned (.tuple #[.string (strOfNums x.1), .string (strOfNums x.2), .nilIface]) ∧ Below W.heap.size W w') := Lib.hid fun W => (HS.out W).mono fun e w' h => ⟨h.2, h.1⟩
    have HN := Lib.hid (show n + 1 + x.2.length ≤ n + s.size by omega)
    have HN2 := Lib.hid (show n ≤ 100000 by omega)
    clear hs h hr HS hbt hlen hn
    go_enter Tryz.func69, Tryz.ntmps69
    go_upto_region 22 with (first
      | (go_at_call 95; refine (HE.out _).mono ?_; rintro e w1 ⟨rfl, hb⟩; have H1 := Lib.hid (HT.out.below hb); have F1 := Lib.hid (HT.out.frb hb); clear hb)
      | (go_at_call 81; refine (gv_any H1.out HN2.out).mono ?_; rintro e w2 ⟨B, vs', o, rfl, ho, hg⟩; have HD := Lib.hid (Nd.of_gv H1.out hg ho); have hf4 := HD.out.frozen 4; obtain ⟨u4, hu4⟩ := HD.out.some_cell 4 (by omega); clear ho hg))
    clear hu4 hf4
    have HN3 := Lib.hid (HD.out.set 4 (by omega) (.int .i64 7))
    have hf3 := HN3.out.frozen 3
    obtain ⟨u3, hu3⟩ := HN3.out.some_cell 3 (by omega)
    go_wp2
    go_ret3
    exact leaf_end rfl HN.out F1.out HD.out rfl (leaf_done HD.out 7 _)
end Go.Proofs.YtcaigeikdnoheaaGreatDoor.Fp

set_option linter.unusedVariables false
set_option linter.unusedSimpArgs false
namespace Go.Proofs.YtcaigeikdnoheaaGreatDoor.Fp
open Go.RowKit Go.Proofs.YtcaigeikdnoheaaGreatDoorW.PrintWords Go.Proofs.YtcaigeikdnoheaaGreatDoorW.PrintLast Go.Proofs.YtcaigeikdnoheaaGreatDoorW.PrintMore Go.Proofs.YtcaigeikdnoheaaGreatDoor.Aid Go.Proofs.YtcaigeikdnoheaaGreatDoor.J

theorem str_eq (x : ByteArray) (w : List UInt8) : (x.toList == w) = decide (bytesOf x = w.map fun b => (b.toNat : Int)) := by
  rw [ByteArray.toList_eq, Bool.eq_iff_iff, beq_iff_eq, decide_eq_true_eq]
  constructor
  · intro h; unfold bytesOf; rw [h]
  · intro h
    unfold bytesOf at h
    exact (List.map_inj_right (fun x y hxy => by
      have : x.toNat = y.toNat := by omega
      exact UInt8.toNat_inj.1 this)).1 h
theorem sl_take (s : ByteArray) (k : Nat) (h : k ≤ s.size) (W : World) : (Instr.slice 9 (.string s) none (some (.int .i64 (k : Int))) none).run Tryz.prog W = .ok (.string (strOfNums ((bytesOf s).take k))) W := by
  rw [sl_to s k h W]
  have := ext_to s ((bytesOf s).take k) ((bytesOf s).drop k) (List.take_append_drop k _).symm
  rw [take_len s k h] at this
  rw [this]
theorem sl_drop (s : ByteArray) (k : Nat) (h : k ≤ s.size) (W : World) : (Instr.slice 9 (.string s) (some (.int .i64 (k : Int))) none none).run Tryz.prog W = .ok (.string (strOfNums ((bytesOf s).drop k))) W := by
  rw [sl_from s k h W, ext_str]; rfl
set_option maxHeartbeats 8000000 in
set_option maxRecDepth 100000 in
theorem pvNum_any (w0 W : World) (A n d : Nat) (pb vs : Value) (s : ByteArray) (c : Int) (t : L) (hs : bytesOf s = c :: t) (g1 : c ≠ 123) (g2 : c ≠ 91) (g3 : c ≠ 34) (g4 : c ≠ 116) (g5 : c ≠ 102) (g6 : c ≠ 110) (h1 : s.size ≤ 100000) (hd : d < 300) (h : St w0 A W pb vs n) (hn : n + s.size ≤ 100000) :
    Calls Tryz.prog 69 #[.pointer (some ⟨A, 1, none⟩), .string s, .int .i64 (d : Int)] W (PvPost w0 A pb W vs n s.size ((num (c :: t)).map fun x => (.leaf 4 x.1, x.2))) := by
  obtain ⟨hz, k0, k1⟩ := head_facts hs
  have hz0 : ((s.size : Int) == 0) = false := beq_eq_false_iff_ne.mpr (by omega)
  have hd2 : decide ((300 : Int) < (d : Int) + 1) = false := decide_eq_false (by omega)
  have HS := Lib.hid (fun W => rawNum_any s h1 (by omega) W)
  rw [hs] at HS
  have HT := Lib.hid h
  have e1 : (c == 123) = false := beq_eq_false_iff_ne.mpr g1
  have e2 : (c == 91) = false := beq_eq_false_iff_ne.mpr g2
  have e3 : (c == 34) = false := beq_eq_false_iff_ne.mpr g3
  have e4 : (c == 116) = false := beq_eq_false_iff_ne.mpr g4
  have e5 : (c == 102) = false := beq_eq_false_iff_ne.mpr g5
  have e6 : (c == 110) = false := beq_eq_false_iff_ne.mpr g6
  cases hr : num (c :: t) with
  | none =>
    rw [hr] at HS
    have HE : Hid (∀ W, Calls Tryz.prog 97 #[.string s] W fun e w' => (∃ a b N, e = .returned (.tuple #[.string a, .string b, eI N])) ∧ Below W.heap.size W w') := Lib.hid fun W => (HS.out W).mono fun e w' h => ⟨h.2, h.1⟩
    clear hs h hr HS hz g1 g2 g3 g4 g5 g6
    go_enter Tryz.func69, Tryz.ntmps69
    go_wp2_with (first
      | (go_at_call 97; refine (HE.out _).mono ?_; rintro e w1 ⟨⟨a, b, N, rfl⟩, hb⟩; have HB := Lib.hid hb; clear hb)
      | (go_at_call 54; refine (new_any _ _).mono ?_; rintro e w2 ⟨⟨N2, rfl⟩, hb⟩; have HB2 := Lib.hid (below_step HB.out hb); clear hb))
    go_ret3
    exact pv_noneB rfl HT.out HB2.out rfl
  | some x =>
    rw [hr] at HS
    have hlen := num_len (a := x.1) (r := x.2) hr (by simp)
    rw [← hs, bytesOf_length] at hlen
    have HE : Hid (∀ W, Calls Tryz.prog 97 #[.string s] W fun e w' => e = .returned (.tuple #[.string (strOfNums x.1), .string (strOfNums x.2), .nilIface]) ∧ Below W.heap.size W w') := Lib.hid fun W => (HS.out W).mono fun e w' h => ⟨h.2, h.1⟩
    have HN := Lib.hid (show n + 1 + x.2.length ≤ n + s.size by omega)
    have HN2 := Lib.hid (show n ≤ 100000 by omega)
    clear hs h hr HS hlen hn hz g1 g2 g3 g4 g5 g6
    go_enter Tryz.func69, Tryz.ntmps69
    go_upto_region 46 with (first
      | (go_at_call 97; refine (HE.out _).mono ?_; rintro e w1 ⟨rfl, hb⟩; have H1 := Lib.hid (HT.out.below hb); have F1 := Lib.hid (HT.out.frb hb); clear hb)
      | (go_at_call 81; refine (gv_any H1.out HN2.out).mono ?_; rintro e w2 ⟨B, vs', o, rfl, ho, hg⟩; have HD := Lib.hid (Nd.of_gv H1.out hg ho); have hf4 := HD.out.frozen 4; obtain ⟨u4, hu4⟩ := HD.out.some_cell 4 (by omega); clear ho hg))
    clear hu4 hf4
    have HN3 := Lib.hid (HD.out.set 4 (by omega) (.int .i64 4))
    have hf3 := HN3.out.frozen 3
    obtain ⟨u3, hu3⟩ := HN3.out.some_cell 3 (by omega)
    go_wp2
    go_ret3
    exact leaf_end rfl HN.out F1.out HD.out rfl (leaf_done HD.out 4 _)
set_option maxHeartbeats 8000000 in
set_option maxRecDepth 100000 in
theorem pvTrue_any (w0 W : World) (A n d : Nat) (pb vs : Value) (s : ByteArray) (t : L) (hs : bytesOf s = 116 :: t) (h1 : s.size ≤ 100000) (hd : d < 300) (h : St w0 A W pb vs n) (hn : n + s.size ≤ 100000) :
    Calls Tryz.prog 69 #[.pointer (some ⟨A, 1, none⟩), .string s, .int .i64 (d : Int)] W (PvPost w0 A pb W vs n s.size (if (116 :: t).take 4 = wTrue then some (.leaf 5 [], (116 :: t).drop 4) else none)) := by
  obtain ⟨hz, k0, k1⟩ := head_facts hs
  have hz0 : ((s.size : Int) == 0) = false := beq_eq_false_iff_ne.mpr (by omega)
  have hd2 : decide ((300 : Int) < (d : Int) + 1) = false := decide_eq_false (by omega)
  have HT := Lib.hid h
  obtain ⟨res, hres⟩ : ∃ res, res = (if (116 :: t).take 4 = wTrue then some (T.leaf 5 [], (116 :: t).drop 4) else none) := ⟨_, rfl⟩
  rw [← hres]
  by_cases h4 : s.size < 4
  · have hg : Hid (res = none) := Lib.hid (by
      rw [hres, if_neg]
      intro e
      have := congrArg List.length e
      rw [List.length_take] at this
      simp only [List.length_cons, wTrue, List.length_nil] at this
      omega)
    have d1 : decide ((s.size : Int) < 4) = true := decide_eq_true (by omega)
    have d2 : decide (s.size < 4) = true := decide_eq_true h4
    clear hs h hz hn h4 hres
    go_enter Tryz.func69, Tryz.ntmps69
    go_wp2_with (go_at_call 54; refine (new_any _ _).mono ?_; rintro e w2 ⟨⟨N2, rfl⟩, hb⟩; have HB2 := Lib.hid hb; clear hb)
    go_ret3
    exact pv_noneB hg.out HT.out HB2.out rfl
  have d1 : decide ((s.size : Int) < 4) = false := decide_eq_false (by omega)
  have d2 : decide (s.size < 4) = false := decide_eq_false h4
  have k4 : ∀ W : World, (Instr.slice 9 (.string s) none (some (.int .i64 4)) none).run Tryz.prog W = .ok (.string (strOfNums ((bytesOf s).take 4))) W := fun W => sl_take s 4 (by omega) W
  have k5 : ∀ W : World, (Instr.slice 9 (.string s) (some (.int .i64 4)) none none).run Tryz.prog W = .ok (.string (strOfNums ((bytesOf s).drop 4))) W := fun W => sl_drop s 4 (by omega) W
  rw [hs] at k4 k5
  have kk : bytesOf (strOfNums ((116 :: t).take 4)) = (116 :: t).take 4 := bs_of (s := s) (by rw [hs]; intro x hx; exact List.mem_of_mem_take hx)
  have eq4 : ((strOfNums ((116 :: t).take 4)).toList == [116, 114, 117, 101]) = decide (bytesOf (strOfNums ((116 :: t).take 4)) = wTrue) := str_eq _ _
  rw [kk] at eq4
  by_cases e4 : (116 :: t).take 4 = wTrue
  · have hg : Hid (res = some (T.leaf 5 [], (116 :: t).drop 4)) := Lib.hid (by rw [hres, if_pos e4])
    rw [decide_eq_true e4] at eq4
    have HL := Lib.hid (show n + ((116 :: t).drop 4).length ≤ n + s.size by rw [← hs, List.length_drop, bytesOf_length]; omega)
    generalize strOfNums ((116 :: t).take 4) = x4 at k4 eq4
    generalize (116 :: t).drop 4 = q at k5 HL hg
    clear hs h hz hn h4 kk e4 hres
    go_enter Tryz.func69, Tryz.ntmps69
    go_upto_region 27 with (fail)
    go_region
    all_goals
      go_wp2
      go_ret3
      obtain ⟨s1, s2, s3⟩ := word_done HT.out 5 (below_alloc (below_drew (Below.refl _ _)) (.cells #[.slice none 0 0, .bool false, .slice none 0 0, .string ⟨#[]⟩, .int .i64 5] tV)) (blk_new W.drew _)
      exact pv_some hg.out rfl s1 HL.out s2 s3
  · have hg : Hid (res = none) := Lib.hid (by rw [hres, if_neg e4])
    rw [decide_eq_false e4] at eq4
    generalize strOfNums ((116 :: t).take 4) = x4 at k4 eq4
    clear hs h hz hn h4 kk e4 k5 hres
    go_enter Tryz.func69, Tryz.ntmps69
    go_wp2_with (go_at_call 54; refine (new_any _ _).mono ?_; rintro e w2 ⟨⟨N2, rfl⟩, hb⟩; have HB2 := Lib.hid hb; clear hb)
    go_ret3
    exact pv_noneB hg.out HT.out HB2.out rfl
set_option maxHeartbeats 8000000 in
set_option maxRecDepth 100000 in
theorem pvFalse_any (w0 W : World) (A n d : Nat) (pb vs : Value) (s : ByteArray) (t : L) (hs : bytesOf s = 102 :: t) (h1 : s.size ≤ 100000) (hd : d < 300) (h : St w0 A W pb vs n) (hn : n + s.size ≤ 100000) :
    Calls Tryz.prog 69 #[.pointer (some ⟨A, 1, none⟩), .string s, .int .i64 (d : Int)] W (PvPost w0 A pb W vs n s.size (if (102 :: t).take 5 = wFalse then some (.leaf 6 [], (102 :: t).drop 5) else none)) := by
  obtain ⟨hz, k0, k1⟩ := head_facts hs
  have hz0 : ((s.size : Int) == 0) = false := beq_eq_false_iff_ne.mpr (by omega)
  have hd2 : decide ((300 : Int) < (d : Int) + 1) = false := decide_eq_false (by omega)
  have HT := Lib.hid h
  obtain ⟨res, hres⟩ : ∃ res, res = (if (102 :: t).take 5 = wFalse then some (T.leaf 6 [], (102 :: t).drop 5) else none) := ⟨_, rfl⟩
  rw [← hres]
  by_cases h4 : s.size < 5
  · have hg : Hid (res = none) := Lib.hid (by
      rw [hres, if_neg]
      intro e
      have := congrArg List.length e
      rw [List.length_take] at this
      simp only [List.length_cons, wFalse, List.length_nil] at this
      omega)
    have d1 : decide ((s.size : Int) < 5) = true := decide_eq_true (by omega)
    have d2 : decide (s.size < 5) = true := decide_eq_true h4
    clear hs h hz hn h4 hres
    go_enter Tryz.func69, Tryz.ntmps69
    go_wp2_with (go_at_call 54; refine (new_any _ _).mono ?_; rintro e w2 ⟨⟨N2, rfl⟩, hb⟩; have HB2 := Lib.hid hb; clear hb)
    go_ret3
    exact pv_noneB hg.out HT.out HB2.out rfl
  have d1 : decide ((s.size : Int) < 5) = false := decide_eq_false (by omega)
  have d2 : decide (s.size < 5) = false := decide_eq_false h4
  have k4 : ∀ W : World, (Instr.slice 9 (.string s) none (some (.int .i64 5)) none).run Tryz.prog W = .ok (.string (strOfNums ((bytesOf s).take 5))) W := fun W => sl_take s 5 (by omega) W
  have k5 : ∀ W : World, (Instr.slice 9 (.string s) (some (.int .i64 5)) none none).run Tryz.prog W = .ok (.string (strOfNums ((bytesOf s).drop 5))) W := fun W => sl_drop s 5 (by omega) W
  rw [hs] at k4 k5
  have kk : bytesOf (strOfNums ((102 :: t).take 5)) = (102 :: t).take 5 := bs_of (s := s) (by rw [hs]; intro x hx; exact List.mem_of_mem_take hx)
  have eq4 : ((strOfNums ((102 :: t).take 5)).toList == [102, 97, 108, 115, 101]) = decide (bytesOf (strOfNums ((102 :: t).take 5)) = wFalse) := str_eq _ _
  rw [kk] at eq4
  by_cases e4 : (102 :: t).take 5 = wFalse
  · have hg : Hid (res = some (T.leaf 6 [], (102 :: t).drop 5)) := Lib.hid (by rw [hres, if_pos e4])
    rw [decide_eq_true e4] at eq4
    have HL := Lib.hid (show n + ((102 :: t).drop 5).length ≤ n + s.size by rw [← hs, List.length_drop, bytesOf_length]; omega)
    generalize strOfNums ((102 :: t).take 5) = x4 at k4 eq4
    generalize (102 :: t).drop 5 = q at k5 HL hg
    clear hs h hz hn h4 kk e4 hres
    go_enter Tryz.func69, Tryz.ntmps69
    go_upto_region 31 with (fail)
    go_region
    all_goals
      go_wp2
      go_ret3
      obtain ⟨s1, s2, s3⟩ := word_done HT.out 6 (below_alloc (below_drew (Below.refl _ _)) (.cells #[.slice none 0 0, .bool false, .slice none 0 0, .string ⟨#[]⟩, .int .i64 6] tV)) (blk_new W.drew _)
      exact pv_some hg.out rfl s1 HL.out s2 s3
  · have hg : Hid (res = none) := Lib.hid (by rw [hres, if_neg e4])
    rw [decide_eq_false e4] at eq4
    generalize strOfNums ((102 :: t).take 5) = x4 at k4 eq4
    clear hs h hz hn h4 kk e4 k5 hres
    go_enter Tryz.func69, Tryz.ntmps69
    go_wp2_with (go_at_call 54; refine (new_any _ _).mono ?_; rintro e w2 ⟨⟨N2, rfl⟩, hb⟩; have HB2 := Lib.hid hb; clear hb)
    go_ret3
    exact pv_noneB hg.out HT.out HB2.out rfl
set_option maxHeartbeats 16000000 in
set_option maxRecDepth 100000 in
theorem pvNull_any (w0 W : World) (A n d : Nat) (pb vs : Value) (s : ByteArray) (t : L) (hs : bytesOf s = 110 :: t) (h1 : s.size ≤ 100000) (hd : d < 300) (h : St w0 A W pb vs n) (hn : n + s.size ≤ 100000) :
    Calls Tryz.prog 69 #[.pointer (some ⟨A, 1, none⟩), .string s, .int .i64 (d : Int)] W (PvPost w0 A pb W vs n s.size (if (110 :: t).take 4 = wNull then some (.leaf 0 [], (110 :: t).drop 4) else if fold3 wNan (110 :: t) then some (.leaf 4 ((110 :: t).take 3), (110 :: t).drop 3) else none)) := by
  obtain ⟨hz, k0, k1⟩ := head_facts hs
  have hz0 : ((s.size : Int) == 0) = false := beq_eq_false_iff_ne.mpr (by omega)
  have hd2 : decide ((300 : Int) < (d : Int) + 1) = false := decide_eq_false (by omega)
  have HT := Lib.hid h
  obtain ⟨res, hres⟩ : ∃ res, res = (if (110 :: t).take 4 = wNull then some (T.leaf 0 [], (110 :: t).drop 4) else if fold3 wNan (110 :: t) then some (T.leaf 4 ((110 :: t).take 3), (110 :: t).drop 3) else none) := ⟨_, rfl⟩
  rw [← hres]
  have hx : (decide ((s.size : Int) < 4) = true ∧ decide (s.size < 4) = true ∧ (110 :: t).take 4 ≠ wNull) ∨ (∃ x4 : ByteArray, decide ((s.size : Int) < 4) = false ∧ decide (s.size < 4) = false ∧ (∀ W : World, (Instr.slice 9 (.string s) none (some (.int .i64 4)) none).run Tryz.prog W = .ok (.string x4) W) ∧ (x4.toList == [110, 117, 108, 108]) = decide ((110 :: t).take 4 = wNull)) := by
    by_cases h4 : s.size < 4
    · refine .inl ⟨decide_eq_true (by omega), decide_eq_true h4, fun e => ?_⟩
      have := congrArg List.length e
      rw [List.length_take] at this
      simp only [List.length_cons, wNull, List.length_nil] at this
      omega
    · have k4 : ∀ W : World, (Instr.slice 9 (.string s) none (some (.int .i64 4)) none).run Tryz.prog W = .ok (.string (strOfNums ((bytesOf s).take 4))) W := fun W => sl_take s 4 (by omega) W
      rw [hs] at k4
      have kk : bytesOf (strOfNums ((110 :: t).take 4)) = (110 :: t).take 4 := bs_of (s := s) (by rw [hs]; intro x hx; exact List.mem_of_mem_take hx)
      have eq4 : ((strOfNums ((110 :: t).take 4)).toList == [110, 117, 108, 108]) = decide (bytesOf (strOfNums ((110 :: t).take 4)) = wNull) := str_eq _ _
      rw [kk] at eq4
      exact .inr ⟨_, decide_eq_false (by omega), decide_eq_false h4, k4, eq4⟩
  by_cases e4 : (110 :: t).take 4 = wNull
  · rcases hx with ⟨_, _, hx⟩ | ⟨x4, d1, d2, k4, eq4⟩
    · exact absurd e4 hx
    have hg : Hid (res = some (T.leaf 0 [], (110 :: t).drop 4)) := Lib.hid (by rw [hres, if_pos e4])
    rw [decide_eq_true e4] at eq4
    have hsz : 4 ≤ s.size := by have := of_decide_eq_false d2; omega
    have k5 : ∀ W : World, (Instr.slice 9 (.string s) (some (.int .i64 4)) none none).run Tryz.prog W = .ok (.string (strOfNums ((bytesOf s).drop 4))) W := fun W => sl_drop s 4 hsz W
    rw [hs] at k5
    have HL := Lib.hid (show n + ((110 :: t).drop 4).length ≤ n + s.size by rw [← hs, List.length_drop, bytesOf_length]; omega)
    generalize (110 :: t).drop 4 = q at k5 HL hg
    clear hs h hz hn e4 hres hsz
    go_enter Tryz.func69, Tryz.ntmps69
    go_upto_region 40 with (fail)
    go_region
    all_goals
      go_wp2
      go_ret3
      obtain ⟨s1, s2, s3⟩ := word_done HT.out 0 (below_alloc (below_drew (Below.refl _ _)) (.cells #[.slice none 0 0, .bool false, .slice none 0 0, .string ⟨#[]⟩, .int .i64 0] tV)) (blk_new W.drew _)
      exact pv_some hg.out rfl s1 HL.out s2 s3
  rw [if_neg e4] at hres
  have hy : (decide ((s.size : Int) < 4) = true ∧ decide (s.size < 4) = true) ∨ (∃ x4 : ByteArray, decide ((s.size : Int) < 4) = false ∧ decide (s.size < 4) = false ∧ (∀ W : World, (Instr.slice 9 (.string s) none (some (.int .i64 4)) none).run Tryz.prog W = .ok (.string x4) W) ∧ (x4.toList == [110, 117, 108, 108]) = false) := by
    rcases hx with ⟨a1, a2, _⟩ | ⟨x4, a1, a2, a3, a4⟩
    · exact .inl ⟨a1, a2⟩
    · exact .inr ⟨x4, a1, a2, a3, by rw [a4, decide_eq_false e4]⟩
  have hl : (110 :: t).length = s.size := by rw [hz]; rfl
  by_cases h3 : s.size < 3
  · have hg : Hid (res = none) := Lib.hid (by
      rw [hres, if_neg]
      unfold fold3
      rw [decide_eq_false (by omega), Bool.false_and]
      decide)
    have d3 : decide ((3 : Int) ≤ (s.size : Int)) = false := decide_eq_false (by omega)
    have d4 : decide (3 ≤ s.size) = false := decide_eq_false (by omega)
    clear hs h hz hn e4 hres hx hl h3
    rcases hy with ⟨d1, d2⟩ | ⟨x4, d1, d2, k4, eq4⟩
    all_goals
      go_enter Tryz.func69, Tryz.ntmps69
      go_wp2_with (go_at_call 54; refine (new_any _ _).mono ?_; rintro e w2 ⟨⟨N2, rfl⟩, hb⟩; have HB2 := Lib.hid hb; clear hb)
      go_ret3
      exact pv_noneB hg.out HT.out HB2.out rfl
  have d3 : decide ((3 : Int) ≤ (s.size : Int)) = true := decide_eq_true (by omega)
  have d4 : decide (3 ≤ s.size) = true := decide_eq_true (by omega)
  have k6 : ∀ W : World, (Instr.slice 9 (.string s) none (some (.int .i64 3)) none).run Tryz.prog W = .ok (.string (strOfNums ((bytesOf s).take 3))) W := fun W => sl_take s 3 (by omega) W
  have k7 : ∀ W : World, (Instr.slice 9 (.string s) (some (.int .i64 3)) none none).run Tryz.prog W = .ok (.string (strOfNums ((bytesOf s).drop 3))) W := fun W => sl_drop s 3 (by omega) W
  rw [hs] at k6 k7
  have k6b : bytesOf (strOfNums ((110 :: t).take 3)) = (110 :: t).take 3 := bs_of (s := s) (by rw [hs]; intro x hx; exact List.mem_of_mem_take hx)
  have z6 : (strOfNums ((110 :: t).take 3)).size = 3 := by rw [sz_of, List.length_take]; omega
  have HF := Lib.hid (fun W => fold_any (strOfNums ((110 :: t).take 3)) bNan W (by omega) (by rw [z6]; rfl))
  rw [k6b] at HF
  have hfold : fold3 wNan (110 :: t) = (((110 :: t).take 3).map low == bytesOf bNan) := by
    unfold fold3
    rw [decide_eq_true (by omega), Bool.true_and]; rfl
  rw [hfold] at hres
  generalize (((110 :: t).take 3).map low == bytesOf bNan) = bf at HF hres
  unfold bNan at HF
  have HL := Lib.hid (show n + 1 + ((110 :: t).drop 3).length ≤ n + s.size by rw [← hs, List.length_drop, bytesOf_length]; omega)
  have HN2 := Lib.hid (show n ≤ 100000 by omega)
  cases bf with
  | true =>
    have hg : Hid (res = some (T.leaf 4 ((110 :: t).take 3), (110 :: t).drop 3)) := Lib.hid (by rw [hres]; rfl)
    generalize (110 :: t).take 3 = l3 at k6 hg HF
    generalize (110 :: t).drop 3 = q at k7 hg HL
    clear hs h hz hn e4 hres hx hl h3 k6b z6 hfold
    rcases hy with ⟨d1, d2⟩ | ⟨x4, d1, d2, k4, eq4⟩
    all_goals
      go_enter Tryz.func69, Tryz.ntmps69
      go_upto_region 37 with (first
        | (go_at_call 96; refine (HF.out _).mono ?_; rintro e w1 ⟨rfl, nq, rfl⟩)
        | (go_at_call 81; refine (gv_any (HT.out.below (pw_below_drewN (Below.refl W.heap.size W) nq)) HN2.out).mono ?_; rintro e w2 ⟨B, vs', o, rfl, ho, hg⟩; have HD := Lib.hid (Nd.of_gv (HT.out.below (pw_below_drewN (Below.refl W.heap.size W) nq)) hg ho); have F1 := Lib.hid (HT.out.frb (pw_below_drewN (Below.refl W.heap.size W) nq)); have hf4 := HD.out.frozen 4; obtain ⟨u4, hu4⟩ := HD.out.some_cell 4 (by omega); clear ho hg))
      clear hu4 hf4
      have HN3 := Lib.hid (HD.out.set 4 (by omega) (.int .i64 4))
      have hf3 := HN3.out.frozen 3
      obtain ⟨u3, hu3⟩ := HN3.out.some_cell 3 (by omega)
      go_upto_region 38 with (fail)
      clear hf3 hu3
      have HE := Lib.hid (leaf_done HD.out 4 l3)
      generalize hW5 : World.setCell (World.setCell w2 _ _) _ _ = W5 at HE ⊢
      go_quiet (fail)
      go_wp2
      go_ret3
      have HK := pw_below_drewN (Below.refl W5.heap.size W5) nq
      exact pv_some hg.out rfl (HE.out.1.st.below HK) HL.out (F1.out.trans (HE.out.1.fr.below HK)) (rep_new F1.out (rep_keep (fun i j hq => ⟨⟨hq.1.below HK, hq.2⟩, HK.cell (p := ⟨i, j, none⟩) hq.1.1, fun _ h => h.below HK⟩) _ _ _ HE.out.2))
  | false =>
    have hg : Hid (res = none) := Lib.hid (by rw [hres]; rfl)
    generalize (110 :: t).take 3 = l3 at k6 HF
    clear hs h hz hn e4 hres hx hl h3 k6b z6 hfold HL k7
    rcases hy with ⟨d1, d2⟩ | ⟨x4, d1, d2, k4, eq4⟩
    all_goals
      go_enter Tryz.func69, Tryz.ntmps69
      go_wp2_with (first
        | (go_at_call 96; refine (HF.out _).mono ?_; rintro e w1 ⟨rfl, nq, rfl⟩)
        | (go_at_call 54; refine (new_any _ _).mono ?_; rintro e w2 ⟨⟨N2, rfl⟩, hb⟩; have HB2 := Lib.hid (below_step (pw_below_drewN (Below.refl W.heap.size W) nq) hb); clear hb))
      go_ret3
      exact pv_noneB hg.out HT.out HB2.out rfl
end Go.Proofs.YtcaigeikdnoheaaGreatDoor.Fp
