/- Several texts in one. -/
import Derived.Test.YtalcjolomigedaaDoorZGj
import Derived.Test.YtalcjolomigedaaDoorZGc
import Derived.Test.YtalcjolomigedaaDoorZGa
import Derived.Lib.ParseIntB
import Derived.Test.YtalcjolomigedaaDoorZGf
set_option linter.unusedVariables false
set_option linter.unusedSimpArgs false
namespace Go.Proofs.YtalcjolomigedaaDoor.Fp
open Go.RowKit Go.Proofs.YtalcjolomigedaaDoor.J

theorem blank_wsB (c : Int) : J.blank c = wsB c := by unfold J.blank wsB; cases c == 32 <;> cases c == 9 <;> cases c == 10 <;> rfl
theorem skip_ws : ∀ l : L, skip l = ws l
  | [] => rfl
  | c :: t => by
    have ih := skip_ws t
    unfold ws at ih ⊢
    rw [skip, List.dropWhile_cons, blank_wsB]
    cases wsB c <;> simp [ih]
/-- The shape of a number: a sign, digits, what is behind them. -/
structure Nm (l sg ds fr r : L) : Prop where
  eq : l = sg ++ (ds ++ (fr ++ r))
  hsg : sg = [] ∨ sg = [45]
  ne : ds ≠ []
  dg : ∀ c ∈ ds, dig c = true
  hfr : ∀ c ∈ fr, nb c = true
  hhd : ∀ c t, fr = c :: t → dig c = false
  lz : ds = [48] ∨ ∀ t, ds ≠ 48 :: t
theorem digs_pre2 : ∀ l : L, ∃ d, l = d ++ digs l ∧ ∀ c ∈ d, dig c = true
  | [] => ⟨[], rfl, fun c h => by cases h⟩
  | c :: t => by
    rw [digs]
    split
    · rename_i h
      obtain ⟨d, e, hd⟩ := digs_pre2 t
      exact ⟨c :: d, by rw [List.cons_append, ← e], fun x hx => by rcases List.mem_cons.1 hx with rfl | hx; exact h; exact hd x hx⟩
    · exact ⟨[], rfl, fun c h => by cases h⟩
theorem digits_pre2 {l r : L} (h : digits l = some r) : ∃ d, l = d ++ r ∧ d ≠ [] ∧ ∀ c ∈ d, dig c = true := by
  cases l with
  | nil => simp [digits] at h
  | cons c t =>
    rw [digits] at h
    split at h
    · rename_i hc
      injection h with h
      obtain ⟨d, e, hd⟩ := digs_pre2 t
      exact ⟨c :: d, by rw [List.cons_append, ← h, ← e], by simp, fun x hx => by rcases List.mem_cons.1 hx with rfl | hx; exact hc; exact hd x hx⟩
    · cases h
theorem nb_dig {c : Int} (h : dig c = true) : nb c = true := by unfold dig at h; unfold nb; rw [h]; rfl
theorem opt_pre (c : Int) (l : L) : ∃ d, l = d ++ opt c l ∧ (d = [] ∨ d = [c]) := by
  unfold opt
  cases h : J.take c l with
  | none => exact ⟨[], rfl, .inl rfl⟩
  | some t => exact ⟨[c], by rw [take_some h]; rfl, .inr rfl⟩
theorem expTail_pre {l r : L} (h : expTail l = some r) : ∃ d, l = d ++ r ∧ ∀ c ∈ d, nb c = true := by
  unfold expTail at h
  cases h1 : J.take 43 l with
  | some u =>
    rw [h1] at h
    obtain ⟨d, e, _, hd⟩ := digits_pre2 h
    refine ⟨43 :: d, by rw [take_some h1, e]; rfl, fun c hc => ?_⟩
    rcases List.mem_cons.1 hc with rfl | hc
    · rfl
    · exact nb_dig (hd c hc)
  | none =>
    rw [h1] at h
    obtain ⟨s, es, hs⟩ := opt_pre 45 l
    obtain ⟨d, e, _, hd⟩ := digits_pre2 h
    refine ⟨s ++ d, by rw [List.append_assoc, ← e]; exact es, fun c hc => ?_⟩
    rcases List.mem_append.1 hc with hc | hc
    · rcases hs with rfl | rfl
      · cases hc
      · rw [List.mem_singleton.1 hc]; rfl
    · exact nb_dig (hd c hc)
theorem expo_pre {l r : L} (h : expo l = some r) : ∃ d, l = d ++ r ∧ (∀ c ∈ d, nb c = true) ∧ ∀ c t, d = c :: t → c = 101 ∨ c = 69 := by
  unfold expo at h
  cases h1 : J.take 101 l with
  | some t =>
    rw [h1] at h
    obtain ⟨d, e, hd⟩ := expTail_pre h
    refine ⟨101 :: d, by rw [take_some h1, e]; rfl, fun c hc => ?_, fun c t' he => by injection he with he; exact .inl he.symm⟩
    rcases List.mem_cons.1 hc with rfl | hc
    · rfl
    · exact hd c hc
  | none =>
    rw [h1] at h
    cases h2 : J.take 69 l with
    | some t =>
      rw [h2] at h
      obtain ⟨d, e, hd⟩ := expTail_pre h
      refine ⟨69 :: d, by rw [take_some h2, e]; rfl, fun c hc => ?_, fun c t' he => by injection he with he; exact .inr he.symm⟩
      rcases List.mem_cons.1 hc with rfl | hc
      · rfl
      · exact hd c hc
    | none =>
      rw [h2] at h
      injection h with h
      exact ⟨[], by rw [h]; rfl, (fun c hc => by cases hc), (fun c t he => by cases he)⟩
theorem frac_pre {l r : L} (h : frac l = some r) : ∃ d, l = d ++ r ∧ (∀ c ∈ d, nb c = true) ∧ ∀ c t, d = c :: t → dig c = false := by
  unfold frac at h
  cases h1 : J.take 46 l with
  | some t =>
    rw [h1] at h
    obtain ⟨u, hu, h⟩ := Option.bind_eq_some_iff.1 h
    obtain ⟨d, e, _, hd⟩ := digits_pre2 hu
    obtain ⟨d2, e2, hd2, _⟩ := expo_pre h
    refine ⟨46 :: (d ++ d2), by rw [take_some h1, e, e2]; simp, fun c hc => ?_, fun c t' he => by injection he with he; subst he; rfl⟩
    rcases List.mem_cons.1 hc with rfl | hc
    · rfl
    rcases List.mem_append.1 hc with hc | hc
    · exact nb_dig (hd c hc)
    · exact hd2 c hc
  | none =>
    rw [h1] at h
    obtain ⟨d, e, hd, hh⟩ := expo_pre h
    exact ⟨d, e, hd, fun c t he => by rcases hh c t he with rfl | rfl <;> rfl⟩
theorem num_shape {l r : L} (h : J.num l = some r) : ∃ sg ds fr, Nm l sg ds fr r := by
  unfold J.num at h
  obtain ⟨u, hu, h⟩ := Option.bind_eq_some_iff.1 h
  obtain ⟨sg, es, hs⟩ := opt_pre 45 l
  obtain ⟨fr, ef, hf, hh⟩ := frac_pre h
  unfold whole at hu
  cases h1 : J.take 48 (opt 45 l) with
  | some t =>
    rw [h1] at hu
    injection hu with hu
    refine ⟨sg, [48], fr, ⟨?_, hs, by simp, fun c hc => by rw [List.mem_singleton.1 hc]; rfl, hf, hh, .inl rfl⟩⟩
    rw [← ef, ← hu]
    exact es.trans (by rw [take_some h1]; rfl)
  | none =>
    rw [h1] at hu
    obtain ⟨ds, ed, hne, hd⟩ := digits_pre2 hu
    refine ⟨sg, ds, fr, ⟨by rw [← ef, ← ed]; exact es, hs, hne, hd, hf, hh, .inr ?_⟩⟩
    rintro t rfl
    rw [ed, List.cons_append, J.take, if_pos rfl] at h1
    cases h1
/-- Digits behind a sign are a number. -/
theorem num_alone {sg ds : L} (hs : sg = [] ∨ sg = [45]) (hne : ds ≠ []) (hd : ∀ c ∈ ds, dig c = true) (lz : ds = [48] ∨ ∀ t, ds ≠ 48 :: t) : J.num (sg ++ ds) = some [] := by
  obtain ⟨d, u, rfl⟩ : ∃ d u, ds = d :: u := by
    cases ds with
    | nil => exact absurd rfl hne
    | cons d u => exact ⟨d, u, rfl⟩
  have h0 := hd d List.mem_cons_self
  have h45 : d ≠ 45 := by rintro rfl; cases h0
  have ho : opt 45 (sg ++ (d :: u)) = d :: u := by
    rcases hs with rfl | rfl
    · show (J.take 45 (d :: u)).getD (d :: u) = _
      rw [J.take, if_neg h45]; rfl
    · show (J.take 45 (45 :: (d :: u))).getD _ = _
      rw [J.take, if_pos rfl]; rfl
  have hg : ∀ l : L, (∀ c ∈ l, dig c = true) → digs l = [] := by
    intro l
    induction l with
    | nil => intro _; rfl
    | cons c t ih =>
      intro h
      rw [digs, if_pos (h c List.mem_cons_self)]
      exact ih fun x hx => h x (List.mem_cons_of_mem _ hx)
  unfold J.num
  rw [ho]
  have hw : whole (d :: u) = some [] := by
    unfold whole
    rcases lz with e | e
    · injection e with e1 e2
      subst e1; subst e2
      rfl
    · have : d ≠ 48 := fun e1 => e u (by rw [e1])
      rw [J.take, if_neg this]
      show digits (d :: u) = _
      rw [digits, if_pos h0, hg u fun x hx => hd x (List.mem_cons_of_mem _ hx)]
  rw [hw]
  rfl
theorem nb_ws {c : Int} (h : wsB c = true) : nb c = false := by
  unfold wsB at h
  simp only [Bool.or_eq_true, beq_iff_eq] at h
  rcases h with ((rfl | rfl) | rfl) | rfl <;> rfl
theorem ws_nil_head {r : L} (h : ws r = []) : r = [] ∨ ∃ c t, r = c :: t ∧ nb c = false := by
  cases r with
  | nil => exact .inl rfl
  | cons c t =>
    refine .inr ⟨c, t, rfl, nb_ws ?_⟩
    cases e : wsB c with
    | true => rfl
    | false =>
      unfold ws at h
      rw [List.dropWhile_cons, e] at h
      simp at h
theorem Nm.all {l sg ds fr r : L} (h : Nm l sg ds fr r) : ∀ c ∈ sg ++ (ds ++ fr), nb c = true := by
  intro c hc
  rcases List.mem_append.1 hc with hc | hc
  · rcases h.hsg with e | e
    · rw [e] at hc; cases hc
    · rw [e] at hc; rw [List.mem_singleton.1 hc]; rfl
  rcases List.mem_append.1 hc with hc | hc
  · exact nb_dig (h.dg c hc)
  · exact h.hfr c hc
theorem num_fj {l sg ds fr r : L} (h : Nm l sg ds fr r) (hr : r = [] ∨ ∃ c t, r = c :: t ∧ nb c = false) : num l = some (sg ++ (ds ++ fr), r) := by
  have hall := h.all
  have el : l = (sg ++ (ds ++ fr)) ++ r := by rw [h.eq]; simp
  have et : r.takeWhile nb = [] := by
    rcases hr with rfl | ⟨c, t, rfl, hc⟩
    · rfl
    · rw [List.takeWhile_cons, hc]; rfl
  have ed : r.dropWhile nb = r := by
    rcases hr with rfl | ⟨c, t, rfl, hc⟩
    · rfl
    · rw [List.dropWhile_cons, hc]; rfl
  have e1 : l.takeWhile nb = sg ++ (ds ++ fr) := by rw [el, List.takeWhile_append_of_pos hall, et, List.append_nil]
  have e2 : l.dropWhile nb = r := by rw [el, List.dropWhile_append_of_pos hall, ed]
  have n1 : sg ++ (ds ++ fr) ≠ [] := by
    intro e
    exact h.ne (List.append_eq_nil_iff.1 (List.append_eq_nil_iff.1 e).2).1
  have n2 : ∀ x : Int, dig x = false → sg ++ (ds ++ fr) ≠ [x] := by
    intro x hx e
    obtain ⟨d, u, hd⟩ : ∃ d u, ds = d :: u := by
      cases hds : ds with
      | nil => exact absurd hds h.ne
      | cons d u => exact ⟨d, u, rfl⟩
    have hdd := h.dg d (by rw [hd]; exact List.mem_cons_self)
    rcases h.hsg with es | es
    · rw [es, hd] at e
      injection e with e _
      rw [e, hx] at hdd
      cases hdd
    · rw [es, hd] at e
      simp at e
  unfold num
  simp only [e1, e2]
  split
  · rename_i h0
    rw [h0, List.append_nil] at el
    rw [el, h0]
  · have n3 : ¬(sg ++ (ds ++ fr) = [45] ∨ sg ++ (ds ++ fr) = [43]) := by intro hh; rcases hh with hh | hh; exact n2 45 rfl hh; exact n2 43 rfl hh
    first | rw [if_neg n1, if_neg n3] | rw [if_neg n3]
/-- The value that a text begins with, by its first byte. -/
theorem val_kind {N n : Nat} {c : Int} {t : L} {x : Pl × L} (h : val N (n + 1) (c :: t) = some x) :
    (x.1.kind = 3 → (c = 45 ∨ dig c = true) ∧ J.num (c :: t) = some x.2 ∧ x.1 = ⟨3, pos N (c :: t), pos N x.2, [], []⟩) ∧ (x.1.kind ≠ 3 → c = 123 ∨ c = 91 ∨ c = 34 ∨ c = 116 ∨ c = 102 ∨ (c = 110 ∧ (c :: t).take 4 = wNull)) := by
  have pre : ∀ (w r : L), J.word w (c :: t) = some r → ∃ z, c :: t = w ++ z := by
    intro w r hw
    unfold J.word at hw
    split at hw
    · rename_i hp
      obtain ⟨z, hz⟩ := List.isPrefixOf_iff_prefix.1 hp
      exact ⟨z, hz.symm⟩
    · cases hw
  simp only [val] at h
  split at h
  · rename_i hc
    obtain ⟨y, hy, rfl⟩ := Option.map_eq_some_iff.1 h
    exact ⟨fun k => (by cases k), fun _ => .inl hc⟩
  split at h
  · rename_i hc
    obtain ⟨y, hy, rfl⟩ := Option.map_eq_some_iff.1 h
    exact ⟨fun k => (by cases k), fun _ => .inr (.inl hc)⟩
  split at h
  · rename_i hc
    obtain ⟨y, hy, rfl⟩ := Option.map_eq_some_iff.1 h
    exact ⟨fun k => (by cases k), fun _ => .inr (.inr (.inl hc))⟩
  split at h
  · rename_i hc
    obtain ⟨y, hy, rfl⟩ := Option.map_eq_some_iff.1 h
    exact ⟨fun _ => ⟨hc, hy, rfl⟩, fun k => absurd rfl k⟩
  split at h
  · rename_i r hr
    injection h with h; subst h
    obtain ⟨z, hz⟩ := pre _ _ hr
    refine ⟨fun k => (by cases k), fun _ => .inr (.inr (.inr (.inr (.inr ⟨?_, ?_⟩))))⟩
    · injection hz
    · rw [hz]; rfl
  split at h
  · rename_i r hr
    injection h with h; subst h
    obtain ⟨z, hz⟩ := pre _ _ hr
    refine ⟨fun k => (by cases k), fun _ => .inr (.inr (.inr (.inr (.inl ?_))))⟩
    injection hz
  split at h
  · rename_i r hr
    injection h with h; subst h
    obtain ⟨z, hz⟩ := pre _ _ hr
    refine ⟨fun k => (by cases k), fun _ => .inr (.inr (.inr (.inl ?_)))⟩
    injection hz
  · cases h
theorem pv_num (n : Nat) {c : Int} {t : L} (hc : c = 45 ∨ dig c = true) : pv (n + 1) 0 (c :: t) = (num (c :: t)).map fun x => (.leaf 4 x.1, x.2) := by
  have h : c = 45 ∨ (48 ≤ c ∧ c ≤ 57) := hc.imp id (fun h => by simpa [dig] using h)
  rw [pv]
  rw [if_neg (by omega), if_neg (by omega), if_neg (by omega), if_neg (by omega), if_neg (by omega), if_neg (by omega), if_neg (by omega)]
/-- A text that is a number is one to fastjson. -/
theorem top_num {l : L} {p : Pl} (h : text l = some p) (hk : p.kind = 3) : ∃ sg ds fr r, Nm (ws l) sg ds fr r ∧ parse0 l = some (.leaf 4 (sg ++ (ds ++ fr))) ∧ sl l p.b p.e = sg ++ (ds ++ fr) := by
  unfold text at h
  obtain ⟨x, hx, h⟩ := Option.bind_eq_some_iff.1 h
  split at h
  case isFalse => cases h
  rename_i hr
  injection h with h; subst h
  have hsuf := skip_suf l
  rw [skip_ws] at hx hr hsuf
  cases hl : ws l with
  | nil => rw [hl] at hx; simp [val] at hx
  | cons c t =>
    rw [hl] at hx hsuf
    obtain ⟨hc, hn, hp⟩ := (val_kind hx).1 hk
    obtain ⟨sg, ds, fr, hnm⟩ := num_shape hn
    refine ⟨sg, ds, fr, x.2, hnm, ?_, ?_⟩
    · unfold parse0
      rw [hl, show 2 * (c :: t).length + 2 = (2 * (c :: t).length + 1) + 1 from rfl, pv_num _ hc, num_fj hnm (ws_nil_head hr)]
      show (if ws x.2 = [] then _ else _) = _
      rw [if_pos hr]
    · rw [hp]
      exact sl_suf hsuf (by rw [hnm.eq]; simp)
/-- Any other JSON text is no number to fastjson. -/
theorem top_other {l : L} {p : Pl} (h : text l = some p) (hk : p.kind ≠ 3) (a : L) : parse0 l ≠ some (.leaf 4 a) := by
  unfold text at h
  obtain ⟨x, hx, h⟩ := Option.bind_eq_some_iff.1 h
  split at h
  case isFalse => cases h
  injection h with h; subst h
  rw [skip_ws] at hx
  intro hp
  unfold parse0 at hp
  cases hl : ws l with
  | nil => rw [hl] at hx; simp [val] at hx
  | cons c t =>
    rw [hl] at hx hp
    have hc := (val_kind hx).2 hk
    rw [show 2 * (c :: t).length + 2 = (2 * (c :: t).length + 1) + 1 from rfl, pv] at hp
    rw [if_neg (by omega)] at hp
    have fin : ∀ (o : Option (T × L)), (∀ y, o = some y → ∀ b, y.1 ≠ .leaf 4 b) → ¬(match o with | none => none | some x => if ws x.2 = [] then some x.1 else none) = some (.leaf 4 a) := by
      intro o ho he
      cases o with
      | none => cases he
      | some y =>
        simp only [] at he
        split at he
        · injection he with he; exact ho y rfl a he
        · cases he
    refine fin _ ?_ hp
    intro y hy b
    rcases hc with rfl | rfl | rfl | rfl | rfl | ⟨rfl, hw⟩
    · rw [if_pos rfl] at hy
      unfold obj0 at hy
      split at hy
      · cases hy
      split at hy
      · injection hy with hy; subst hy; intro e; cases e
      · obtain ⟨z, hz, rfl⟩ := Option.map_eq_some_iff.1 hy; intro e; cases e
    · rw [if_neg (by decide), if_pos rfl] at hy
      unfold arr0 at hy
      split at hy
      · cases hy
      split at hy
      · injection hy with hy; subst hy; intro e; cases e
      · obtain ⟨z, hz, rfl⟩ := Option.map_eq_some_iff.1 hy; intro e; cases e
    · rw [if_neg (by decide), if_neg (by decide), if_pos rfl] at hy
      obtain ⟨z, hz, rfl⟩ := Option.map_eq_some_iff.1 hy; intro e; cases e
    · rw [if_neg (by decide), if_neg (by decide), if_neg (by decide), if_pos rfl] at hy
      split at hy
      · injection hy with hy; subst hy; intro e; cases e
      · cases hy
    · rw [if_neg (by decide), if_neg (by decide), if_neg (by decide), if_neg (by decide), if_pos rfl] at hy
      split at hy
      · injection hy with hy; subst hy; intro e; cases e
      · cases hy
    · rw [if_neg (by decide), if_neg (by decide), if_neg (by decide), if_neg (by decide), if_neg (by decide), if_pos rfl, if_pos hw] at hy
      injection hy with hy; subst hy; intro e; cases e
end Go.Proofs.YtalcjolomigedaaDoor.Fp

set_option linter.unusedVariables false
set_option linter.unusedSimpArgs false
namespace Go.Proofs.YtalcjolomigedaaDoor.Fp
open Go.RowKit Go.Proofs.YtalcjolomigedaaDoorW.PrintWords Go.Proofs.YtalcjolomigedaaDoorW.PrintLast Go.Proofs.YtalcjolomigedaaDoorW.PrintMore Go.Proofs.YtalcjolomigedaaDoor.Aid Go.Proofs.YtalcjolomigedaaDoor.J

def dstep (a c : Int) : Int := a * 10 + (c - 48)
/-- The number that digits give. -/
def dval (l : L) : Int := l.foldl dstep 0
def sval (sg ds : L) : Int := if sg = [] then dval ds else -(dval ds)
theorem dval_snoc (l : L) (c : Int) : dval (l ++ [c]) = dval l * 10 + (c - 48) := by unfold dval; rw [List.foldl_append]; rfl
theorem dig_iff {c : Int} : dig c = true ↔ 48 ≤ c ∧ c ≤ 57 := by unfold dig; simp
theorem pow_pos10 (n : Nat) : (0 : Int) < 10 ^ n := Int.pow_pos (by decide)
theorem fold_bound : ∀ (l : L) (a : Int), 0 ≤ a → (∀ c ∈ l, dig c = true) → 0 ≤ l.foldl dstep a ∧ l.foldl dstep a < (a + 1) * 10 ^ l.length
  | [], a, h0, _ => by simp; omega
  | c :: l, a, h0, hd => by
    have hc := dig_iff.1 (hd c List.mem_cons_self)
    have h1 : 0 ≤ dstep a c := by unfold dstep; omega
    obtain ⟨g0, g1⟩ := fold_bound l (dstep a c) h1 (fun x hx => hd x (List.mem_cons_of_mem _ hx))
    rw [List.foldl_cons]
    refine ⟨g0, Int.lt_of_lt_of_le g1 ?_⟩
    have hle : dstep a c + 1 ≤ (a + 1) * 10 := by unfold dstep; omega
    have hp := pow_pos10 l.length
    have := Int.mul_le_mul_of_nonneg_right hle (Int.le_of_lt hp)
    rw [List.length_cons, Int.pow_succ, Int.mul_comm (10 ^ l.length) 10, ← Int.mul_assoc]
    exact this
theorem pow_mono10 {n m : Nat} (h : n ≤ m) : (10 : Int) ^ n ≤ 10 ^ m := by
  obtain ⟨k, rfl⟩ := Nat.exists_eq_add_of_le h
  rw [Int.pow_add]
  have h1 := pow_pos10 n
  have h2 := pow_pos10 k
  have : (10 : Int) ^ n * 1 ≤ 10 ^ n * 10 ^ k := Int.mul_le_mul_of_nonneg_left (by omega) (by omega)
  omega
theorem dval_bound {l : L} (hd : ∀ c ∈ l, dig c = true) (h : l.length ≤ 18) : 0 ≤ dval l ∧ dval l < 1000000000000000000 := by
  obtain ⟨h0, h1⟩ := fold_bound l 0 (by omega) hd
  have := pow_mono10 h
  have e : (10 : Int) ^ 18 = 1000000000000000000 := by decide
  refine ⟨h0, ?_⟩
  unfold dval
  omega
/-- The bytes' numbers. -/
def un8 (l : List UInt8) : L := l.map fun x => (x.toNat : Int)
theorem pum_ok (M : Nat) (hM : 1000000000000000000 ≤ M) (l : List UInt8) : ∀ (acc : Nat), (∀ c ∈ un8 l, dig c = true) → ((acc : Int) + 1) * 10 ^ l.length ≤ 1000000000000000000 → ∃ u : Nat, Lib.parseUintM M acc l = .ok u ∧ (u : Int) = (un8 l).foldl dstep (acc : Int) := by
  induction l with
  | nil => intro acc _ _; exact ⟨acc, by simp only [Lib.parseUintM], by simp only [un8, List.map_nil, List.foldl_nil]⟩
  | cons c l ih =>
    intro acc hd hb
    have hc := dig_iff.1 (hd (c.toNat : Int) List.mem_cons_self)
    have hcn : 48 ≤ c.toNat ∧ c.toNat ≤ 57 := by omega
    have hp := pow_pos10 l.length
    rw [List.length_cons, Int.pow_succ, Int.mul_comm (10 ^ l.length) 10, ← Int.mul_assoc] at hb
    have hb2 : ((acc : Int) + 1) * 10 ≤ 1000000000000000000 := by
      have := Int.mul_le_mul_of_nonneg_left (show (1 : Int) ≤ 10 ^ l.length by omega) (show (0 : Int) ≤ ((acc : Int) + 1) * 10 by omega)
      omega
    have hle : ((acc * 10 + (c.toNat - 48) : Nat) : Int) + 1 ≤ ((acc : Int) + 1) * 10 := by omega
    have h3 := Int.mul_le_mul_of_nonneg_right hle (Int.le_of_lt hp)
    obtain ⟨u, hu, hv⟩ := ih (acc * 10 + (c.toNat - 48)) (fun x hx => hd x (List.mem_cons_of_mem _ hx)) (Int.le_trans h3 hb)
    refine ⟨u, ?_, ?_⟩
    · simp only [Lib.parseUintM]
      rw [if_pos hcn, if_neg (by omega), if_neg (by omega)]
      exact hu
    · rw [hv]
      show _ = (un8 l).foldl dstep (dstep (acc : Int) (c.toNat : Int))
      have : ((acc * 10 + (c.toNat - 48) : Nat) : Int) = dstep (acc : Int) (c.toNat : Int) := by unfold dstep; omega
      rw [this]
theorem pum_no (M : Nat) : ∀ (l : List UInt8) (acc u : Nat), Lib.parseUintM M acc l = .ok u → ∀ c ∈ un8 l, dig c = true
  | [], acc, u, _, c, hc => by cases hc
  | x :: l, acc, u, h, c, hc => by
    simp only [Lib.parseUintM] at h
    split at h
    · rename_i hx
      split at h
      · cases h
      split at h
      · cases h
      rcases List.mem_cons.1 hc with rfl | hc
      · exact dig_iff.2 (show 48 ≤ (x.toNat : Int) ∧ (x.toNat : Int) ≤ 57 by omega)
      · exact pum_no M l _ u h c hc
    · cases h
/-- The whole string is a number. -/
def Nw (s : ByteArray) (sg ds fr : L) : Prop := Nm (bytesOf s) sg ds fr []
theorem bytes_un8 (s : ByteArray) : bytesOf s = un8 s.data.toList := rfl
theorem nw_split {s : ByteArray} {sg ds fr : L} (h : Nw s sg ds fr) : ∃ c r, s.data.toList = c :: r ∧ ((sg = [45] ∧ c.toNat = 45 ∧ un8 r = ds ++ fr ∧ r ≠ []) ∨ (sg = [] ∧ c.toNat ≠ 45 ∧ c.toNat ≠ 43 ∧ un8 (c :: r) = ds ++ fr)) := by
  have he := h.eq
  rw [List.append_nil, bytes_un8] at he
  obtain ⟨d, u, hds⟩ : ∃ d u, ds = d :: u := by
    cases hds : ds with
    | nil => exact absurd hds h.ne
    | cons d u => exact ⟨d, u, rfl⟩
  have hd := dig_iff.1 (h.dg d (by rw [hds]; exact List.mem_cons_self))
  cases hl : s.data.toList with
  | nil => rw [hl, hds] at he; simp [un8] at he
  | cons c r =>
    rw [hl] at he
    refine ⟨c, r, rfl, ?_⟩
    rcases h.hsg with e | e
    · right
      rw [e] at he ⊢
      refine ⟨rfl, ?_, ?_, he⟩
      all_goals
        rw [hds] at he
        injection he with he _
        replace he : (c.toNat : Int) = d := he
        omega
    · left
      rw [e] at he ⊢
      injection he with h1 h2
      replace h1 : (c.toNat : Int) = 45 := h1
      refine ⟨rfl, by omega, h2, fun e => ?_⟩
      rw [e, hds] at h2
      cases h2
theorem piB_ok {s : ByteArray} {sg ds : L} (h : Nw s sg ds []) (hl : ds.length ≤ 18) : Lib.parseIntB 64 s.data.toList = .ok (sval sg ds) := by
  have main : ∀ l : List UInt8, l ≠ [] → un8 l = ds ++ [] → ∃ u : Nat, Lib.parseUintB 64 l = .ok u ∧ (u : Int) = dval ds := by
    intro l hn he
    rw [List.append_nil] at he
    have hz : l.length = ds.length := by rw [← he]; simp [un8]
    obtain ⟨u, hu, hv⟩ := pum_ok (2 ^ 64 - 1) (by decide) l 0 (by rw [he]; exact h.dg) (by
      have := pow_mono10 hl
      have e : (10 : Int) ^ 18 = 1000000000000000000 := by decide
      rw [hz]
      simp only [Int.natCast_zero, Int.zero_add, Int.one_mul]
      omega)
    refine ⟨u, ?_, by rw [hv, he]; rfl⟩
    unfold Lib.parseUintB
    rw [if_neg hn]
    exact hu
  have hb := dval_bound h.dg hl
  obtain ⟨c, r, hs, hc⟩ := nw_split h
  rw [hs]
  rcases hc with ⟨e, hc, hr, hn⟩ | ⟨e, hc, hc2, hr⟩
  · obtain ⟨u, hu, hv⟩ := main r hn hr
    have e63 : (2 : Nat) ^ (64 - 1) = 9223372036854775808 := by decide
    have q1 : ¬ (9223372036854775808 < u) := by omega
    simp [Lib.parseIntB, hc, hu, q1, sval, e, hv]
  · obtain ⟨u, hu, hv⟩ := main (c :: r) (by simp) hr
    have e63 : (2 : Nat) ^ (64 - 1) = 9223372036854775808 := by decide
    simp only [Lib.parseIntB, e63]
    rw [if_neg (by omega), hu]
    simp only []
    rw [if_neg (by omega), if_neg (by omega), if_neg hc]
    unfold sval
    rw [if_pos e, hv]
theorem piB_no {s : ByteArray} {sg ds fr : L} (h : Nw s sg ds fr) (hf : fr ≠ []) (v : Int) : Lib.parseIntB 64 s.data.toList ≠ .ok v := by
  obtain ⟨x, t, hfr⟩ : ∃ x t, fr = x :: t := by
    cases hfr : fr with
    | nil => exact absurd hfr hf
    | cons x t => exact ⟨x, t, rfl⟩
  have hx := h.hhd x t hfr
  have main : ∀ l : List UInt8, un8 l = ds ++ fr → ∀ u, Lib.parseUintB 64 l ≠ .ok u := by
    intro l he u hu
    unfold Lib.parseUintB at hu
    split at hu
    · cases hu
    · have := pum_no _ _ _ _ hu x (by rw [he, hfr]; simp)
      rw [hx] at this; cases this
  obtain ⟨c, r, hs, hc⟩ := nw_split h
  rw [hs]
  intro hp
  have key : ∀ l, (if c.toNat = 43 ∨ c.toNat = 45 then r else c :: r) = l → un8 l = ds ++ fr → False := by
    intro l hl he
    simp only [Lib.parseIntB] at hp
    rw [hl] at hp
    cases hq : Lib.parseUintB 64 l with
    | ok u => exact main l he u hq
    | «syntax» => rw [hq] at hp; cases hp
    | range => rw [hq] at hp; cases hp
  rcases hc with ⟨e, hc, hr, hn⟩ | ⟨e, hc, hc2, hr⟩
  · exact key r (by rw [if_pos (by omega)]) hr
  · exact key (c :: r) (by rw [if_neg (by omega)]) hr
end Go.Proofs.YtalcjolomigedaaDoor.Fp

set_option linter.unusedVariables false
set_option linter.unusedSimpArgs false
namespace Go.Proofs.YtalcjolomigedaaDoor.Fp
open Go.RowKit Go.Proofs.YtalcjolomigedaaDoor.J

theorem rs_clo : ∀ (l : L) (o : Bool) (a r : L), rs o l = some (a, r) → clo (!o) (a ++ [34]) = some a.length
  | [], o, a, r, h => by cases h
  | c :: t, o, a, r, h => by
    rw [rs] at h
    split at h
    · rename_i hc
      injection h with h; injection h with h1 h2; subst h1
      rw [hc.2]
      rfl
    · rename_i hc
      cases e : rs (c == 92 && !o) t with
      | none => rw [e] at h; cases h
      | some x =>
        rw [e] at h
        injection h with h; injection h with h1 h2; subst h1
        have ih := rs_clo t _ x.1 x.2 e
        rw [List.cons_append, clo, if_neg (by cases o <;> simp_all)]
        have he : (if c = 92 then !(!o) else true) = !(c == 92 && !o) := by
          by_cases h92 : c = 92
          · subst h92; cases o <;> rfl
          · rw [if_neg h92, beq_false_of_ne h92]; rfl
        rw [he, ih]
        rfl
theorem rs_lone {l a r : L} (h : rs false l = some (a, r)) : J.lone a = false := lone_of_clo _ a (Nat.le_refl _) (rs_clo l false a r h)
/-- What a raw string is written as. -/
theorem pv_raw {n d : Nat} {l a r : L} (h : pv n d l = some (.leaf 7 a, r)) : J.lone a = false := by
  cases n with
  | zero => rw [pv] at h; cases h
  | succ n =>
    cases l with
    | nil => rw [pv] at h; cases h
    | cons c t =>
      rw [pv] at h
      split at h
      · cases h
      split at h
      · unfold obj0 at h
        split at h
        · cases h
        split at h
        · injection h with h; injection h with h; cases h
        · obtain ⟨z, hz, e⟩ := Option.map_eq_some_iff.1 h; injection e with e; cases e
      split at h
      · unfold arr0 at h
        split at h
        · cases h
        split at h
        · injection h with h; injection h with h; cases h
        · obtain ⟨z, hz, e⟩ := Option.map_eq_some_iff.1 h; injection e with e; cases e
      split at h
      · obtain ⟨z, hz, e⟩ := Option.map_eq_some_iff.1 h
        injection e with e e2
        injection e with _ e
        subst e
        exact rs_lone (r := z.2) hz
      split at h
      · split at h
        · injection h with h; injection h with h; injection h with h; cases h
        · cases h
      split at h
      · split at h
        · injection h with h; injection h with h; injection h with h; cases h
        · cases h
      split at h
      · split at h
        · injection h with h; injection h with h; injection h with h; cases h
        · split at h
          · injection h with h; injection h with h; injection h with h; cases h
          · cases h
      · obtain ⟨z, hz, e⟩ := Option.map_eq_some_iff.1 h
        injection e with e e2
        injection e with e e2
        cases e
theorem top_raw {l a : L} (h : parse0 l = some (.leaf 7 a)) : J.lone a = false := by
  unfold parse0 at h
  split at h
  · cases h
  · rename_i x hx
    split at h
    · injection h with h
      exact pv_raw (r := x.2) (by rw [hx, ← h])
    · cases h
end Go.Proofs.YtalcjolomigedaaDoor.Fp
