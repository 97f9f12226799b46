/- Ugly on lists of bytes: of a JSON text it gives the text without the blanks outside its strings. -/
import Derived.Test.YtbnogfljakmfgaaJLen
set_option linter.unusedVariables false
set_option linter.unusedSimpArgs false
namespace Go.Proofs.Ytbnogfljakmfgaa.J

mutual
def ugO : L → L
  | [] => []
  | c :: t => if c ≤ 32 then ugO t else if c = 34 then 34 :: ugI false t else c :: ugO t
def ugI : Bool → L → L
  | _, [] => []
  | p, c :: t => c :: (if c = 34 then (if p = true then ugI false t else ugO t) else if c = 92 then ugI (!p) t else ugI false t)
end

/-- What stands between two places of a text. -/
def sl (all : L) (b e : Int) : L := (all.drop b.toNat).take (e - b).toNat
mutual
def bare (all : L) : Pl → L
  | ⟨k, b, e, ns, ks⟩ => if k ≠ 5 ∧ k ≠ 6 then sl all b e else (if k = 6 then 123 else 91) :: (bareKs all (decide (k = 6)) true ns ks ++ [if k = 6 then 125 else 93])
def bareKs (all : L) : Bool → Bool → List Sp → List Pl → L
  | _, _, _, [] => []
  | o, first, ns, p :: ks => (if first = true then [] else [44]) ++ ((if o = true then sl all (ns.headD ⟨0, 0⟩).b (ns.headD ⟨0, 0⟩).e ++ [58] else []) ++ (bare all p ++ bareKs all o false ns.tail ks))
end
theorem bare_arr (all : L) (b e : Int) (ns : List Sp) (ks : List Pl) : bare all ⟨5, b, e, ns, ks⟩ = 91 :: (bareKs all false true ns ks ++ [93]) := by rw [bare]; simp
theorem bare_obj (all : L) (b e : Int) (ns : List Sp) (ks : List Pl) : bare all ⟨6, b, e, ns, ks⟩ = 123 :: (bareKs all true true ns ks ++ [125]) := by rw [bare]; simp
theorem bare_leaf (all : L) {k : Int} (h5 : k ≠ 5) (h6 : k ≠ 6) (b e : Int) (ns : List Sp) (ks : List Pl) : bare all ⟨k, b, e, ns, ks⟩ = sl all b e := by rw [bare]; rw [if_pos ⟨h5, h6⟩]
theorem bareKs_nil (all : L) (o f : Bool) (ns : List Sp) : bareKs all o f ns [] = [] := by rw [bareKs]
theorem bareKs_cons (all : L) (o f : Bool) (ns : List Sp) (p : Pl) (ks : List Pl) : bareKs all o f ns (p :: ks) = (if f = true then [] else [44]) ++ ((if o = true then sl all (ns.headD ⟨0, 0⟩).b (ns.headD ⟨0, 0⟩).e ++ [58] else []) ++ (bare all p ++ bareKs all o false ns.tail ks)) := by rw [bareKs]

/-! ### suffixes -/
theorem suf_drop {l all : L} (h : l <:+ all) : all.drop (all.length - l.length) = l := (List.suffix_iff_eq_drop.1 h).symm
theorem sl_suf {all l d r : L} (h : l <:+ all) (e : l = d ++ r) : sl all (pos all.length l) (pos all.length r) = d := by
  have hl := h.length_le
  have e' : l.length = d.length + r.length := by rw [e, List.length_append]
  unfold sl pos
  have e1 : ((all.length : Int) - l.length).toNat = all.length - l.length := by omega
  have e2 : ((all.length : Int) - r.length - ((all.length : Int) - l.length)).toNat = d.length := by omega
  rw [e1, e2, suf_drop h, e, List.take_left]

/-! ### what is read, and what Ugly makes of it -/
theorem ugO_skip : ∀ l : L, ugO (skip l) = ugO l
  | [] => rfl
  | c :: t => by
    simp only [skip]
    split
    · rename_i h
      rw [ugO_skip t]
      have : c ≤ 32 := by simp [blank] at h; omega
      conv => rhs; rw [ugO, if_pos this]
    · rfl
theorem skip_suf : ∀ l : L, skip l <:+ l
  | [] => List.suffix_refl _
  | c :: t => by
    simp only [skip]
    split
    · exact (skip_suf t).trans (List.suffix_cons _ _)
    · exact List.suffix_refl _
theorem take_suf {c : Int} {l t : L} (h : take c l = some t) : t <:+ l := by rw [take_some h]; exact List.suffix_cons _ _
theorem ugO_big {c : Int} {t : L} (h : 32 < c) (h' : c ≠ 34) : ugO (c :: t) = c :: ugO t := by rw [ugO, if_neg (by omega), if_neg h']
/-- d stands ahead of r in l, and is printed as it is. -/
def Pre (l d r : L) : Prop := l = d ++ r ∧ ∀ c ∈ d, 32 < c ∧ c ≠ 34
theorem Pre.refl (l : L) : Pre l [] l := ⟨rfl, fun c h => by cases h⟩
theorem Pre.trans {l d m d' r : L} (h : Pre l d m) (h' : Pre m d' r) : Pre l (d ++ d') r :=
  ⟨by rw [h.1, h'.1, List.append_assoc], fun c hc => by rcases List.mem_append.1 hc with hc | hc; exact h.2 c hc; exact h'.2 c hc⟩
theorem Pre.one {c : Int} (t : L) (h : 32 < c) (h' : c ≠ 34) : Pre (c :: t) [c] t := ⟨rfl, fun x hx => by rw [List.mem_singleton.1 hx]; exact ⟨h, h'⟩⟩
theorem ugO_pre {l d r : L} (h : Pre l d r) : ugO l = d ++ ugO r := by
  obtain ⟨rfl, hd⟩ := h
  induction d with
  | nil => rfl
  | cons c d ih =>
    obtain ⟨h1, h2⟩ := hd c (List.mem_cons_self ..)
    rw [List.cons_append, ugO_big h1 h2, ih (fun x hx => hd x (List.mem_cons_of_mem _ hx)), List.cons_append]
theorem take_pre {c : Int} {l t : L} (h : take c l = some t) (h1 : 32 < c) (h2 : c ≠ 34) : Pre l [c] t := by rw [take_some h]; exact Pre.one t h1 h2
theorem digs_pre : ∀ l : L, ∃ d, Pre l d (digs l)
  | [] => ⟨[], Pre.refl _⟩
  | c :: t => by
    simp only [digs]
    split
    · rename_i h
      obtain ⟨d, hd⟩ := digs_pre t
      have : 48 ≤ c ∧ c ≤ 57 := by simpa [dig] using h
      exact ⟨_, (Pre.one t (by omega) (by omega)).trans hd⟩
    · exact ⟨[], Pre.refl _⟩
theorem digits_pre {l r : L} (h : digits l = some r) : ∃ d, Pre l d r := by
  cases l with
  | nil => simp [digits] at h
  | cons c t =>
    simp only [digits] at h
    split at h
    · rename_i hc
      injection h with h; subst h
      obtain ⟨d, hd⟩ := digs_pre t
      have : 48 ≤ c ∧ c ≤ 57 := by simpa [dig] using hc
      exact ⟨_, (Pre.one t (by omega) (by omega)).trans hd⟩
    · cases h
theorem opt_pre {c : Int} (l : L) (h1 : 32 < c) (h2 : c ≠ 34) : ∃ d, Pre l d (opt c l) := by
  unfold opt
  cases h : take c l with
  | none => exact ⟨[], Pre.refl _⟩
  | some t => exact ⟨_, take_pre h h1 h2⟩
theorem expTail_pre {l r : L} (h : expTail l = some r) : ∃ d, Pre l d r := by
  unfold expTail at h
  split at h
  · rename_i u hu
    obtain ⟨d, hd⟩ := digits_pre h
    exact ⟨_, (take_pre hu (by omega) (by omega)).trans hd⟩
  · obtain ⟨d, hd⟩ := digits_pre h
    obtain ⟨d', hd'⟩ := opt_pre (c := 45) l (by omega) (by omega)
    exact ⟨_, hd'.trans hd⟩
theorem expo_pre {l r : L} (h : expo l = some r) : ∃ d, Pre l d r := by
  unfold expo at h
  split at h
  · rename_i t ht
    obtain ⟨d, hd⟩ := expTail_pre h
    exact ⟨_, (take_pre ht (by omega) (by omega)).trans hd⟩
  · split at h
    · rename_i t ht
      obtain ⟨d, hd⟩ := expTail_pre h
      exact ⟨_, (take_pre ht (by omega) (by omega)).trans hd⟩
    · injection h with h; subst h; exact ⟨[], Pre.refl _⟩
theorem frac_pre {l r : L} (h : frac l = some r) : ∃ d, Pre l d r := by
  unfold frac at h
  split at h
  · rename_i t ht
    obtain ⟨u, hu, h⟩ := Option.bind_eq_some_iff.1 h
    obtain ⟨d, hd⟩ := digits_pre hu
    obtain ⟨d', hd'⟩ := expo_pre h
    exact ⟨_, ((take_pre ht (by omega) (by omega)).trans hd).trans hd'⟩
  · exact expo_pre h
theorem whole_pre {l r : L} (h : whole l = some r) : ∃ d, Pre l d r := by
  unfold whole at h
  split at h
  · rename_i t ht; injection h with h; subst h; exact ⟨_, take_pre ht (by omega) (by omega)⟩
  · exact digits_pre h
theorem num_pre {l r : L} (h : num l = some r) : ∃ d, Pre l d r := by
  unfold num at h
  obtain ⟨u, hu, h⟩ := Option.bind_eq_some_iff.1 h
  obtain ⟨d, hd⟩ := opt_pre (c := 45) l (by omega) (by omega)
  obtain ⟨d', hd'⟩ := whole_pre hu
  obtain ⟨d'', hd''⟩ := frac_pre h
  exact ⟨_, (hd.trans hd').trans hd''⟩
theorem word_pre {wd l r : L} (hw : ∀ c ∈ wd, 32 < c ∧ c ≠ 34) (h : word wd l = some r) : Pre l wd r := by
  unfold word at h
  split at h
  · rename_i hp
    injection h with h; subst h
    obtain ⟨t, ht⟩ := List.isPrefixOf_iff_prefix.1 hp
    exact ⟨by rw [← ht, List.drop_left], hw⟩
  · cases h
theorem hexes_in : ∀ n l r, hexes n l = some r → ∃ d, l = d ++ r ∧ ugI false l = d ++ ugI false r
  | 0, l, r, h => by simp only [hexes, Option.some.injEq] at h; subst h; exact ⟨[], rfl, rfl⟩
  | n + 1, [], r, h => by simp [hexes] at h
  | n + 1, c :: t, r, h => by
    simp only [hexes] at h
    split at h
    · rename_i hc
      obtain ⟨d, e1, e2⟩ := hexes_in n t r h
      have hn : c ≠ 34 ∧ c ≠ 92 := by simp [hex, dig] at hc; omega
      refine ⟨c :: d, by rw [e1]; rfl, ?_⟩
      rw [ugI, if_neg hn.1, if_neg hn.2, e2]; rfl
    · cases h
theorem esc_in {l r : L} (h : esc l = some r) : ∃ d, l = d ++ r ∧ ugI true l = d ++ ugI false r := by
  cases l with
  | nil => simp [esc] at h
  | cons c t =>
    simp only [esc] at h
    split at h
    · injection h with h; subst h
      refine ⟨[c], rfl, ?_⟩
      rw [ugI]
      by_cases c1 : c = 34
      · rw [if_pos c1, if_pos rfl]; rfl
      · rw [if_neg c1]
        by_cases c2 : c = 92
        · rw [if_pos c2]; rfl
        · rw [if_neg c2]; rfl
    · split at h
      · rename_i hc
        obtain ⟨d, e1, e2⟩ := hexes_in 4 t r h
        subst hc
        refine ⟨117 :: d, by rw [e1]; rfl, ?_⟩
        rw [ugI, if_neg (by decide), if_neg (by decide), e2]; rfl
      · cases h
theorem str_in : ∀ (n : Nat) (l r : L), l.length = n → str l = some r → ∃ d, l = d ++ r ∧ ugI false l = d ++ ugO r := by
  intro n
  induction n using Nat.strongRecOn with
  | _ n ih =>
    intro l r hn h
    cases l with
    | nil => rw [str_nil] at h; cases h
    | cons c t =>
      simp only [List.length_cons] at hn
      rw [str_cons] at h
      split at h
      · rename_i hc; injection h with h; subst h; subst hc
        refine ⟨[34], rfl, ?_⟩
        rw [ugI, if_pos rfl, if_neg (by decide)]; rfl
      rename_i hc
      split at h
      · cases h
      split at h
      · rename_i hc'
        subst hc'
        obtain ⟨u, hu, h⟩ := Option.bind_eq_some_iff.1 h
        have h1 := esc_lt hu
        obtain ⟨d, e1, e2⟩ := esc_in hu
        obtain ⟨d', e3, e4⟩ := ih u.length (by omega) u r rfl h
        refine ⟨92 :: (d ++ d'), by rw [e1, e3]; simp, ?_⟩
        rw [ugI, if_neg (by decide), if_pos rfl]
        show 92 :: ugI true t = _
        rw [e2, e4]; simp
      · rename_i hc'
        obtain ⟨d, e1, e2⟩ := ih t.length (by omega) t r rfl h
        refine ⟨c :: d, by rw [e1]; rfl, ?_⟩
        rw [ugI, if_neg hc, if_neg hc', e2]; rfl
theorem quoted_in {t r : L} (h : str t = some r) : ∃ d, 34 :: t = d ++ r ∧ ugO (34 :: t) = d ++ ugO r := by
  obtain ⟨d, e1, e2⟩ := str_in _ t r rfl h
  refine ⟨34 :: d, by rw [e1]; rfl, ?_⟩
  rw [ugO, if_neg (by decide), if_pos rfl, e2]; rfl

/-- A reader whose values Ugly prints bare. -/
def Ug (all : L) (v : L → Option (Pl × L)) : Prop := ∀ l x, l <:+ all → v l = some x → x.2 <:+ all ∧ ugO l = bare all x.1 ++ ugO x.2
theorem elems_ug {all : L} {v : L → Option (Pl × L)} (hv : Ug all v) : ∀ (m : Nat) (l : L) (acc : List Pl) (x : List Pl × L), l <:+ all → elems v m l acc = some x →
    ∃ ks, x.1 = acc ++ ks ∧ ks ≠ [] ∧ x.2 <:+ all ∧ ∀ f, (if f = true then [] else [44]) ++ ugO l = bareKs all false f [] ks ++ 93 :: ugO x.2
  | 0, _, _, _, _, h => by simp [elems] at h
  | m + 1, l, acc, x, hl, h => by
    simp only [elems] at h
    obtain ⟨y, hy, h⟩ := Option.bind_eq_some_iff.1 h
    obtain ⟨h1, h2⟩ := hv l y hl hy
    have h3 := ugO_skip y.2
    split at h
    · rename_i t ht; injection h with h; subst h
      refine ⟨[y.1], rfl, by simp, (take_suf ht).trans ((skip_suf _).trans h1), fun f => ?_⟩
      have e : ugO (skip y.2) = 93 :: ugO t := ugO_pre (take_pre ht (by omega) (by omega))
      rw [bareKs_cons, bareKs_nil, h2, ← h3, e]; simp
    · obtain ⟨t, ht, h⟩ := Option.bind_eq_some_iff.1 h
      have e : ugO (skip y.2) = 44 :: ugO t := ugO_pre (take_pre ht (by omega) (by omega))
      obtain ⟨ks, e1, e2, e3, e4⟩ := elems_ug hv m (skip t) (acc ++ [y.1]) x ((skip_suf t).trans ((take_suf ht).trans ((skip_suf _).trans h1))) h
      refine ⟨y.1 :: ks, by rw [e1]; simp, by simp, e3, fun f => ?_⟩
      have e5 := e4 false
      rw [ugO_skip] at e5
      rw [bareKs_cons, h2, ← h3, e]
      simp only [Bool.false_eq_true, if_false, List.nil_append, List.singleton_append, List.tail_nil, List.append_assoc] at e5 ⊢
      rw [e5]
theorem mems_ug {all : L} {v : L → Option (Pl × L)} (hv : Ug all v) : ∀ (m : Nat) (l : L) (ns : List Sp) (ks : List Pl) (x : (List Sp × List Pl) × L), l <:+ all → mems all.length v m l ns ks = some x →
    ∃ ns' ks', x.1.1 = ns ++ ns' ∧ x.1.2 = ks ++ ks' ∧ ns'.length = ks'.length ∧ x.2 <:+ all ∧ ∀ f, (if f = true then [] else [44]) ++ ugO l = bareKs all true f ns' ks' ++ 125 :: ugO x.2
  | 0, _, _, _, _, _, h => by simp [mems] at h
  | m + 1, l, ns, ks, x, hl, h => by
    simp only [mems] at h
    obtain ⟨t, ht, h⟩ := Option.bind_eq_some_iff.1 h
    obtain ⟨l1, h1, h⟩ := Option.bind_eq_some_iff.1 h
    obtain ⟨l2, h2, h⟩ := Option.bind_eq_some_iff.1 h
    obtain ⟨y, hy, h⟩ := Option.bind_eq_some_iff.1 h
    obtain rfl := take_some ht
    obtain ⟨d, q1, q2⟩ := quoted_in h1
    have s1 : l1 <:+ all := (show l1 <:+ 34 :: t from ⟨d, q1.symm⟩).trans hl
    have s2 : l2 <:+ all := (take_suf h2).trans ((skip_suf _).trans s1)
    obtain ⟨h3, h4⟩ := hv _ y ((skip_suf _).trans s2) hy
    have hn : sl all (pos all.length (34 :: t)) (pos all.length l1) = d := sl_suf hl q1
    have e1 : ugO l1 = 58 :: ugO l2 := by rw [← ugO_skip]; exact ugO_pre (take_pre h2 (by omega) (by omega))
    have e2 : ugO l2 = bare all y.1 ++ ugO y.2 := by rw [← ugO_skip]; exact h4
    split at h
    · rename_i u hu; injection h with h; subst h
      refine ⟨[⟨pos all.length (34 :: t), pos all.length l1⟩], [y.1], rfl, rfl, rfl, (take_suf hu).trans ((skip_suf _).trans h3), fun f => ?_⟩
      have e3 : ugO y.2 = 125 :: ugO u := by rw [← ugO_skip]; exact ugO_pre (take_pre hu (by omega) (by omega))
      rw [bareKs_cons, bareKs_nil]
      simp only [List.headD_cons, hn, if_true]
      rw [q2, e1, e2, e3]; simp
    · obtain ⟨u, hu, h⟩ := Option.bind_eq_some_iff.1 h
      have e3 : ugO y.2 = 44 :: ugO u := by rw [← ugO_skip]; exact ugO_pre (take_pre hu (by omega) (by omega))
      obtain ⟨ns', ks', f1, f2, f3, f4, f5⟩ := mems_ug hv m (skip u) _ _ x ((skip_suf u).trans ((take_suf hu).trans ((skip_suf _).trans h3))) h
      refine ⟨⟨pos all.length (34 :: t), pos all.length l1⟩ :: ns', y.1 :: ks', by rw [f1]; simp, by rw [f2]; simp, by simp [f3], f4, fun f => ?_⟩
      have e5 := f5 false
      rw [ugO_skip] at e5
      rw [bareKs_cons]
      simp only [List.headD_cons, hn, if_true, List.tail_cons]
      rw [q2, e1, e2, e3]
      simp only [Bool.false_eq_true, if_false, List.nil_append, List.singleton_append, List.append_assoc, List.cons_append] at e5 ⊢
      rw [e5]
theorem val_ug (all : L) : ∀ n, Ug all (val all.length n)
  | 0 => fun l x _ h => by simp [val] at h
  | n + 1 => fun l x hl h => by
    cases l with
    | nil => simp [val] at h
    | cons c t =>
      have ht : t <:+ all := (List.suffix_cons c t).trans hl
      have leaf : ∀ (k : Int) (d r : L), k ≠ 5 → k ≠ 6 → c :: t = d ++ r → ugO (c :: t) = d ++ ugO r → r <:+ all ∧ ugO (c :: t) = bare all ⟨k, pos all.length (c :: t), pos all.length r, [], []⟩ ++ ugO r := by
        intro k d r h5 h6 e1 e2
        rw [bare_leaf all h5 h6, sl_suf hl e1]
        exact ⟨(show r <:+ c :: t from ⟨d, e1.symm⟩).trans hl, e2⟩
      simp only [val] at h
      split at h
      · rename_i hc; subst hc
        obtain ⟨y, hy, rfl⟩ := Option.map_eq_some_iff.1 h
        show y.2 <:+ all ∧ ugO (123 :: t) = bare all ⟨6, _, _, y.1.1, y.1.2⟩ ++ ugO y.2
        rw [bare_obj, ugO_big (by omega) (by omega), ← ugO_skip t]
        unfold obj at hy
        split at hy
        · rename_i u hu; injection hy with hy; subst hy
          refine ⟨(take_suf hu).trans ((skip_suf t).trans ht), ?_⟩
          rw [bareKs_nil]
          show 123 :: ugO (skip t) = _
          rw [ugO_pre (take_pre hu (by omega) (by omega))]; rfl
        · obtain ⟨ns', ks', f1, f2, f3, f4, f5⟩ := mems_ug (val_ug all n) _ _ _ _ _ ((skip_suf t).trans ht) hy
          refine ⟨f4, ?_⟩
          have := f5 true
          simp only [if_true, List.nil_append] at this f1 f2
          rw [this, f1, f2]; simp
      split at h
      · rename_i hc; subst hc
        obtain ⟨y, hy, rfl⟩ := Option.map_eq_some_iff.1 h
        show y.2 <:+ all ∧ ugO (91 :: t) = bare all ⟨5, _, _, [], y.1⟩ ++ ugO y.2
        rw [bare_arr, ugO_big (by omega) (by omega), ← ugO_skip t]
        unfold arr at hy
        split at hy
        · rename_i u hu; injection hy with hy; subst hy
          refine ⟨(take_suf hu).trans ((skip_suf t).trans ht), ?_⟩
          rw [bareKs_nil]
          show 91 :: ugO (skip t) = _
          rw [ugO_pre (take_pre hu (by omega) (by omega))]; rfl
        · obtain ⟨ks, f1, f2, f3, f4⟩ := elems_ug (val_ug all n) _ _ _ _ ((skip_suf t).trans ht) hy
          refine ⟨f3, ?_⟩
          have := f4 true
          simp only [if_true, List.nil_append] at this f1
          rw [this, f1]; simp
      split at h
      · rename_i hc; subst hc
        obtain ⟨r, hr, rfl⟩ := Option.map_eq_some_iff.1 h
        obtain ⟨d, e1, e2⟩ := quoted_in hr
        exact leaf 4 d r (by decide) (by decide) e1 e2
      split at h
      · obtain ⟨r, hr, rfl⟩ := Option.map_eq_some_iff.1 h
        obtain ⟨d, hd⟩ := num_pre hr
        exact leaf 3 d r (by decide) (by decide) hd.1 (ugO_pre hd)
      split at h
      · rename_i r hr; injection h with h; subst h
        have hd := word_pre (by decide) hr
        exact leaf 0 _ r (by decide) (by decide) hd.1 (ugO_pre hd)
      split at h
      · rename_i r hr; injection h with h; subst h
        have hd := word_pre (by decide) hr
        exact leaf 1 _ r (by decide) (by decide) hd.1 (ugO_pre hd)
      split at h
      · rename_i r hr; injection h with h; subst h
        have hd := word_pre (by decide) hr
        exact leaf 2 _ r (by decide) (by decide) hd.1 (ugO_pre hd)
      · cases h
/-- Ugly of a JSON text is its value, bare. -/
theorem text_ug {all : L} {p : Pl} (h : text all = some p) : ugO all = bare all p := by
  unfold text at h
  obtain ⟨x, hx, h⟩ := Option.bind_eq_some_iff.1 h
  split at h
  · rename_i he
    injection h with h; subst h
    obtain ⟨h1, h2⟩ := val_ug all _ _ x (skip_suf all) hx
    rw [← ugO_skip all, h2, ← ugO_skip x.2, he]
    show _ ++ ugO [] = _
    rw [ugO, List.append_nil]
  · cases h
end Go.Proofs.Ytbnogfljakmfgaa.J
