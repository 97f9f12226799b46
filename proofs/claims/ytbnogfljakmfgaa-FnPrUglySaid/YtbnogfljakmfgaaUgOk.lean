/- The places of a text lie in it. -/
import Derived.Test.YtbnogfljakmfgaaUgPure
set_option linter.unusedVariables false
set_option linter.unusedSimpArgs false
namespace Go.Proofs.Ytbnogfljakmfgaa.J
mutual
def okP (N : Nat) : Pl → Prop
  | ⟨k, b, e, ns, ks⟩ => (0 ≤ b ∧ b ≤ e ∧ e ≤ N) ∧ (k = 6 → ns.length = ks.length) ∧ (∀ n ∈ ns, 0 ≤ n.b ∧ n.b ≤ n.e ∧ n.e ≤ N) ∧ okPs N ks
def okPs (N : Nat) : List Pl → Prop
  | [] => True
  | p :: ks => okP N p ∧ okPs N ks
end
theorem okPs_mem {N : Nat} : ∀ {ks : List Pl}, okPs N ks → ∀ p ∈ ks, okP N p
  | [], _, p, h => by cases h
  | q :: ks, hk, p, h => by
    rw [okPs] at hk
    rcases List.mem_cons.1 h with rfl | h
    · exact hk.1
    · exact okPs_mem hk.2 p h
theorem okPs_append {N : Nat} : ∀ {a b : List Pl}, okPs N a → okPs N b → okPs N (a ++ b)
  | [], b, _, hb => hb
  | p :: a, b, ha, hb => by
    rw [okPs] at ha
    rw [List.cons_append, okPs]
    exact ⟨ha.1, okPs_append ha.2 hb⟩
theorem okPs_one {N : Nat} {p : Pl} (h : okP N p) : okPs N [p] := by rw [okPs, okPs]; exact ⟨h, trivial⟩
theorem pos_ok {N : Nat} {l r : L} (h1 : l.length ≤ N) (h2 : r.length ≤ l.length) : 0 ≤ pos N l ∧ pos N l ≤ pos N r ∧ pos N r ≤ N := by unfold pos; omega
def Okv (N : Nat) (v : L → Option (Pl × L)) : Prop := ∀ l x, l.length ≤ N → v l = some x → okP N x.1
theorem elems_ok {N : Nat} {v : L → Option (Pl × L)} (hs : Short v) (hv : Okv N v) : ∀ (m : Nat) (l : L) (acc : List Pl) (x : List Pl × L), l.length ≤ N → okPs N acc → elems v m l acc = some x → okPs N x.1
  | 0, _, _, _, _, _, h => by simp [elems] at h
  | m + 1, l, acc, x, hl, ha, h => by
    simp only [elems] at h
    obtain ⟨y, hy, h⟩ := Option.bind_eq_some_iff.1 h
    have h1 := hs l y hy
    have h2 := skip_le y.2
    have h3 := okPs_append ha (okPs_one (hv l y hl hy))
    split at h
    · injection h with h; subst h; exact h3
    · obtain ⟨t, ht, h⟩ := Option.bind_eq_some_iff.1 h
      have := take_lt ht; have := skip_le t
      exact elems_ok hs hv m _ _ _ (by omega) h3 h
theorem mems_ok {N : Nat} {v : L → Option (Pl × L)} (hs : Short v) (hv : Okv N v) : ∀ (m : Nat) (l : L) (ns : List Sp) (ks : List Pl) (x : (List Sp × List Pl) × L), l.length ≤ N → okPs N ks → ns.length = ks.length → (∀ n ∈ ns, 0 ≤ n.b ∧ n.b ≤ n.e ∧ n.e ≤ N) → mems N v m l ns ks = some x →
    okPs N x.1.2 ∧ x.1.1.length = x.1.2.length ∧ ∀ n ∈ x.1.1, 0 ≤ n.b ∧ n.b ≤ n.e ∧ n.e ≤ N
  | 0, _, _, _, _, _, _, _, _, h => by simp [mems] at h
  | m + 1, l, ns, ks, x, hl, hk, hlen, hn, h => by
    simp only [mems] at h
    obtain ⟨t, ht, h⟩ := Option.bind_eq_some_iff.1 h
    obtain ⟨l1, h1, h⟩ := Option.bind_eq_some_iff.1 h
    obtain ⟨l2, h2, h⟩ := Option.bind_eq_some_iff.1 h
    obtain ⟨y, hy, h⟩ := Option.bind_eq_some_iff.1 h
    have q1 := take_lt ht; have q2 := str_lt' h1; have q3 := skip_le l1; have q4 := take_lt h2; have q5 := skip_le l2; have q6 := hs _ y hy; have q7 := skip_le y.2
    have hk' := okPs_append hk (okPs_one (hv _ y (by omega) hy))
    have hn' : ∀ n : Sp, n ∈ ns ++ [(⟨pos N l, pos N l1⟩ : Sp)] → 0 ≤ n.b ∧ n.b ≤ n.e ∧ n.e ≤ N := by
      intro n hm
      rcases List.mem_append.1 hm with hm | hm
      · exact hn n hm
      · rw [List.mem_singleton.1 hm]; exact pos_ok hl (by omega)
    have hl' : (ns ++ [(⟨pos N l, pos N l1⟩ : Sp)]).length = (ks ++ [y.1]).length := by simp [hlen]
    split at h
    · injection h with h; subst h; exact ⟨hk', hl', hn'⟩
    · obtain ⟨u, hu, h⟩ := Option.bind_eq_some_iff.1 h
      have := take_lt hu; have := skip_le u
      exact mems_ok hs hv m _ _ _ _ (by omega) hk' hl' hn' h
theorem val_ok (N : Nat) : ∀ n, Okv N (val N n)
  | 0 => fun l x _ h => by simp [val] at h
  | n + 1 => fun l x hl h => by
    have hs := val_short N n
    have hlt := val_short N (n + 1) l x h
    cases l with
    | nil => simp [val] at h
    | cons c t =>
      have ht : t.length ≤ N := by simp only [List.length_cons] at hl; omega
      have hsk := skip_le t
      have leaf : ∀ (k : Int) (r : L), k ≠ 6 → r.length < (c :: t).length → okP N ⟨k, pos N (c :: t), pos N r, [], []⟩ := by
        intro k r hk hr
        rw [okP, okPs]
        exact ⟨pos_ok hl (by omega), fun e => absurd e hk, (fun n hn => by cases hn), trivial⟩
      simp only [val] at h
      split at h
      · obtain ⟨y, hy, rfl⟩ := Option.map_eq_some_iff.1 h
        show okP N ⟨6, pos N (c :: t), pos N y.2, y.1.1, y.1.2⟩
        rw [okP]
        have hp := pos_ok hl (show y.2.length ≤ (c :: t).length from Nat.le_of_lt hlt)
        unfold obj at hy
        split at hy
        · injection hy with hy; subst hy
          rw [okPs]
          exact ⟨hp, fun _ => rfl, (fun n hn => by cases hn), trivial⟩
        · obtain ⟨h1, h2, h3⟩ := mems_ok hs (val_ok N n) _ _ _ _ _ (by omega) (by rw [okPs]; trivial) rfl (fun n hn => by cases hn) hy
          exact ⟨hp, fun _ => h2, h3, h1⟩
      split at h
      · obtain ⟨y, hy, rfl⟩ := Option.map_eq_some_iff.1 h
        show okP N ⟨5, pos N (c :: t), pos N y.2, [], y.1⟩
        rw [okP]
        have hp := pos_ok hl (show y.2.length ≤ (c :: t).length from Nat.le_of_lt hlt)
        unfold arr at hy
        split at hy
        · injection hy with hy; subst hy
          rw [okPs]
          exact ⟨hp, fun _ => rfl, (fun n hn => by cases hn), trivial⟩
        · exact ⟨hp, (fun h => by cases h), (fun n hn => by cases hn), elems_ok hs (val_ok N n) _ _ _ _ (by omega) (by rw [okPs]; trivial) hy⟩
      split at h
      · obtain ⟨r, hr, rfl⟩ := Option.map_eq_some_iff.1 h; exact leaf 4 r (by decide) hlt
      split at h
      · obtain ⟨r, hr, rfl⟩ := Option.map_eq_some_iff.1 h; exact leaf 3 r (by decide) hlt
      split at h
      · rename_i r hr; injection h with h; subst h; exact leaf 0 r (by decide) hlt
      split at h
      · rename_i r hr; injection h with h; subst h; exact leaf 1 r (by decide) hlt
      split at h
      · rename_i r hr; injection h with h; subst h; exact leaf 2 r (by decide) hlt
      · cases h
theorem text_ok {l : L} {p : Pl} (h : text l = some p) : okP l.length p := by
  unfold text at h
  obtain ⟨x, hx, h⟩ := Option.bind_eq_some_iff.1 h
  split at h
  · injection h with h; subst h; exact val_ok _ _ _ x (skip_le l) hx
  · cases h
/-- What is left of the members, of the elements. -/
theorem bareKs_drop (all : L) (o : Bool) (ns : List Sp) (ks : List Pl) (k : Nat) (f : Bool) (hk : k < ks.length) : bareKs all o f (ns.drop k) (ks.drop k) =
    (if f = true then [] else [44]) ++ ((if o = true then sl all (ns.getD k ⟨0, 0⟩).b (ns.getD k ⟨0, 0⟩).e ++ [58] else []) ++ (bare all (ks.getD k ⟨0, 0, 0, [], []⟩) ++ bareKs all o false (ns.drop (k + 1)) (ks.drop (k + 1)))) := by
  rw [List.drop_eq_getElem_cons hk, bareKs_cons]
  have e1 : (ns.drop k).headD ⟨0, 0⟩ = ns.getD k ⟨0, 0⟩ := by
    rw [List.headD_eq_head?_getD, List.head?_drop, List.getD_eq_getElem?_getD]
  have e2 : (ns.drop k).tail = ns.drop (k + 1) := by rw [List.tail_drop]
  have e3 : ks.getD k ⟨0, 0, 0, [], []⟩ = ks[k] := by rw [List.getD_eq_getElem?_getD, List.getElem?_eq_getElem hk]; rfl
  rw [e1, e2, e3]
end Go.Proofs.Ytbnogfljakmfgaa.J
