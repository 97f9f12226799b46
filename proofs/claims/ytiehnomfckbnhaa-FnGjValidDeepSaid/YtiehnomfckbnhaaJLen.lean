/- What is read is shorter. -/
import Derived.Test.YtiehnomfckbnhaaJPure
set_option linter.unusedVariables false
namespace Go.Proofs.Ytiehnomfckbnhaa.J

theorem opt_le (c : Int) (l : L) : (opt c l).length ≤ l.length := by
  unfold opt
  cases h : take c l with
  | none => exact Nat.le_refl _
  | some t => have := take_lt h; show t.length ≤ _; omega
theorem expTail_lt {l r : L} (h : expTail l = some r) : r.length < l.length := by
  unfold expTail at h
  split at h
  · rename_i u hu; have := take_lt hu; have := digits_lt h; omega
  · have := digits_lt h; have := opt_le 45 l; omega
theorem expo_le {l r : L} (h : expo l = some r) : r.length ≤ l.length := by
  unfold expo at h
  split at h
  · rename_i t ht; have := take_lt ht; have := expTail_lt h; omega
  · split at h
    · rename_i t ht; have := take_lt ht; have := expTail_lt h; omega
    · injection h with h; subst h; exact Nat.le_refl _
theorem frac_le {l r : L} (h : frac l = some r) : r.length ≤ l.length := by
  unfold frac at h
  split at h
  · rename_i t ht
    obtain ⟨u, hu, h⟩ := Option.bind_eq_some_iff.1 h
    have := take_lt ht; have := digits_lt hu; have := expo_le h; omega
  · exact expo_le h
theorem whole_lt {l r : L} (h : whole l = some r) : r.length < l.length := by
  unfold whole at h
  split at h
  · rename_i t ht; injection h with h; subst h; have := take_lt ht; omega
  · exact digits_lt h
theorem num_lt {l r : L} (h : num l = some r) : r.length < l.length := by
  unfold num at h
  obtain ⟨u, hu, h⟩ := Option.bind_eq_some_iff.1 h
  have := whole_lt hu; have := frac_le h; have := opt_le 45 l; omega
theorem word_lt {wd l r : L} (hw : 0 < wd.length) (h : word wd l = some r) : r.length < l.length := by
  unfold word at h
  split at h
  · rename_i hp
    injection h with h; subst h
    have := (List.isPrefixOf_iff_prefix.1 hp).length_le
    rw [List.length_drop]; omega
  · cases h
def Short (v : L → Option (Pl × L)) : Prop := ∀ l x, v l = some x → x.2.length < l.length
theorem elems_lt {v : L → Option (Pl × L)} (hv : Short v) : ∀ (m : Nat) (l : L) (acc : List Pl) (x : List Pl × L), elems v m l acc = some x → x.2.length < l.length
  | 0, _, _, _, h => by simp [elems] at h
  | m + 1, l, acc, x, h => by
    simp only [elems] at h
    obtain ⟨y, hy, h⟩ := Option.bind_eq_some_iff.1 h
    have h1 := hv l y hy
    have h2 := skip_le y.2
    split at h
    · rename_i t ht; injection h with h; subst h; have := take_lt ht; show t.length < _; omega
    · obtain ⟨t, ht, h⟩ := Option.bind_eq_some_iff.1 h
      have := take_lt ht; have := skip_le t; have := elems_lt hv m _ _ _ h; omega
theorem mems_lt {N : Nat} {v : L → Option (Pl × L)} (hv : Short v) : ∀ (m : Nat) (l : L) (ns : List Sp) (ks : List Pl) (x : (List Sp × List Pl) × L), mems N v m l ns ks = some x → x.2.length < l.length
  | 0, _, _, _, _, h => by simp [mems] at h
  | m + 1, l, ns, ks, x, h => by
    simp only [mems] at h
    obtain ⟨t, ht, h⟩ := Option.bind_eq_some_iff.1 h
    obtain ⟨l1, h1, h⟩ := Option.bind_eq_some_iff.1 h
    obtain ⟨l2, h2, h⟩ := Option.bind_eq_some_iff.1 h
    obtain ⟨y, hy, h⟩ := Option.bind_eq_some_iff.1 h
    have := take_lt ht; have := str_lt' h1; have := skip_le l1; have := take_lt h2; have := skip_le l2; have := hv _ y hy; have := skip_le y.2
    split at h
    · rename_i u hu; injection h with h; subst h; have := take_lt hu; show u.length < _; omega
    · obtain ⟨u, hu, h⟩ := Option.bind_eq_some_iff.1 h
      have := take_lt hu; have := skip_le u; have := mems_lt hv m _ _ _ _ h; omega
theorem arr_le {v : L → Option (Pl × L)} (hv : Short v) {t : L} {x : List Pl × L} (h : arr v t = some x) : x.2.length ≤ t.length := by
  unfold arr at h
  have := skip_le t
  split at h
  · rename_i u hu; injection h with h; subst h; have := take_lt hu; show u.length ≤ _; omega
  · have := elems_lt hv _ _ _ _ h; omega
theorem obj_le {N : Nat} {v : L → Option (Pl × L)} (hv : Short v) {t : L} {x : (List Sp × List Pl) × L} (h : obj N v t = some x) : x.2.length ≤ t.length := by
  unfold obj at h
  have := skip_le t
  split at h
  · rename_i u hu; injection h with h; subst h; have := take_lt hu; show u.length ≤ _; omega
  · have := mems_lt hv _ _ _ _ _ h; omega
theorem val_short (N : Nat) : ∀ n, Short (val N n)
  | 0 => fun l x h => by simp [val] at h
  | n + 1 => fun l x h => by
    cases l with
    | nil => simp [val] at h
    | cons c t =>
      simp only [val] at h
      simp only [List.length_cons]
      split at h
      · obtain ⟨y, hy, rfl⟩ := Option.map_eq_some_iff.1 h
        have := obj_le (val_short N n) hy; show y.2.length < _; omega
      split at h
      · obtain ⟨y, hy, rfl⟩ := Option.map_eq_some_iff.1 h
        have := arr_le (val_short N n) hy; show y.2.length < _; omega
      split at h
      · obtain ⟨y, hy, rfl⟩ := Option.map_eq_some_iff.1 h
        have := str_lt' hy; show y.length < _; omega
      split at h
      · obtain ⟨y, hy, rfl⟩ := Option.map_eq_some_iff.1 h
        have := num_lt hy; simp only [List.length_cons] at this; show y.length < _; omega
      split at h
      · rename_i r hr; injection h with h; subst h; have := word_lt (by decide) hr; simp only [List.length_cons] at this; exact this
      split at h
      · rename_i r hr; injection h with h; subst h; have := word_lt (by decide) hr; simp only [List.length_cons] at this; exact this
      split at h
      · rename_i r hr; injection h with h; subst h; have := word_lt (by decide) hr; simp only [List.length_cons] at this; exact this
      · cases h
theorem val_lt {N n : Nat} {l : L} {p : Pl} {t : L} (h : val N n l = some (p, t)) : t.length < l.length := val_short N n l (p, t) h
end Go.Proofs.Ytiehnomfckbnhaa.J
