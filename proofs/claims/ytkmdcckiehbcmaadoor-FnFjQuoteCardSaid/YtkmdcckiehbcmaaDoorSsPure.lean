/- What sjson writes of a text is read back, on lists of bytes. -/
import Derived.Test.YtkmdcckiehbcmaaDoorC1
import Derived.Test.YtkmdcckiehbcmaaDoorEsPure
set_option linter.unusedVariables false
namespace Go.Proofs.YtkmdcckiehbcmaaDoor.J

/-- A row, written inside a string, stands for these bytes, whatever stands behind it. -/
structure St (a d : L) : Prop where
  st : ∀ r, str (a ++ r) = str r
  we : ∀ r, wellE (a ++ r) = wellE r
  un : ∀ r, unq (a ++ r) = d ++ unq r
  by_ : ∀ x ∈ a, 0 ≤ x ∧ x < 256
theorem St.nil : St [] [] := ⟨fun _ => rfl, fun _ => rfl, fun _ => rfl, fun x h => by simp at h⟩
theorem St.app {a d b e : L} (h : St a d) (k : St b e) : St (a ++ b) (d ++ e) :=
  ⟨fun r => by rw [List.append_assoc, h.st, k.st], fun r => by rw [List.append_assoc, h.we, k.we], fun r => by rw [List.append_assoc, h.un, k.un, List.append_assoc], fun x hx => by
    rcases List.mem_append.1 hx with g | g
    · exact h.by_ x g
    · exact k.by_ x g⟩
def okB (x : Int) : Prop := 32 ≤ x ∧ x ≤ 255 ∧ x ≠ 34 ∧ x ≠ 92
theorem St.one {x : Int} (h : okB x) : St [x] [x] := by
  obtain ⟨h1, h2, h3, h4⟩ := h
  refine ⟨fun r => ?_, fun r => ?_, fun r => ?_, fun y hy => by simp at hy; omega⟩
  · show str (x :: r) = _
    rw [str_cons, if_neg h3, if_neg (by omega), if_neg h4]
  · show wellE (x :: r) = _
    exact wellE_plain r h4
  · show unq (x :: r) = _
    exact unq_plain r h4
theorem St.all : ∀ {d : L}, (∀ x ∈ d, okB x) → St d d
  | [], _ => St.nil
  | x :: t, h => (St.one (h x List.mem_cons_self)).app (St.all (fun y hy => h y (List.mem_cons_of_mem _ hy)))
theorem St.esc1 {x : Int} (h : plainEsc x = true) (h1 : 0 ≤ x ∧ x < 256) : St [92, x] [short x] := by
  have hu : ∀ r, unit (92 :: x :: r) = none := fun r => by
    unfold unit
    rw [if_neg]
    simp only [List.getD_cons_succ, List.getD_cons_zero]
    exact fun k => plainEsc_ne h k.2.2.1
  refine ⟨fun r => ?_, fun r => ?_, fun r => ?_, fun y hy => by simp at hy; omega⟩
  · show str (92 :: x :: r) = _
    rw [str_cons, if_neg (by decide), if_neg (by decide), if_pos rfl, esc_plain r h]; rfl
  · show wellE (92 :: x :: r) = _
    exact wellE_yes (esc_plain r h)
  · show unq (92 :: x :: r) = _
    exact unq_short (hu r)
theorem St.num {a b c e : Int} {n : Int} (ha : hex a = true) (hb : hex b = true) (hc : hex c = true) (he : hex e = true) (hn : ((hv a * 16 + hv b) * 16 + hv c) * 16 + hv e = n) (h : high n = false)
    (hr : (0 ≤ a ∧ a < 256) ∧ (0 ≤ b ∧ b < 256) ∧ (0 ≤ c ∧ c < 256) ∧ (0 ≤ e ∧ e < 256)) : St [92, 117, a, b, c, e] (utf8 n) := by
  have hu : ∀ r, unit (92 :: 117 :: a :: b :: c :: e :: r) = some n := fun r => by
    unfold unit
    rw [if_pos ⟨by simp, rfl, rfl, ha, hb, hc, he⟩]
    simp only [List.getD_cons_succ, List.getD_cons_zero]
    rw [hn]
  have hx : ∀ r, esc (117 :: a :: b :: c :: e :: r) = some r := fun r => by
    rw [esc_u]
    simp [hexes, ha, hb, hc, he]
  refine ⟨fun r => ?_, fun r => ?_, fun r => ?_, fun y hy => by simp at hy; omega⟩
  · show str (92 :: 117 :: a :: b :: c :: e :: r) = _
    rw [str_cons, if_neg (by decide), if_neg (by decide), if_pos rfl, hx]; rfl
  · show wellE (92 :: 117 :: a :: b :: c :: e :: r) = _
    exact wellE_yes (hx r)
  · show unq (92 :: 117 :: a :: b :: c :: e :: r) = _
    exact unq_one (hu r) (fun m _ g => by rw [h] at g; cases g.1)
theorem hx1_byt {d : Int} (h0 : 0 ≤ d) (h1 : d ≤ 15) : 0 ≤ hx1 d ∧ hx1 d < 256 := by unfold hx1; split <;> omega
/-- A byte below 128. -/
theorem St.low {c : Int} (h0 : 0 ≤ c) (h1 : c < 128) : St [92, 117, 48, 48, hx1 (c / 16), hx1 (c % 16)] [c] := by
  obtain ⟨a1, a2⟩ := hx1_hex (d := c / 16) (by omega) (by omega)
  obtain ⟨b1, b2⟩ := hx1_hex (d := c % 16) (by omega) (by omega)
  have a3 := hx1_byt (d := c / 16) (by omega) (by omega)
  have b3 := hx1_byt (d := c % 16) (by omega) (by omega)
  have := St.num (n := c) (show hex 48 = true by decide) (show hex 48 = true by decide) a1 b1 (by rw [a2, b2, show hv 48 = 0 by decide]; omega) (by unfold high; simp; omega) ⟨by omega, by omega, a3, b3⟩
  rwa [show utf8 c = [c] by unfold utf8; rw [if_pos h1]] at this
/-- U+2028 and U+2029. -/
theorem St.line {c : Int} {n : Nat} {l : L} (hl : ∀ x ∈ l, 0 ≤ x ∧ x ≤ 255) (h : chr l = some (c, n)) (hc : c = 8232 ∨ c = 8233) : St [92, 117, 50, 48, 50, hx1 (c % 16)] (l.take n) := by
  have hm : ∃ m : L, (∀ x ∈ m, 0 ≤ x ∧ x ≤ 255) ∧ chr m = some (c, 3) ∧ utf8 c = m.take 3 := by
    rcases hc with rfl | rfl
    · exact ⟨[226, 128, 168], by decide, by decide, by decide⟩
    · exact ⟨[226, 128, 169], by decide, by decide, by decide⟩
  obtain ⟨m, m1, m2, m3⟩ := hm
  obtain ⟨rfl, e⟩ := chr_inj hl m1 h m2
  rw [e, ← m3]
  rcases hc with rfl | rfl
  · exact St.num (by decide) (by decide) (by decide) (by decide) (by decide) (by decide) (by decide)
  · exact St.num (by decide) (by decide) (by decide) (by decide) (by decide) (by decide) (by decide)
/-- A character of two bytes or more, as it is. -/
theorem St.wide {c : Int} {n : Nat} {l : L} (hl : ∀ x ∈ l, 0 ≤ x ∧ x ≤ 255) (h : chr l = some (c, n)) (hc : ¬ l.getD 0 0 < 128) : St (l.take n) (l.take n) := by
  have hs := chr_some h
  refine St.all (fun x hx => ?_)
  obtain ⟨i, hi, rfl⟩ := List.getElem_of_mem hx
  rw [List.length_take] at hi
  rw [List.getElem_take]
  have hr := hl (l[i]'(by omega)) (List.getElem_mem _)
  have hg : l.getD i 0 = l[i]'(by omega) := by rw [List.getD_eq_getElem?_getD, List.getElem?_eq_getElem (by omega)]; rfl
  by_cases h0 : i = 0
  · subst h0
    rw [hg] at hc
    unfold okB; omega
  · have := cont_iff.1 (hs.2.2.2.2 i (by omega) (by omega))
    rw [hg] at this
    unfold okB; omega
/-- The text that is written, read: one string, which stands for the bytes. -/
theorem St.text {a d : L} (h : St a d) : text (34 :: (a ++ [34])) = some ⟨4, 0, ((a.length + 2 : Nat) : Int), [], []⟩ := by
  unfold J.text
  have e1 : skip (34 :: (a ++ [34])) = 34 :: (a ++ [34]) := rfl
  rw [e1]
  have e2 : str (a ++ [34]) = some [] := by rw [h.st, str_cons, if_pos rfl]
  have e3 : val (34 :: (a ++ [34])).length ((34 :: (a ++ [34])).length + 1) (34 :: (a ++ [34])) = some (⟨4, 0, ((a.length + 2 : Nat) : Int), [], []⟩, []) := by
    rw [val, if_neg (by decide), if_neg (by decide), if_pos rfl, e2]
    simp [pos]; omega
  rw [e3]; rfl
theorem St.well {a d : L} (h : St a d) : wellE a = true := by have := h.we []; rwa [List.append_nil, wellE_nil] at this
theorem St.unq {a d : L} (h : St a d) : unq a = d := by have := h.un []; rwa [List.append_nil, unq_nil, List.append_nil] at this
end Go.Proofs.YtkmdcckiehbcmaaDoor.J
