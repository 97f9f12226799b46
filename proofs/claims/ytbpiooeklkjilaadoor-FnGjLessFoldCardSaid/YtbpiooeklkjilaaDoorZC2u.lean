/- Characters in UTF-8: Go's decoder and the reference's. -/
import Derived.Test.YtbpiooeklkjilaaDoorZC1u
import Derived.Test.YtbpiooeklkjilaaDoorZPFnGjLessFoldx1
set_option linter.unusedVariables false
namespace Go.Proofs.YtbpiooeklkjilaaDoor.J
open Go.RowKit Go.Proofs.YtbpiooeklkjilaaDoorW.PrintWords Go.Proofs.YtbpiooeklkjilaaDoor.Aid Go.Proofs.YtbpiooeklkjilaaDoor.PFnGjLessFold

def from_ (s : ByteArray) (a : Nat) : L := (bytesOf s).drop a
theorem from_len (s : ByteArray) (a : Nat) : (from_ s a).length = s.size - a := by unfold from_; rw [List.length_drop, bytesOf_length]
theorem from_byt (s : ByteArray) (a : Nat) : ∀ x ∈ from_ s a, 0 ≤ x ∧ x ≤ 255 := fun x hx => by
  have := bytesOf_range s x (List.mem_of_mem_drop hx); omega
theorem from_drop (s : ByteArray) (a k : Nat) : (from_ s a).drop k = from_ s (a + k) := by unfold from_; rw [List.drop_drop]
/-- The number of the first j digits behind two bytes. -/
def chrR (l : L) : Int × Int × Bool := match chr l with | some (c, n) => (c, (n : Int), true) | none => (65533, 1, false)
theorem bt_from (s : ByteArray) (a i : Nat) : bt s ((a : Int) + (i : Int)) = (from_ s a).getD i 0 := by
  have := bytesOf_getD s (a + i)
  unfold from_
  rw [getD_drop', this]
  congr 1
theorem w64 {x : Int} (h0 : -1000000000000 ≤ x) (h1 : x ≤ 1000000000000) : wrap64 x = x := by unfold wrap64; omega
theorem l0_step (k : Nat) (s : ByteArray) (a : Nat) (x7 x9 : Int) (m i : Nat) (hs : s.size ≤ 2147483647) (hi : 1 ≤ i) (him : i ≤ m) (ham : a + m < s.size) (h0 : -1000000 ≤ x7) (h1 : x7 ≤ 1000000) :
    spec_Character.l0 (k + 1) s a x7 (m : Int) x9 (i : Int) = if cont ((from_ s a).getD i 0) = true then spec_Character.l0 k s a (x7 * 64 + (from_ s a).getD i 0 - 128) (m : Int) x9 ((i + 1 : Nat) : Int) else some (65533, 1, false) := by
  have hb : 0 ≤ (from_ s a).getD i 0 ∧ (from_ s a).getD i 0 ≤ 255 := from_byt s a _ (by rw [List.getD_eq_getElem?_getD, List.getElem?_eq_getElem (by rw [from_len]; omega)]; simp)
  simp only [spec_Character.l0]
  rw [if_pos (show (i : Int) ≤ (m : Int) by omega), w64 (x := (a : Int) + (i : Int)) (by omega) (by omega), if_pos (show (0 : Int) ≤ (a : Int) + (i : Int) by omega), if_pos (show (a : Int) + (i : Int) < (s.size : Int) by omega), bt_from]
  generalize (from_ s a).getD i 0 = b at *
  rw [w64 (x := b) (by omega) (by omega)]
  by_cases c1 : b < 128
  · rw [if_pos c1, if_neg (fun h => by have := cont_iff.1 h; omega)]
  · rw [if_neg c1]
    by_cases c2 : b > 191
    · rw [if_pos c2, if_neg (fun h => by have := cont_iff.1 h; omega)]
    · rw [if_neg c2, if_pos (cont_iff.2 ⟨by omega, by omega⟩), w64 (x := x7 * 64) (by omega) (by omega), w64 (x := x7 * 64 + b) (by omega) (by omega), w64 (x := x7 * 64 + b - 128) (by omega) (by omega), w64 (x := (i : Int) + 1) (by omega) (by omega)]
      rfl
theorem l0_end (k : Nat) (s : ByteArray) (a : Nat) (x7 x9 : Int) (m : Nat) (hm : m ≤ 3) :
    spec_Character.l0 (k + 1) s a x7 (m : Int) x9 ((m + 1 : Nat) : Int) = if x7 < x9 ∨ x7 > 1114111 ∨ (55296 ≤ x7 ∧ x7 ≤ 57343) then some (65533, 1, false) else some (x7, (m : Int) + 1, true) := by
  simp only [spec_Character.l0]
  rw [if_neg (show ¬ ((m + 1 : Nat) : Int) ≤ (m : Int) by omega)]
  unfold spec_high.f spec_low.f
  by_cases c1 : x7 < x9
  · rw [if_pos c1, if_pos (.inl c1)]
  rw [if_neg c1]
  by_cases c2 : x7 > 1114111
  · rw [if_pos c2, if_pos (.inr (.inl c2))]
  rw [if_neg c2, w64 (x := (m : Int) + 1) (by omega) (by omega)]
  by_cases c3 : 55296 ≤ x7
  · rw [if_pos c3, Option.bind_some]
    by_cases c4 : x7 ≤ 56319
    · rw [if_pos (decide_eq_true c4), if_pos (by omega)]
    · rw [if_neg (by simpa using c4)]
      rw [if_pos (show 56320 ≤ x7 by omega), Option.bind_some]
      by_cases c5 : x7 ≤ 57343
      · rw [if_pos (decide_eq_true c5), if_pos (by omega)]
      · rw [if_neg (by simpa using c5), if_neg (by omega)]
  · rw [if_neg c3, Option.bind_some, if_neg (by decide), if_neg (show ¬ 56320 ≤ x7 by omega), Option.bind_some, if_neg (by decide), if_neg (by omega)]
theorem Character_f (k : Nat) (s : ByteArray) (a : Nat) (hs : s.size ≤ 2147483647) (ha : a < s.size) : spec_Character.f (k + 8) s a = some (chrR (from_ s a)) := by
  have hl := from_len s a
  have hb : ∀ i, 0 ≤ (from_ s a).getD i 0 ∧ (from_ s a).getD i 0 ≤ 255 := fun i => by
    by_cases h : i < (from_ s a).length
    · exact from_byt s a _ (by rw [List.getD_eq_getElem?_getD, List.getElem?_eq_getElem h]; simp)
    · rw [List.getD_eq_getElem?_getD, List.getElem?_eq_none (by omega)]; simp
  have h0 := hb 0
  have h1 := hb 1
  have h2 := hb 2
  have h3 := hb 3
  have e0 : bt s (a : Int) = (from_ s a).getD 0 0 := by have := bt_from s a 0; simpa using this
  have L1 : ∀ k x7 x9 (m : Nat), m ≤ 3 → a + m < s.size → -1000000 ≤ x7 → x7 ≤ 1000000 → 1 ≤ m → spec_Character.l0 (k + 1) s a x7 (m : Int) x9 1 = if cont ((from_ s a).getD 1 0) = true then spec_Character.l0 k s a (x7 * 64 + (from_ s a).getD 1 0 - 128) (m : Int) x9 ((1 + 1 : Nat) : Int) else some (65533, 1, false) :=
    fun k x7 x9 m hm ham h0 h1 hm1 => l0_step k s a x7 x9 m 1 hs (Nat.le_refl _) hm1 ham h0 h1
  unfold spec_Character.f
  rw [if_pos (show (0 : Int) ≤ (a : Int) by omega), if_pos (show (a : Int) < (s.size : Int) by omega), e0, w64 (x := (from_ s a).getD 0 0) (by omega) (by omega)]
  unfold chrR chr
  rw [if_neg (show ¬ (from_ s a).length = 0 by omega)]
  by_cases c0 : (from_ s a).getD 0 0 < 128
  · rw [if_pos c0, if_pos c0]; rfl
  rw [if_neg c0, if_neg c0]
  have J2 : ∀ k x7 x9 (m : Nat), m ≤ 3 → spec_Character.j2 (k + 1) s a x7 (m : Int) x9 = if (from_ s a).length ≤ m then some (65533, 1, false) else spec_Character.l0 k s a x7 (m : Int) x9 1 := by
    intro k x7 x9 m hm
    simp only [spec_Character.j2]
    rw [w64 (x := (s.size : Int) - (a : Int)) (by omega) (by omega), hl]
    by_cases g : (s.size : Int) - (a : Int) ≤ (m : Int)
    · rw [if_pos g, if_pos (by omega)]
    · rw [if_neg g, if_neg (by omega)]
  by_cases c2 : 194 ≤ (from_ s a).getD 0 0 ∧ (from_ s a).getD 0 0 ≤ 223
  · rw [if_pos c2, if_pos c2.1, decide_eq_true c2.2]
    simp only [spec_Character.j0, if_true]
    rw [w64 (x := (from_ s a).getD 0 0 - 192) (by omega) (by omega)]
    rw [show spec_Character.j2 (k + 7) s (a : Int) ((from_ s a).getD 0 0 - 192) 1 128 = _ from J2 (k + 6) ((from_ s a).getD 0 0 - 192) 128 1 (by omega)]
    by_cases g : (from_ s a).length ≤ 1
    · rw [if_pos g, if_neg (by omega)]
    rw [if_neg g]
    have q1 := L1 (k + 5) ((from_ s a).getD 0 0 - 192) 128 1 (by omega) (by omega) (by omega) (by omega) (by omega)
    rw [q1]
    by_cases g1 : cont ((from_ s a).getD 1 0) = true
    · have r1 := cont_iff.1 g1
      rw [if_pos g1, l0_end _ _ _ _ _ 1 (by omega), if_neg (by omega), if_pos ⟨by omega, g1⟩]
      simp only [Option.some.injEq, Prod.mk.injEq]
      exact ⟨by omega, by omega, trivial⟩
    · rw [if_neg g1, if_neg (fun h => g1 h.2)]
  rw [if_neg c2]
  by_cases c3 : 224 ≤ (from_ s a).getD 0 0 ∧ (from_ s a).getD 0 0 ≤ 239
  · rw [if_pos c3, if_pos (show 194 ≤ (from_ s a).getD 0 0 by omega), decide_eq_false (show ¬ (from_ s a).getD 0 0 ≤ 223 by omega)]
    simp only [spec_Character.j0, Bool.false_eq_true, if_false]
    rw [if_pos c3.1, decide_eq_true c3.2]
    simp only [spec_Character.j1, if_true]
    rw [w64 (x := (from_ s a).getD 0 0 - 224) (by omega) (by omega), show ((2 : Int)) = ((2 : Nat) : Int) from rfl, J2 (k + 5) ((from_ s a).getD 0 0 - 224) 2048 2 (by omega)]
    by_cases g : (from_ s a).length ≤ 2
    · rw [if_pos g, if_neg (by omega)]
    rw [if_neg g, L1 (k + 4) ((from_ s a).getD 0 0 - 224) 2048 2 (by omega) (by omega) (by omega) (by omega) (by omega)]
    by_cases g1 : cont ((from_ s a).getD 1 0) = true
    · have r1 := cont_iff.1 g1
      rw [if_pos g1, l0_step (k + 3) s a _ 2048 2 2 hs (by omega) (by omega) (by omega) (by omega) (by omega)]
      by_cases g2 : cont ((from_ s a).getD 2 0) = true
      · have r2 := cont_iff.1 g2
        rw [if_pos g2, l0_end _ _ _ _ _ 2 (by omega)]
        have ee : (((from_ s a).getD 0 0 - 224) * 64 + (from_ s a).getD 1 0 - 128) * 64 + (from_ s a).getD 2 0 - 128 = (((from_ s a).getD 0 0 - 224) * 64 + ((from_ s a).getD 1 0 - 128)) * 64 + ((from_ s a).getD 2 0 - 128) := by omega
        rw [ee]
        generalize hc : (((from_ s a).getD 0 0 - 224) * 64 + ((from_ s a).getD 1 0 - 128)) * 64 + ((from_ s a).getD 2 0 - 128) = c at *
        by_cases g3 : 2048 ≤ c ∧ ¬ (55296 ≤ c ∧ c ≤ 57343)
        · rw [if_neg (by omega), if_pos ⟨by omega, g1, g2, g3⟩]; rfl
        · rw [if_pos (by omega), if_neg (fun h => g3 h.2.2.2)]
      · rw [if_neg g2, if_neg (fun h => g2 h.2.2.1)]
    · rw [if_neg g1, if_neg (fun h => g1 h.2.1)]
  rw [if_neg c3]
  by_cases c4 : 240 ≤ (from_ s a).getD 0 0 ∧ (from_ s a).getD 0 0 ≤ 244
  · rw [if_pos c4, if_pos (show 194 ≤ (from_ s a).getD 0 0 by omega), decide_eq_false (show ¬ (from_ s a).getD 0 0 ≤ 223 by omega)]
    simp only [spec_Character.j0, Bool.false_eq_true, if_false]
    rw [if_pos (show 224 ≤ (from_ s a).getD 0 0 by omega), decide_eq_false (show ¬ (from_ s a).getD 0 0 ≤ 239 by omega)]
    simp only [spec_Character.j1, Bool.false_eq_true, if_false]
    rw [if_pos c4.1, if_pos c4.2, w64 (x := (from_ s a).getD 0 0 - 240) (by omega) (by omega), show ((3 : Int)) = ((3 : Nat) : Int) from rfl, J2 (k + 5) ((from_ s a).getD 0 0 - 240) 65536 3 (by omega)]
    by_cases g : (from_ s a).length ≤ 3
    · rw [if_pos g, if_neg (by omega)]
    rw [if_neg g, L1 (k + 4) ((from_ s a).getD 0 0 - 240) 65536 3 (by omega) (by omega) (by omega) (by omega) (by omega)]
    by_cases g1 : cont ((from_ s a).getD 1 0) = true
    · have r1 := cont_iff.1 g1
      rw [if_pos g1, l0_step (k + 3) s a _ 65536 3 2 hs (by omega) (by omega) (by omega) (by omega) (by omega)]
      by_cases g2 : cont ((from_ s a).getD 2 0) = true
      · have r2 := cont_iff.1 g2
        rw [if_pos g2, l0_step (k + 2) s a _ 65536 3 3 hs (by omega) (by omega) (by omega) (by omega) (by omega)]
        by_cases g3 : cont ((from_ s a).getD 3 0) = true
        · have r3 := cont_iff.1 g3
          rw [if_pos g3, l0_end _ _ _ _ _ 3 (by omega)]
          have ee : ((((from_ s a).getD 0 0 - 240) * 64 + (from_ s a).getD 1 0 - 128) * 64 + (from_ s a).getD 2 0 - 128) * 64 + (from_ s a).getD 3 0 - 128 = ((((from_ s a).getD 0 0 - 240) * 64 + ((from_ s a).getD 1 0 - 128)) * 64 + ((from_ s a).getD 2 0 - 128)) * 64 + ((from_ s a).getD 3 0 - 128) := by omega
          rw [ee]
          generalize hc : ((((from_ s a).getD 0 0 - 240) * 64 + ((from_ s a).getD 1 0 - 128)) * 64 + ((from_ s a).getD 2 0 - 128)) * 64 + ((from_ s a).getD 3 0 - 128) = c at *
          by_cases g4 : 65536 ≤ c ∧ c ≤ 1114111
          · rw [if_neg (by omega), if_pos ⟨by omega, g1, g2, g3, g4⟩]; rfl
          · rw [if_pos (by omega), if_neg (fun h => g4 h.2.2.2.2)]
        · rw [if_neg g3, if_neg (fun h => g3 h.2.2.2.1)]
      · rw [if_neg g2, if_neg (fun h => g2 h.2.2.1)]
    · rw [if_neg g1, if_neg (fun h => g1 h.2.1)]
  rw [if_neg c4]
  by_cases d1 : 194 ≤ (from_ s a).getD 0 0
  · rw [if_pos d1, decide_eq_false (show ¬ (from_ s a).getD 0 0 ≤ 223 by omega)]
    simp only [spec_Character.j0, Bool.false_eq_true, if_false]
    rw [if_pos (show 224 ≤ (from_ s a).getD 0 0 by omega), decide_eq_false (show ¬ (from_ s a).getD 0 0 ≤ 239 by omega)]
    simp only [spec_Character.j1, Bool.false_eq_true, if_false]
    rw [if_pos (show 240 ≤ (from_ s a).getD 0 0 by omega), if_neg (show ¬ (from_ s a).getD 0 0 ≤ 244 by omega)]
  · rw [if_neg d1]
    simp only [spec_Character.j0, Bool.false_eq_true, if_false]
    rw [if_neg (show ¬ 224 ≤ (from_ s a).getD 0 0 by omega)]
    simp only [spec_Character.j1, Bool.false_eq_true, if_false]
    rw [if_neg (show ¬ 240 ≤ (from_ s a).getD 0 0 by omega)]
theorem UTF8_f (s : ByteArray) (hs : s.size ≤ 2147483647) : ∀ (n a : Nat), s.size - a ≤ n → a ≤ s.size → spec_UTF8.l0 (n + 10) s a = some (valid (from_ s a)) := by
  intro n
  induction n with
  | zero =>
    intro a h1 h2
    obtain rfl : a = s.size := by omega
    have e : from_ s s.size = [] := List.eq_nil_of_length_eq_zero (by rw [from_len]; omega)
    simp only [spec_UTF8.l0]
    rw [if_neg (by omega), e, valid_nil]
  | succ n ih =>
    intro a h1 h2
    simp only [spec_UTF8.l0]
    by_cases hlt : a < s.size
    · rw [if_pos (by omega), show n + 1 + 9 = (n + 2) + 8 by omega, Character_f (n + 2) s a hs hlt, Option.bind_some]
      unfold chrR
      cases e : chr (from_ s a) with
      | none => simp only []; rw [if_neg (by decide), valid_none (by rw [from_len]; omega) e]
      | some x =>
        obtain ⟨c, m⟩ := x
        have hc := chr_some e
        rw [from_len] at hc
        simp only [if_true]
        rw [w64 (by omega) (by omega), show (a : Int) + (m : Int) = ((a + m : Nat) : Int) by omega, valid_some e, from_drop]
        exact ih (a + m) (by omega) (by omega)
    · obtain rfl : a = s.size := by omega
      have e : from_ s s.size = [] := List.eq_nil_of_length_eq_zero (by rw [from_len]; omega)
      rw [if_neg (by omega), e, valid_nil]
theorem UTF8_any (s : ByteArray) (w : World) (hs : s.size ≤ 2147483647) :
    Calls Tryd.prog 4 #[.string s] w fun e w' => e = .returned (.bool (valid (bytesOf s))) ∧ Drawn0 w w' := by
  refine spec_UTF8.calls (s.size + 10) s (valid (bytesOf s)) w ?_
  unfold spec_UTF8.f
  have := UTF8_f s hs s.size 0 (by omega) (by omega)
  simpa [from_] using this
end Go.Proofs.YtbpiooeklkjilaaDoor.J
