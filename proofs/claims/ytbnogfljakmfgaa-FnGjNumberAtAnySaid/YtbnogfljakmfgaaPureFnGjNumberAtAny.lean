/- At a digit or a minus sign of a text (at most 2^12 bytes) the number that parseNumber reads begins there, is one byte at least, has no blank, comma, closing bracket or closing brace in it, and ends at one of these or at the text's end. Conditions: none beyond the statement's own guards. -/
import Derived.Test.YtbnogfljakmfgaaPFnGjNumberAtAnyx2
namespace Go.Proofs.Ytbnogfljakmfgaa.Pure
open Go.RowKit Go.Proofs.Ytbnogfljakmfgaa.PFnGjNumberAtAny Go.Proofs.YtbnogfljakmfgaaW.PrintWords Go.Proofs.YtbnogfljakmfgaaW.PrintLast

def stopB (c : Int) : Prop := c ≤ 32 ∨ c = 44 ∨ c = 93 ∨ c = 125

theorem bt_extract (s : ByteArray) (a b : Nat) (k : Int) (h0 : 0 ≤ k) (hk : k < (b : Int) - a) (hb : b ≤ s.size) :
    bt (s.extract a b) k = bt s (a + k) := by
  have h1 : k.toNat < (s.extract a b).size := by rw [ByteArray.size_extract]; omega
  have h2 : ((a : Int) + k).toNat < s.size := by omega
  have e : ((a : Int) + k).toNat = a + k.toNat := by omega
  unfold bt
  rw [dif_pos h1, dif_pos h2]
  rw [ByteArray.getElem_extract]
  simp only [e]

theorem pn_tells (s : ByteArray) (hn : s.size ≤ 4096) (x6 : Int) (h6 : 0 ≤ x6) (d : Nat) : ∀ (k : Nat) (i : Int), x6 ≤ i → i ≤ s.size → (s.size : Int) - i = d → d < k →
    ∃ r, gjson_parseNumber.l0 k s i x6 = some (r, s.extract x6.toNat r.toNat) ∧ i ≤ r ∧ r ≤ s.size ∧ (∀ j, i ≤ j → j < r → ¬ stopB (bt s j)) ∧ (r < s.size → stopB (bt s r)) := by
  induction d with
  | zero =>
    intro k i h0 h1 hd hk
    obtain ⟨k, rfl⟩ : ∃ m, k = m + 1 := ⟨k - 1, by omega⟩
    refine ⟨i, ?_, by omega, h1, fun j hj hj' => by omega, fun h => by omega⟩
    simp only [gjson_parseNumber.l0]; rw [if_neg (by omega), if_pos h6, if_pos (by omega)]
    have : s.size = i.toNat := by omega
    rw [← this]
  | succ d ih =>
    intro k i h0 h1 hd hk
    obtain ⟨k, rfl⟩ : ∃ m, k = m + 1 := ⟨k - 1, by omega⟩
    have hlt : i < (s.size : Int) := by omega
    by_cases hs : stopB (bt s i)
    · refine ⟨i, ?_, by omega, h1, fun j hj hj' => by omega, fun _ => hs⟩
      simp only [gjson_parseNumber.l0]
      rw [if_pos hlt, if_pos (by omega)]
      unfold stopB at hs
      by_cases c1 : bt s i ≤ 32
      · rw [if_pos c1, if_pos h6, if_pos h0, if_pos h1]
      rw [if_neg c1]
      by_cases c2 : bt s i = 44
      · rw [if_pos c2, if_pos h6, if_pos h0, if_pos h1]
      rw [if_neg c2]
      by_cases c3 : bt s i = 93
      · rw [if_pos c3, if_pos h6, if_pos h0, if_pos h1]
      rw [if_neg c3]
      by_cases c4 : bt s i = 125
      · rw [if_pos c4, if_pos h6, if_pos h0, if_pos h1]
      omega
    · obtain ⟨r, hr, g0, g1, g2, g3⟩ := ih k (i + 1) (by omega) (by omega) (by omega) (by omega)
      refine ⟨r, ?_, by omega, g1, fun j hj hj' => ?_, g3⟩
      · simp only [gjson_parseNumber.l0]
        have hs' := hs
        unfold stopB at hs'
        rw [if_pos hlt, if_pos (by omega), if_neg (by omega), if_neg (by omega), if_neg (by omega), if_neg (by omega)]
        have : wrap64 (i + 1) = i + 1 := by unfold wrap64; omega
        rw [this]; exact hr
      · by_cases e : j = i
        · rw [e]; exact hs
        · exact g2 j (by omega) hj'

theorem law_loop (s : ByteArray) (x5 : Int) (raw : ByteArray) (hn : raw.size ≤ 4096) (h : ∀ j : Int, 0 ≤ j → j < raw.size → ¬ stopB (bt raw j))
    (h5 : 0 ≤ x5) (h5' : x5 ≤ s.size) (hstop : x5 < s.size → stopB (bt s x5)) (d : Nat) : ∀ (k : Nat) (i : Int), 0 ≤ i → i ≤ raw.size → (raw.size : Int) - i = d → d < k →
    laws_FnGjNumberAtAny.l0 k s x5 raw i = some true := by
  induction d with
  | zero =>
    intro k i h0 h1 hd hk
    obtain ⟨k, rfl⟩ : ∃ m, k = m + 1 := ⟨k - 1, by omega⟩
    simp only [laws_FnGjNumberAtAny.l0]
    rw [if_neg (by omega)]
    by_cases e : x5 = (s.size : Int)
    · rw [if_pos e]
    rw [if_neg e, if_pos h5, if_pos (by omega)]
    have hs := hstop (by omega)
    unfold stopB at hs
    by_cases c1 : bt s x5 ≤ 32
    · rw [if_pos c1]
    rw [if_neg c1]
    by_cases c2 : bt s x5 = 44
    · rw [if_pos c2]
    rw [if_neg c2]
    by_cases c3 : bt s x5 = 93
    · rw [if_pos c3]
    rw [if_neg c3]
    have : bt s x5 = 125 := by omega
    rw [this]; rfl
  | succ d ih =>
    intro k i h0 h1 hd hk
    obtain ⟨k, rfl⟩ : ∃ m, k = m + 1 := ⟨k - 1, by omega⟩
    have hs := h i h0 (by omega)
    unfold stopB at hs
    simp only [laws_FnGjNumberAtAny.l0]
    rw [if_pos (by omega), if_pos h0, if_neg (by omega), if_neg (by omega), if_neg (by omega), if_neg (by omega)]
    have : wrap64 (i + 1) = i + 1 := by unfold wrap64; omega
    rw [this]; exact ih k (i + 1) (by omega) (by omega) (by omega) (by omega)

theorem j0_true (k : Nat) (s : ByteArray) (i : Int) : laws_FnGjNumberAtAny.j0 (k + 1) s i true = some true := by
  simp only [laws_FnGjNumberAtAny.j0]; rfl

theorem j0_false (s : ByteArray) (i : Int) (hn : s.size ≤ 4096) (h0 : 0 ≤ i) (h1 : i < s.size) (hd : ¬ stopB (bt s i)) : laws_FnGjNumberAtAny.j0 5000 s i false = some true := by
  have e1 : wrap64 (i + 1) = i + 1 := by unfold wrap64; omega
  obtain ⟨r, hr, g0, g1, g2, g3⟩ := pn_tells s hn i h0 (s.size - (i.toNat + 1)) 4999 (i + 1) (by omega) (by omega) (by omega) (by omega)
  obtain ⟨raw, hraw⟩ : ∃ raw, raw = s.extract i.toNat r.toNat := ⟨_, rfl⟩
  have hsz : raw.size = r.toNat - i.toNat := by rw [hraw, ByteArray.size_extract]; omega
  have hcall : impl_GjNumberAt.f 4999 s i = some (r, raw) := by
    unfold impl_GjNumberAt.f gjson_DoorNumber.f gjson_parseNumber.f
    rw [e1, hr, hraw]
    rfl
  rw [laws_FnGjNumberAtAny.j0.eq_def]
  simp only
  rw [if_neg (by simp), hcall]
  simp only [Option.bind_some]
  rw [if_neg (by omega), if_neg (by omega), if_pos h0, if_pos (by omega), if_pos g1]
  rw [← hraw]
  have : (raw.toList != raw.toList) = false := by simp
  rw [this]
  rw [laws_FnGjNumberAtAny.j1.eq_def]
  simp only
  rw [if_neg (by simp)]
  refine law_loop s r raw (by omega) ?_ (by omega) (by omega) (fun h => g3 (by omega)) raw.size 4998 0 (by omega) (by omega) (by omega) (by omega)
  intro j hj hj'
  rw [hraw, bt_extract s i.toNat r.toNat j hj (by omega) (by omega)]
  by_cases e : j = 0
  · subst e
    have : ((i.toNat : Int) + 0) = i := by omega
    rw [this]; exact hd
  · have : ((i.toNat : Int) + j) = i + j := by omega
    rw [this]; exact g2 (i + j) (by omega) (by omega)

theorem FnGjNumberAtAny : laws_FnGjNumberAtAny.Pure := by
  intro s i hn hw
  refine ⟨5000, ?_⟩
  unfold laws_FnGjNumberAtAny.f
  by_cases c1 : (s.size : Int) > 2147483647
  · rw [if_pos c1]
  rw [if_neg c1]
  by_cases c2 : (s.size : Int) > 4096
  · rw [if_pos c2]; exact j0_true _ _ _
  rw [if_neg c2]
  by_cases c3 : i < 0
  · rw [if_pos c3]; exact j0_true _ _ _
  rw [if_neg c3]
  by_cases c4 : i ≥ (s.size : Int)
  · rw [if_pos c4]; exact j0_true _ _ _
  rw [if_neg c4, if_pos (by omega), if_pos (by omega)]
  have hf : ¬ stopB (bt s i) → _ := j0_false s i (by omega) (by omega) (by omega)
  by_cases c5 : bt s i = 45
  · rw [if_pos c5]; exact hf (by unfold stopB; omega)
  rw [if_neg c5]
  by_cases c6 : bt s i < 48
  · rw [if_pos c6]; exact j0_true _ _ _
  rw [if_neg c6]
  by_cases c7 : bt s i > 57
  · rw [decide_eq_true c7]; exact j0_true _ _ _
  · rw [decide_eq_false c7]; exact hf (by unfold stopB; omega)

end Go.Proofs.Ytbnogfljakmfgaa.Pure
