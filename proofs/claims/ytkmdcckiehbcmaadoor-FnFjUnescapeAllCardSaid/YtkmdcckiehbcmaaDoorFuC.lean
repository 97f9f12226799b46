/- The reference's Kept and Closing; the law FnFjUnescapeAll. -/
import Derived.Test.YtkmdcckiehbcmaaDoorFuUa
import Derived.Test.YtkmdcckiehbcmaaDoorPFnFjUnescapeAllx1
set_option linter.unusedVariables false
set_option linter.unusedSimpArgs false
namespace Go.Proofs.YtkmdcckiehbcmaaDoor.KA
open Go.RowKit Go.Proofs.YtkmdcckiehbcmaaDoorW.PrintWords Go.Proofs.YtkmdcckiehbcmaaDoorW.PrintLast Go.Proofs.YtkmdcckiehbcmaaDoorW.PrintMore Go.Proofs.YtkmdcckiehbcmaaDoor.Aid Go.Proofs.YtkmdcckiehbcmaaDoor.J Go.Proofs.YtkmdcckiehbcmaaDoor.PFnFjUnescapeAll

theorem app_f (k : Nat) (l : List Int) (c : Int) (hc : 0 ≤ c ∧ c ≤ 1114111 ∧ ¬ (55296 ≤ c ∧ c ≤ 57343)) (hl : l.length ≤ 1000000) : spec_appendUTF8.f (k + 1) l c = some (l ++ utf8 c) := by
  obtain ⟨h0, h1, h2⟩ := hc
  have d1 : Int.tdiv c 64 = c / 64 := Int.tdiv_eq_ediv_of_nonneg h0
  have d2 : Int.tdiv c 4096 = c / 4096 := Int.tdiv_eq_ediv_of_nonneg h0
  have d3 : Int.tdiv c 262144 = c / 262144 := Int.tdiv_eq_ediv_of_nonneg h0
  have m1 : Int.tmod c 64 = c % 64 := Int.tmod_eq_emod_of_nonneg h0
  have w1 : wrap64 (c / 64) = c / 64 := w64 (by omega) (by omega)
  have w2 : wrap64 (c / 4096) = c / 4096 := w64 (by omega) (by omega)
  have w3 : wrap64 (c / 262144) = c / 262144 := w64 (by omega) (by omega)
  have m2 : Int.tmod (c / 64) 64 = c / 64 % 64 := Int.tmod_eq_emod_of_nonneg (by omega)
  have m3 : Int.tmod (c / 4096) 64 = c / 4096 % 64 := Int.tmod_eq_emod_of_nonneg (by omega)
  have v1 : wrap64 (128 + c % 64) = 128 + c % 64 := w64 (by omega) (by omega)
  have v2 : wrap64 (128 + c / 64 % 64) = 128 + c / 64 % 64 := w64 (by omega) (by omega)
  have v3 : wrap64 (128 + c / 4096 % 64) = 128 + c / 4096 % 64 := w64 (by omega) (by omega)
  have hh : ¬ (high c = true ∨ low c = true) := by unfold high low; simp; omega
  have e : spec_appendUTF8.j0 (k + 1) l c false = some (l ++ utf8 c) ∨ c < 2048 := by
    by_cases a2 : c < 2048
    · exact .inr a2
    left
    rw [spec_appendUTF8.j0, if_neg (by decide)]
    by_cases a3 : c < 65536
    · have u1 : wrap64 (224 + c / 4096) = 224 + c / 4096 := w64 (by omega) (by omega)
      have e : utf8 c = [224 + c / 4096, 128 + c / 64 % 64, 128 + c % 64] := by unfold utf8; rw [if_neg (by omega), if_neg a2, if_neg hh, if_pos a3]
      rw [if_pos a3, Option.bind_some, if_pos (by simp only [List.length_cons, List.length_nil]; omega), d1, d2, m1, w1, w2, m2, v1, v2, u1, e, Int.emod_eq_of_lt (by omega) (by omega), Int.emod_eq_of_lt (by omega) (by omega), Int.emod_eq_of_lt (a := 128 + c % 64) (by omega) (by omega)]
    · have u1 : wrap64 (240 + c / 262144) = 240 + c / 262144 := w64 (by omega) (by omega)
      have e : utf8 c = [240 + c / 262144, 128 + c / 4096 % 64, 128 + c / 64 % 64, 128 + c % 64] := by unfold utf8; rw [if_neg (by omega), if_neg a2, if_neg hh, if_neg a3]
      rw [if_neg a3, Option.bind_some, if_pos (by simp only [List.length_cons, List.length_nil]; omega), d1, d2, d3, m1, w1, w2, w3, m2, m3, v1, v2, v3, u1, e, Int.emod_eq_of_lt (a := 240 + c / 262144) (by omega) (by omega), Int.emod_eq_of_lt (a := 128 + c / 4096 % 64) (by omega) (by omega), Int.emod_eq_of_lt (a := 128 + c / 64 % 64) (by omega) (by omega), Int.emod_eq_of_lt (a := 128 + c % 64) (by omega) (by omega)]
  unfold spec_appendUTF8.f
  by_cases a1 : c < 128
  · rw [if_pos a1, if_pos (by omega), show utf8 c = [c] from if_pos a1, Int.emod_eq_of_lt h0 (by omega)]
  rw [if_neg a1]
  by_cases a2 : c < 2048
  · have u1 : wrap64 (192 + c / 64) = 192 + c / 64 := w64 (by omega) (by omega)
    have e : utf8 c = [192 + c / 64, 128 + c % 64] := by unfold utf8; rw [if_neg a1, if_pos a2]
    rw [if_pos a2, Option.bind_some, if_pos (by simp only [List.length_cons, List.length_nil]; omega), d1, m1, w1, v1, u1, e, Int.emod_eq_of_lt (a := 192 + c / 64) (by omega) (by omega), Int.emod_eq_of_lt (a := 128 + c % 64) (by omega) (by omega)]
  rw [if_neg a2]
  have e2 := e.resolve_right a2
  have hi : spec_high.f c = some false ∨ (spec_high.f c = some (decide (c ≤ 56319)) ∧ 57344 ≤ c) := by
    unfold spec_high.f
    by_cases g : 55296 ≤ c
    · rw [if_pos g]; exact .inr ⟨rfl, by omega⟩
    · rw [if_neg g]; exact .inl rfl
  have lo : spec_low.f c = some false := by
    unfold spec_low.f
    by_cases g : 56320 ≤ c
    · rw [if_pos g, decide_eq_false (by omega)]
    · rw [if_neg g]
  have hi2 : spec_high.f c = some false := by
    rcases hi with h | ⟨h, h'⟩
    · exact h
    · rw [h, decide_eq_false (by omega)]
  rw [hi2, Option.bind_some, if_neg (by decide), lo, Option.bind_some]
  exact e2
theorem shortE (c : Int) : spec_shortEscape.f c = some (if plainEsc c = true then (short c, true) else (0, false)) := by
  have hs : spec_short.f c = some (short c) := by
    unfold spec_short.f short
    repeat' split
    all_goals rfl
  unfold spec_shortEscape.f
  rw [hs]
  by_cases h1 : c = 34
  · rw [if_pos h1, Option.bind_some, if_pos (by subst h1; rfl)]
  rw [if_neg h1]
  by_cases h2 : c = 92
  · rw [if_pos h2, Option.bind_some, if_pos (by subst h2; rfl)]
  rw [if_neg h2]
  by_cases h3 : c = 47
  · rw [if_pos h3, Option.bind_some, if_pos (by subst h3; rfl)]
  rw [if_neg h3]
  by_cases h4 : c = 98
  · rw [if_pos h4, Option.bind_some, if_pos (by subst h4; rfl)]
  rw [if_neg h4]
  by_cases h5 : c = 102
  · rw [if_pos h5, Option.bind_some, if_pos (by subst h5; rfl)]
  rw [if_neg h5]
  by_cases h6 : c = 110
  · rw [if_pos h6, Option.bind_some, if_pos (by subst h6; rfl)]
  rw [if_neg h6]
  by_cases h7 : c = 114
  · rw [if_pos h7, Option.bind_some, if_pos (by subst h7; rfl)]
  rw [if_neg h7]
  by_cases h8 : c = 116
  · rw [if_pos h8, Option.bind_some, if_pos (by subst h8; rfl)]
  rw [if_neg h8, if_neg]
  unfold plainEsc
  simp [h1, h2, h3, h4, h5, h6, h7, h8]
theorem from_cons (s : ByteArray) (a : Nat) (h : a < s.size) : from_ s a = bt s (a : Int) :: from_ s (a + 1) := by
  have hl : a < (bytesOf s).length := by rw [bytesOf_length]; exact h
  unfold from_
  rw [List.drop_eq_getElem_cons hl]
  congr 1
  have := bytesOf_get? s a h
  rw [List.getElem?_eq_getElem hl] at this
  exact Option.some.inj this
theorem from_end (s : ByteArray) : from_ s s.size = [] := List.eq_nil_of_length_eq_zero (by rw [from_len]; omega)
theorem cutB (s : ByteArray) (a k : Nat) : bytesOf (s.extract a (a + k)) = (from_ s a).take k := by
  rw [bytesOf_extract, show a + k - a = k by omega]; rfl
theorem kept_l0 (s : ByteArray) (hs : s.size ≤ 100000) : ∀ (m a : Nat) (acc : L), s.size - a ≤ m → a ≤ s.size → acc.length ≤ 6 * a → ∃ k, spec_Kept.l0 k s acc (a : Int) = some (strOfNums (acc ++ kp (from_ s a))) := by
  intro m
  induction m with
  | zero =>
    intro a acc h1 h2 h3
    obtain rfl : a = s.size := by omega
    refine ⟨1, ?_⟩
    rw [spec_Kept.l0, if_neg (by omega), from_end, kp_nil, List.append_nil]
  | succ m ih =>
    intro a acc h1 h2 h3
    rcases Nat.lt_or_ge a s.size with ha | ha
    rotate_left 1
    · obtain rfl : a = s.size := by omega
      refine ⟨1, ?_⟩
      rw [spec_Kept.l0, if_neg (by omega), from_end, kp_nil, List.append_nil]
    have hf := from_cons s a ha
    have hlen := from_len s a
    have hw : ∀ n : Nat, n ≤ 12 → wrap64 ((a : Int) + (n : Int)) = ((a + n : Nat) : Int) := fun n hn => by rw [w64 (by omega) (by omega)]; rfl
    have hw1 : wrap64 ((a : Int) + 1) = ((a + 1 : Nat) : Int) := hw 1 (by omega)
    have hw2 : wrap64 ((a : Int) + 2) = ((a + 2 : Nat) : Int) := hw 2 (by omega)
    have hw6 : wrap64 ((a : Int) + 6) = ((a + 6 : Nat) : Int) := hw 6 (by omega)
    have hw12 : wrap64 ((a : Int) + 12) = ((a + 12 : Nat) : Int) := hw 12 (by omega)
    obtain ⟨c, hc⟩ : ∃ c, c = bt s (a : Int) := ⟨_, rfl⟩
    rw [← hc] at hf
    by_cases plain : c ≠ 92 ∨ a + 1 = s.size
    · -- a byte as it is
      have hk : kp (from_ s a) = c :: kp (from_ s (a + 1)) := by
        rw [hf]
        rcases plain with h | h
        · exact kp_plain _ h
        · rw [h, from_end]
          by_cases h92 : c = 92
          · rw [h92, kp_last, kp_nil]
          · exact kp_plain _ h92
      obtain ⟨k, hk2⟩ := ih (a + 1) (acc ++ [c]) (by omega) (by omega) (by rw [List.length_append, List.length_singleton]; omega)
      rw [List.append_assoc] at hk2
      refine ⟨k + 2, ?_⟩
      have j : spec_Kept.j1 (k + 1) s acc (a : Int) true = some (strOfNums (acc ++ kp (from_ s a))) := by
        rw [spec_Kept.j1, if_pos rfl, if_pos (by omega), if_pos (by omega), if_pos (by omega), hw1, ← hc, hk]
        exact hk2
      rw [spec_Kept.l0, if_pos (by omega), if_pos (by omega), ← hc]
      by_cases h92 : c = 92
      · rw [if_pos h92, hw1, show (((a + 1 : Nat) : Int) == (s.size : Int)) = true from beq_iff_eq.mpr (by have := plain.resolve_left (fun h => h h92); omega)]
        exact j
      · rw [if_neg h92]; exact j
    · have h92 : c = 92 := Classical.not_not.1 fun h => plain (.inl h)
      have hne : a + 1 ≠ s.size := fun h => plain (.inr h)
      have ht : from_ s (a + 1) ≠ [] := by
        intro h
        have := from_len s (a + 1)
        rw [h] at this; simp at this; omega
      rw [h92] at hf
      -- one step of k bytes
      have go : ∀ (n : Nat) (o : L), ke (92 :: from_ s (a + 1)) = (n, o) → n ≤ s.size - a → ∃ k, spec_Kept.l0 k s (acc ++ o) ((a + n : Nat) : Int) = some (strOfNums (acc ++ kp (from_ s a))) := fun n o he hn => by
        have h2 := ke_pos (92 :: from_ s (a + 1))
        have h6 := ke_out (92 :: from_ s (a + 1))
        rw [he] at h2 h6
        simp only [] at h2 h6
        obtain ⟨k, hk⟩ := ih (a + n) (acc ++ o) (by omega) (by omega) (by rw [List.length_append]; omega)
        refine ⟨k, hk.trans ?_⟩
        rw [hf, kp_esc ht, he, List.append_assoc]
        simp only []
        rw [← hf, from_drop]
      have hle := ke_le (l := 92 :: from_ s (a + 1)) (by rw [← hf, hlen]; omega)
      rw [← hf, hlen] at hle
      have u0 : ∀ k, spec_unit.f (k + 8) s (a : Int) = some (uR (from_ s a)) := fun k => unit_f k s a hs (by omega)
      have u6 : ∀ k, spec_unit.f (k + 8) s (wrap64 ((a : Int) + 6)) = some (uR (from_ s (a + 6))) := fun k => by rw [hw6]; exact unit_f k s (a + 6) hs (by omega)
      have e6 : (from_ s a).drop 6 = from_ s (a + 6) := from_drop s a 6
      have hl0 : ∀ k x, spec_Kept.j1 (k + 11) s acc (a : Int) false = some x → spec_Kept.l0 (k + 12) s acc (a : Int) = some x := fun k x h => by
        rw [spec_Kept.l0, if_pos (by omega), if_pos (by omega), ← hc, if_pos h92, hw1, show (((a + 1 : Nat) : Int) == (s.size : Int)) = false from beq_eq_false_iff_ne.mpr (by omega)]
        exact h
      have six : ∀ n, unit (from_ s a) = some n → a + 6 ≤ s.size := fun n h => by have := unit_len h; rw [hlen] at this; omega
      have ext : ∀ n : Nat, a + n ≤ s.size → bytesOf (s.extract ((a : Int)).toNat (((a + n : Nat) : Int)).toNat) = (from_ s a).take n := fun n hn => by
        rw [Int.toNat_natCast, Int.toNat_natCast]; exact cutB s a n
      have esz : ∀ n : Nat, (s.extract ((a : Int)).toNat (((a + n : Nat) : Int)).toNat).size ≤ s.size := fun n => by
        rw [ByteArray.size_extract]; omega
      have upK : ∀ {K : Nat} {o : L} {n : Nat} {x : ByteArray}, spec_Kept.l0 K s (acc ++ o) ((a + n : Nat) : Int) = some x → ∀ k, K ≤ k → spec_Kept.l0 k s (acc ++ o) ((a + n : Nat) : Int) = some x := fun {K o n x} h k hk => up (f := fun k => spec_Kept.l0 k s (acc ++ o) ((a + n : Nat) : Int)) (fun k => (spec_Kept.mono_l k).1 _ _ _) h hk
      have key : ∃ K, spec_Kept.j1 (K + 11) s acc (a : Int) false = some (strOfNums (acc ++ kp (from_ s a))) := by
        cases hu : unit (from_ s a) with
        | none =>
          have hu' := hu
          rw [hf] at hu'
          have b1 : bt s (wrap64 ((a : Int) + 1)) = (92 :: from_ s (a + 1)).getD 1 0 := by rw [hw1, bt_from s a 1, hf]
          have sh := shortE ((92 :: from_ s (a + 1)).getD 1 0)
          by_cases hp : plainEsc ((92 :: from_ s (a + 1)).getD 1 0) = true
          · have he : ke (92 :: from_ s (a + 1)) = (2, [short ((92 :: from_ s (a + 1)).getD 1 0)]) := by unfold ke; rw [hu']; simp only []; rw [if_pos hp]
            obtain ⟨K, hK⟩ := go 2 _ he (by omega)
            rw [if_pos hp] at sh
            refine ⟨K, ?_⟩
            rw [spec_Kept.j1, if_neg Bool.false_ne_true, u0 (K + 2), Option.bind_some, u6 (K + 2), Option.bind_some, uR_none hu, if_neg Bool.false_ne_true, spec_Kept.j2, if_neg Bool.false_ne_true, if_neg Bool.false_ne_true, spec_Kept.j3, if_neg Bool.false_ne_true, if_neg Bool.false_ne_true, if_pos (by omega), if_pos (by omega), b1, sh, Option.bind_some, if_pos rfl, if_pos (by omega), hw2]
            exact upK hK _ (by omega)
          · have he : ke (92 :: from_ s (a + 1)) = (2, (92 :: from_ s (a + 1)).take 2) := by unfold ke; rw [hu']; simp only []; rw [if_neg hp]
            obtain ⟨K, hK⟩ := go 2 _ he (by omega)
            rw [if_neg hp] at sh
            have z2 := esz 2
            refine ⟨K, ?_⟩
            rw [spec_Kept.j1, if_neg Bool.false_ne_true, u0 (K + 2), Option.bind_some, u6 (K + 2), Option.bind_some, uR_none hu, if_neg Bool.false_ne_true, spec_Kept.j2, if_neg Bool.false_ne_true, if_neg Bool.false_ne_true, spec_Kept.j3, if_neg Bool.false_ne_true, if_neg Bool.false_ne_true, if_pos (by omega), if_pos (by omega), b1, sh, Option.bind_some, if_neg Bool.false_ne_true, if_pos (by omega), if_pos (by omega), hw2, if_pos (by omega), if_pos (by omega), ext 2 (by omega)]
            rw [← hf] at hK
            exact upK hK _ (by omega)
        | some n =>
          have hu' := hu
          rw [hf] at hu'
          have h6 := six n hu
          have hn := unit_range hu
          have z6 := esz 6
          by_cases hs2 : high n = true ∨ low n = true
          · cases hm : unit (from_ s (a + 6)) with
            | some m2 =>
              have h12 := unit_len hm
              rw [from_len] at h12
              have hm2 := unit_range hm
              have hd : unit ((92 :: from_ s (a + 1)).drop 6) = some m2 := by rw [← hf, e6]; exact hm
              by_cases hh : high n = true ∧ low m2 = true
              · have he : ke (92 :: from_ s (a + 1)) = (12, utf8 (comb n m2)) := by unfold ke; rw [hu']; simp only []; rw [if_pos hs2, hd]; simp only []; rw [if_pos hh]
                obtain ⟨K, hK⟩ := go 12 _ he (by omega)
                have g1 := hh.1
                have g2 := hh.2
                unfold high at g1
                unfold low at g2
                simp only [Bool.and_eq_true, decide_eq_true_eq] at g1 g2
                have wc : wrap64 ((wrap64 (65536 + (wrap64 ((wrap64 (n - 55296)) * 1024)))) + (wrap64 (m2 - 56320))) = comb n m2 := by
                  rw [w64 (x := n - 55296) (by omega) (by omega), w64 (x := (n - 55296) * 1024) (by omega) (by omega), w64 (x := 65536 + (n - 55296) * 1024) (by omega) (by omega), w64 (x := m2 - 56320) (by omega) (by omega), w64 (by omega) (by omega)]
                  rfl
                refine ⟨K, ?_⟩
                rw [spec_Kept.j1, if_neg Bool.false_ne_true, u0 (K + 2), Option.bind_some, u6 (K + 2), Option.bind_some, uR_some hu, uR_some hm, if_pos rfl, high_f, Option.bind_some, hh.1, if_pos rfl, spec_Kept.j2, if_pos rfl, high_f, Option.bind_some, hh.1, if_pos rfl, low_f, Option.bind_some, hh.2, if_pos rfl, wc, app_f (K + 8) acc _ (by unfold comb; omega) (by omega), Option.bind_some, hw12]
                exact upK hK _ (by omega)
              · have he : ke (92 :: from_ s (a + 1)) = (12, [239, 191, 189]) := by unfold ke; rw [hu']; simp only []; rw [if_pos hs2, hd]; simp only []; rw [if_neg hh]
                obtain ⟨K, hK⟩ := go 12 _ he (by omega)
                have fffd : spec_appendUTF8.f (K + 9) acc 65533 = some (acc ++ [239, 191, 189]) := app_f (K + 8) acc 65533 (by omega) (by omega)
                have j2 : spec_Kept.j2 (K + 10) s acc (a : Int) n true m2 true = some (strOfNums (acc ++ kp (from_ s a))) := by
                  rw [spec_Kept.j2, if_pos rfl, high_f, Option.bind_some]
                  cases hhn : high n with
                  | true =>
                    have hlm : low m2 = false := by
                      cases h : low m2 with
                      | false => rfl
                      | true => exact absurd ⟨hhn, h⟩ hh
                    rw [if_pos rfl, low_f, Option.bind_some, hlm, if_neg Bool.false_ne_true, fffd, Option.bind_some, hw12]
                    exact upK hK _ (by omega)
                  | false =>
                    rw [if_neg Bool.false_ne_true, fffd, Option.bind_some, hw12]
                    exact upK hK _ (by omega)
                refine ⟨K, ?_⟩
                rw [spec_Kept.j1, if_neg Bool.false_ne_true, u0 (K + 2), Option.bind_some, u6 (K + 2), Option.bind_some, uR_some hu, uR_some hm, if_pos rfl, high_f, Option.bind_some]
                cases hhn : high n with
                | true => rw [if_pos rfl]; exact j2
                | false =>
                  have hln : low n = true := hs2.resolve_left (by rw [hhn]; decide)
                  rw [if_neg Bool.false_ne_true, low_f, Option.bind_some, hln, if_pos rfl]; exact j2
            | none =>
              have hd : unit ((92 :: from_ s (a + 1)).drop 6) = none := by rw [← hf, e6]; exact hm
              have he : ke (92 :: from_ s (a + 1)) = (6, (92 :: from_ s (a + 1)).take 6) := by unfold ke; rw [hu']; simp only []; rw [if_pos hs2, hd]
              obtain ⟨K, hK⟩ := go 6 _ he (by omega)
              have j3 : spec_Kept.j3 (K + 9) s acc (a : Int) n true true = some (strOfNums (acc ++ kp (from_ s a))) := by
                rw [spec_Kept.j3, if_pos rfl, if_pos (by omega), hw6, if_pos (by omega), if_pos (by omega), if_pos (by omega), ext 6 (by omega)]
                rw [← hf] at hK
                exact upK hK _ (by omega)
              have j2 : spec_Kept.j2 (K + 10) s acc (a : Int) n true 0 false = some (strOfNums (acc ++ kp (from_ s a))) := by
                rw [spec_Kept.j2, if_neg Bool.false_ne_true, if_pos rfl, high_f, Option.bind_some]
                cases hhn : high n with
                | true => rw [if_pos rfl]; exact j3
                | false =>
                  have hln : low n = true := hs2.resolve_left (by rw [hhn]; decide)
                  rw [if_neg Bool.false_ne_true, low_f, Option.bind_some, hln]; exact j3
              refine ⟨K, ?_⟩
              rw [spec_Kept.j1, if_neg Bool.false_ne_true, u0 (K + 2), Option.bind_some, u6 (K + 2), Option.bind_some, uR_some hu, uR_none hm, if_pos rfl, high_f, Option.bind_some]
              cases hhn : high n with
              | true => rw [if_pos rfl]; exact j2
              | false =>
                have hln : low n = true := hs2.resolve_left (by rw [hhn]; decide)
                rw [if_neg Bool.false_ne_true, low_f, Option.bind_some, hln, if_pos rfl]; exact j2
          · have he : ke (92 :: from_ s (a + 1)) = (6, utf8 n) := by unfold ke; rw [hu']; simp only []; rw [if_neg hs2]
            obtain ⟨K, hK⟩ := go 6 _ he (by omega)
            have h1 : high n = false := by cases h : high n with | false => rfl | true => exact absurd (.inl h) hs2
            have h2' : low n = false := by cases h : low n with | false => rfl | true => exact absurd (.inr h) hs2
            have nsur : ¬ (55296 ≤ n ∧ n ≤ 57343) := by unfold high at h1; unfold low at h2'; simp at h1 h2'; omega
            refine ⟨K, ?_⟩
            rw [spec_Kept.j1, if_neg Bool.false_ne_true, u0 (K + 2), Option.bind_some, u6 (K + 2), Option.bind_some, uR_some hu, if_pos rfl, high_f, Option.bind_some, h1, if_neg Bool.false_ne_true, low_f, Option.bind_some, h2', if_neg Bool.false_ne_true, spec_Kept.j2, if_neg Bool.false_ne_true, if_pos rfl, high_f, Option.bind_some, h1, if_neg Bool.false_ne_true, low_f, Option.bind_some, h2', spec_Kept.j3, if_neg Bool.false_ne_true, if_pos rfl, app_f (K + 7) acc n ⟨hn.1, by omega, nsur⟩ (by omega), Option.bind_some, hw6]
            exact upK hK _ (by omega)
      obtain ⟨K, hK⟩ := key
      exact ⟨K + 12, hl0 _ _ hK⟩
theorem kept_f (s : ByteArray) (hs : s.size ≤ 100000) : ∃ k, spec_Kept.f k s = some (strOfNums (kp (bytesOf s))) := kept_l0 s hs s.size 0 [] (by omega) (by omega) (by simp)
/-- Closing. -/
theorem closing_l0 (s : ByteArray) (hs : s.size ≤ 100000) : ∀ (m a : Nat) (sl : Nat), s.size - a ≤ m → a ≤ s.size → sl ≤ a → ∃ k, spec_Closing.l0 k s (sl : Int) (a : Int) = some (match clo (decide (sl % 2 = 0)) (from_ s a) with | some i => ((a + i : Nat) : Int) | none => -1) := by
  intro m
  induction m with
  | zero =>
    intro a sl h1 h2 h3
    obtain rfl : a = s.size := by omega
    refine ⟨1, ?_⟩
    rw [spec_Closing.l0, if_neg (by omega), from_end, clo]
  | succ m ih =>
    intro a sl h1 h2 h3
    rcases Nat.lt_or_ge a s.size with ha | ha
    rotate_left 1
    · obtain rfl : a = s.size := by omega
      refine ⟨1, ?_⟩
      rw [spec_Closing.l0, if_neg (by omega), from_end, clo]
    have hf := from_cons s a ha
    obtain ⟨c, hc⟩ : ∃ c, c = bt s (a : Int) := ⟨_, rfl⟩
    rw [← hc] at hf
    have hw : wrap64 ((a : Int) + 1) = ((a + 1 : Nat) : Int) := by rw [w64 (by omega) (by omega)]; rfl
    have hws : wrap64 ((sl : Int) + 1) = ((sl + 1 : Nat) : Int) := by rw [w64 (by omega) (by omega)]; rfl
    have hmod : (Int.tmod (sl : Int) 2 == 0) = decide (sl % 2 = 0) := by
      have e : Int.tmod (sl : Int) 2 = ((sl % 2 : Nat) : Int) := by rw [Int.tmod_eq_emod_of_nonneg (by omega)]; rfl
      rw [e, Bool.eq_iff_iff, beq_iff_eq, decide_eq_true_iff]; omega
    obtain ⟨k1, i1⟩ := ih (a + 1) (sl + 1) (by omega) (by omega) (by omega)
    obtain ⟨k2, i2⟩ := ih (a + 1) 0 (by omega) (by omega) (by omega)
    have shift : ∀ b, (match (clo b (from_ s (a + 1))).map (· + 1) with | some i => ((a + i : Nat) : Int) | none => -1) = (match clo b (from_ s (a + 1)) with | some i => ((a + 1 + i : Nat) : Int) | none => -1) := fun b => by
      cases clo b (from_ s (a + 1)) with
      | none => rfl
      | some i => simp only [Option.map_some]; congr 1; omega
    have j1f : ∀ b, (b = true → False) → ¬ (c = 34 ∧ decide (sl % 2 = 0) = true) → spec_Closing.j1 (k1 + k2 + 1) s (sl : Int) (a : Int) b = some (match clo (decide (sl % 2 = 0)) (from_ s a) with | some i => ((a + i : Nat) : Int) | none => -1) := fun b hb hn => by
      rw [spec_Closing.j1, if_neg (fun h => hb h), if_pos (by omega), if_pos (by omega), ← hc, hf, clo, if_neg hn, shift, hw]
      by_cases h92 : c = 92
      · rw [if_pos h92, if_pos h92, hws]
        have e : decide ((sl + 1) % 2 = 0) = !decide (sl % 2 = 0) := by
          rw [← decide_not, decide_eq_decide]; omega
        rw [← e]
        exact up (f := fun k => spec_Closing.l0 k s ((sl + 1 : Nat) : Int) ((a + 1 : Nat) : Int)) (fun k => (spec_Closing.mono_l k).1 _ _ _) i1 (by omega)
      · rw [if_neg h92, if_neg h92]
        exact up (f := fun k => spec_Closing.l0 k s ((0 : Nat) : Int) ((a + 1 : Nat) : Int)) (fun k => (spec_Closing.mono_l k).1 _ _ _) i2 (by omega)
    refine ⟨k1 + k2 + 2, ?_⟩
    rw [spec_Closing.l0, if_pos (by omega), if_pos (by omega), ← hc]
    by_cases h34 : c = 34
    · rw [if_pos h34, hmod]
      by_cases hev : decide (sl % 2 = 0) = true
      · rw [hev, spec_Closing.j1, if_pos rfl, hf, clo, if_pos ⟨h34, rfl⟩]; rfl
      · exact j1f _ (fun h => hev h) (fun h => hev h.2)
    · rw [if_neg h34]
      exact j1f false (fun h => by cases h) (fun h => h34 h.1)
def clR (l : L) : Int := match clo true l with | some i => ((i : Nat) : Int) | none => -1
theorem closing_f (s : ByteArray) (hs : s.size ≤ 100000) : ∃ k, spec_Closing.f k s = some (clR (bytesOf s)) := by
  obtain ⟨k, hk⟩ := closing_l0 s hs s.size 0 0 (by omega) (by omega) (by omega)
  refine ⟨k, hk.trans ?_⟩
  show some (match clo true (bytesOf s) with | some i => ((0 + i : Nat) : Int) | none => -1) = _
  unfold clR
  cases clo true (bytesOf s) with
  | none => rfl
  | some i => simp only [Nat.zero_add]
end Go.Proofs.YtkmdcckiehbcmaaDoor.KA
