/- Several texts in one. -/
import Derived.Test.YtkmdcckiehbcmaaDoorFqC
import Derived.Test.YtkmdcckiehbcmaaDoorPFnFjQuotex9
import Derived.Test.YtkmdcckiehbcmaaDoorFqPure
import Derived.Test.YtkmdcckiehbcmaaDoorAid
import Derived.BigQuiet
import Derived.Test.YtkmdcckiehbcmaaDoorC1
import Derived.Test.YtkmdcckiehbcmaaDoorPFnFjQuotex1
import Derived.Test.YtkmdcckiehbcmaaDoorFqM1
/- The guards of the law FnFjQuote and the reference's Quote, in plain Lean. -/
set_option linter.unusedVariables false
set_option linter.unusedSimpArgs false
namespace Go.Proofs.YtkmdcckiehbcmaaDoor.KQ
open Go.RowKit Go.Proofs.YtkmdcckiehbcmaaDoorW.PrintWords Go.Proofs.YtkmdcckiehbcmaaDoorW.PrintLast Go.Proofs.YtkmdcckiehbcmaaDoorW.PrintMore Go.Proofs.YtkmdcckiehbcmaaDoor.Aid Go.Proofs.YtkmdcckiehbcmaaDoor.J Go.Proofs.YtkmdcckiehbcmaaDoor.PFnFjQuote

theorem up {α : Type} {f : Nat → Option α} (h : ∀ k, LeO (f k) (f (k + 1))) {k : Nat} {r : α} (e : f k = some r) : ∀ {k' : Nat}, k ≤ k' → f k' = some r := by
  intro k' hk
  obtain ⟨d, rfl⟩ : ∃ d, k' = k + d := ⟨k' - k, by omega⟩
  clear hk
  induction d with
  | zero => exact e
  | succ d ih => exact h _ _ ih
theorem w64 {x : Int} (h0 : -1000000000000 ≤ x) (h1 : x ≤ 1000000000000) : wrap64 x = x := by unfold wrap64; omega
theorem from_cons' (s : ByteArray) (a : Nat) (h : a < s.size) : from_ s a = bt s (a : Int) :: from_ s (a + 1) := by
  have hl : a < (bytesOf s).length := by rw [bytesOf_length]; exact h
  unfold from_
  rw [List.drop_eq_getElem_cons hl]
  congr 1
  have := bytesOf_get? s a h
  rw [List.getElem?_eq_getElem hl] at this
  exact Option.some.inj this
theorem from_end' (s : ByteArray) : from_ s s.size = [] := List.eq_nil_of_length_eq_zero (by rw [from_len]; omega)
theorem pl1_iff (c : Int) : pl1 c = true ↔ 32 ≤ c ∧ c ≠ 34 ∧ c ≠ 92 := by unfold pl1; simp [and_assoc]
theorem pl2_iff (c : Int) : pl2 c = true ↔ (32 ≤ c ∧ c ≤ 126) ∨ c = 8 ∨ c = 9 ∨ c = 10 ∨ c = 12 ∨ c = 13 := by unfold pl2; simp [or_assoc]
/-- Quote. -/
theorem quote_l0 (s : ByteArray) (hs : s.size ≤ 1000) : ∀ (m i : Nat) (acc : L), i + m = s.size → acc.length ≤ 2 * i + 1 → (∀ x ∈ from_ s i, pl1 x = true ∨ pl2 x = true) → ∃ k, spec_Quote.l0 k s acc (i : Int) = some (strOfNums (acc ++ (qs (from_ s i) ++ [34]))) := by
  intro m
  induction m with
  | zero =>
    intro i acc h hl _
    obtain rfl : i = s.size := by omega
    refine ⟨1, ?_⟩
    rw [spec_Quote.l0, if_neg (by omega), if_pos (by omega), from_end']; rfl
  | succ m ih =>
    intro i acc h hl hp
    have hf := from_cons' s i (by omega)
    rw [hf] at hp ⊢
    obtain ⟨c, hc⟩ : ∃ c, c = bt s (i : Int) := ⟨_, rfl⟩
    rw [← hc] at hp ⊢
    have hcp := hp c List.mem_cons_self
    rw [pl1_iff, pl2_iff] at hcp
    have hw : wrap64 ((i : Int) + 1) = ((i + 1 : Nat) : Int) := by rw [w64 (by omega) (by omega)]; rfl
    have hz := qz_len c
    obtain ⟨k, hk⟩ := ih (i + 1) (acc ++ qz c) (by omega) (by rw [List.length_append]; omega) (fun x hx => hp x (List.mem_cons_of_mem _ hx))
    rw [List.append_assoc, ← List.append_assoc (qz c), ← qs_cons] at hk
    have two : ∀ x, qz c = [92, x] → spec_shortOf.f c = some (x, true) → c ≠ 47 → ∃ k, spec_Quote.l0 k s acc (i : Int) = some (strOfNums (acc ++ (qs (c :: from_ s (i + 1)) ++ [34]))) := fun x e1 e2 e3 => by
      refine ⟨k + 2, ?_⟩
      rw [spec_Quote.l0, if_pos (by omega), if_pos (by omega), ← hc, e2, Option.bind_some, if_pos rfl, show (c != 47) = true from bne_iff_ne.mpr e3, spec_Quote.j1, if_pos rfl, Option.bind_some, if_pos (by simp only [List.length_cons, List.length_nil]; omega), hw, ← e1]
      exact hk
    by_cases h8 : c = 8
    · exact two 98 (by rw [h8]; rfl) (by rw [h8]; rfl) (by omega)
    by_cases h12 : c = 12
    · exact two 102 (by rw [h12]; rfl) (by rw [h12]; rfl) (by omega)
    by_cases h10 : c = 10
    · exact two 110 (by rw [h10]; rfl) (by rw [h10]; rfl) (by omega)
    by_cases h13 : c = 13
    · exact two 114 (by rw [h13]; rfl) (by rw [h13]; rfl) (by omega)
    by_cases h9 : c = 9
    · exact two 116 (by rw [h9]; rfl) (by rw [h9]; rfl) (by omega)
    by_cases h34 : c = 34
    · exact two 34 (by rw [h34]; rfl) (by rw [h34]; rfl) (by omega)
    by_cases h92 : c = 92
    · exact two 92 (by rw [h92]; rfl) (by rw [h92]; rfl) (by omega)
    have hq : qz c = [c] := by
      unfold qz
      rw [if_neg h34, if_neg h92, if_neg h8, if_neg h12, if_neg h10, if_neg h13, if_neg h9]
    rw [hq] at hk
    have j : ∀ x6, spec_Quote.j1 (k + 1) s acc (i : Int) c x6 false = some (strOfNums (acc ++ (qs (c :: from_ s (i + 1)) ++ [34]))) := fun x6 => by
      rw [spec_Quote.j1, if_neg Bool.false_ne_true, if_neg (by omega), if_pos (by omega), hw]
      exact hk
    refine ⟨k + 2, ?_⟩
    rw [spec_Quote.l0, if_pos (by omega), if_pos (by omega), ← hc]
    unfold spec_shortOf.f
    rw [if_neg h8, if_neg h12, if_neg h10, if_neg h13, if_neg h9, if_neg h34, if_neg h92]
    by_cases h47 : c = 47
    · rw [if_pos h47, Option.bind_some, if_pos rfl, show (c != 47) = false from bne_eq_false_iff_eq.mpr h47]
      exact j _
    · rw [if_neg h47, Option.bind_some, if_neg Bool.false_ne_true]
      exact j _
theorem quote_f (s : ByteArray) (hs : s.size ≤ 1000) (hp : (bytesOf s).all pl1 = true ∨ (bytesOf s).all pl2 = true) : ∃ k, spec_Quote.f k s = some (strOfNums (34 :: (qs (bytesOf s) ++ [34]))) := by
  have := quote_l0 s hs s.size 0 [34] (by omega) (by simp) (fun x hx => hp.elim (fun h => .inl (List.all_eq_true.1 h x hx)) (fun h => .inr (List.all_eq_true.1 h x hx)))
  exact this
/-- Escaped. -/
theorem escaped_l0 (s : ByteArray) (hs : s.size ≤ 100000) : ∀ (m i : Nat), i + m = s.size → spec_Escaped.l0 (m + 1) s (i : Int) = some ((from_ s i).any (· == 92)) := by
  intro m
  induction m with
  | zero =>
    intro i h
    obtain rfl : i = s.size := by omega
    rw [from_end', spec_Escaped.l0, if_neg (by omega)]; rfl
  | succ m ih =>
    intro i h
    have hw : wrap64 ((i : Int) + 1) = ((i + 1 : Nat) : Int) := by rw [w64 (by omega) (by omega)]; rfl
    rw [spec_Escaped.l0, if_pos (by omega), if_pos (by omega), from_cons' s i (by omega), List.any_cons]
    by_cases h92 : bt s (i : Int) = 92
    · rw [if_pos h92, h92]; rfl
    · rw [if_neg h92, hw, ih (i + 1) (by omega), show (bt s (i : Int) == 92) = false from beq_eq_false_iff_ne.mpr h92, Bool.false_or]
theorem escaped_f (s : ByteArray) (hs : s.size ≤ 100000) : ∃ k, spec_Escaped.f k s = some ((bytesOf s).any (· == 92)) := ⟨s.size + 1, escaped_l0 s hs s.size 0 (by omega)⟩
/-- What is escaped has a backslash. -/
theorem esc_has {l : L} (h1 : l.all pl1 = false) (h2 : l.all pl2 = true) : (34 :: (qs l ++ [34]) : L).any (· == 92) = true := by
  obtain ⟨c, hc, hn⟩ := List.all_eq_false.1 h1
  have hp2 := (pl2_iff c).1 (List.all_eq_true.1 h2 c hc)
  have hn' : ¬ (32 ≤ c ∧ c ≠ 34 ∧ c ≠ 92) := fun h => hn ((pl1_iff c).2 h)
  have h92 : (92 : Int) ∈ qz c := by
    have : c = 34 ∨ c = 92 ∨ c = 8 ∨ c = 9 ∨ c = 10 ∨ c = 12 ∨ c = 13 := by omega
    rcases this with rfl | rfl | rfl | rfl | rfl | rfl | rfl
    all_goals exact List.mem_cons_self
  rw [List.any_eq_true]
  exact ⟨92, List.mem_cons_of_mem _ (List.mem_append_left _ (List.mem_flatMap.2 ⟨c, hc, h92⟩)), rfl⟩
end Go.Proofs.YtkmdcckiehbcmaaDoor.KQ

/- The thin package's FjQuote. -/
set_option linter.unusedVariables false
set_option linter.unusedSimpArgs false
namespace Go.Proofs.YtkmdcckiehbcmaaDoor.J
open Go.RowKit Go.Proofs.YtkmdcckiehbcmaaDoorW.PrintWords Go.Proofs.YtkmdcckiehbcmaaDoorW.PrintLast Go.Proofs.YtkmdcckiehbcmaaDoorW.PrintMore Go.Proofs.YtkmdcckiehbcmaaDoor.Aid
theorem strSize (xs : L) : (strOfNums xs).size = xs.length := by
  unfold strOfNums
  simp [ByteArray.size]
set_option maxHeartbeats 4000000 in
set_option maxRecDepth 100000 in
theorem FjQuote_any (s : ByteArray) (w : World) (hs : s.size ≤ 1000) (hp : (bytesOf s).all pl1 = true ∨ (bytesOf s).all pl2 = true) :
    Calls Tryd.prog 10 #[.string s] w fun e w' => e = .returned (.string (strOfNums (34 :: (qs (bytesOf s) ++ [34])))) ∧ Below w.heap.size w w' := by
  have hql := qs_len (bytesOf s)
  rw [bytesOf_length] at hql
  have HN := Lib.hid (fun (W : World) (A : Nat) (h : Ar w W A (.slice none 0 0) (.slice none 0 0)) => newstr_any w W A s h hs hp)
  obtain ⟨q, hq⟩ : ∃ q, q = qs (bytesOf s) := ⟨_, rfl⟩
  have hby : Hid (∀ x ∈ q, 0 ≤ x ∧ x < 256) := Lib.hid (by rw [hq]; exact qs_byt (bytesOf_range s))
  rw [← hq] at HN hql ⊢
  obtain ⟨r, hr⟩ : ∃ r, r = strOfNums (34 :: (q ++ [34])) := ⟨_, rfl⟩
  replace hr := Lib.hid hr
  rw [← hr.out]
  clear hp hq
  have HA := Lib.hid (Ar.mk (blk_new w (.cells #[.slice none 0 0, .slice none 0 0] tAr)) (Nat.le_refl _) (below_alloc (Below.refl _ _) _))
  go_enter Tryd.func10, Tryd.ntmps10
  go_wp2_with (first
    | (go_at_call 24; refine (HN.out _ _ HA.out).mono ?_; rintro e w1 ⟨B, Z, rfl, hV, h3, h4, hb⟩; have HM := Lib.hid (marshal_any _ w1 B Z _ hV h3 h4 (by rw [strSize]; omega)); have hB := Lib.hid hb; clear hV h3 h4 hb)
    | (go_at_call 25; go_loud (refine HM.out.mono ?_; rintro e w2 ⟨v1, rfl, ho⟩; replace hB := Lib.hid (below_step hB.out ho.1); rw [bytes_of_str _ hby.out] at ho; obtain ⟨g, cp, cur, rfl, -, hRow, -, -, -, htk⟩ := ho.2; have ks := in_string (c := cp) (In.of_row hRow htk); rw [← hr.out] at ks; obtain ⟨n, hn⟩ : ∃ n, n = (34 :: (q ++ [34])).length := ⟨_, rfl⟩; rw [← hn] at ks ⊢; clear ho hRow htk hn)))
  go_ret
  exact ⟨rfl, hB.out⟩
end Go.Proofs.YtkmdcckiehbcmaaDoor.J

/- fjPlain. -/
set_option linter.unusedVariables false
set_option linter.unusedSimpArgs false
namespace Go.Proofs.YtkmdcckiehbcmaaDoor.J
open Go.RowKit Go.Proofs.YtkmdcckiehbcmaaDoorW.PrintWords Go.Proofs.YtkmdcckiehbcmaaDoorW.PrintLast Go.Proofs.YtkmdcckiehbcmaaDoorW.PrintMore Go.Proofs.YtkmdcckiehbcmaaDoor.Aid
/-- What fjPlain asks of a byte. -/
def Cf (x : Int) (g1 g2 g3 g4 g5 g6 g7 g8 g9 : Bool) : Prop :=
  (decide (32 ≤ x) = g1 ∧ decide (x ≥ 32) = g1 ∧ (x != 34) = g2 ∧ (x != 92) = g3 ∧ decide (x ≤ 126) = g4 ∧ (x == 8) = g5 ∧ (x == 9) = g6 ∧ (x == 10) = g7 ∧ (x == 12) = g8 ∧ (x == 13) = g9)
theorem cls (x : Int) : Cf x false true true true true false false false false ∨ Cf x false true true true false true false false false ∨ Cf x false true true true false false true false false ∨ Cf x false true true true false false false true false ∨ Cf x false true true true false false false false true
    ∨ Cf x false true true true false false false false false ∨ Cf x true false true true false false false false false ∨ Cf x true true false true false false false false false ∨ Cf x true true true true false false false false false ∨ Cf x true true true false false false false false false := by
  unfold Cf
  have h : x = 8 ∨ x = 9 ∨ x = 10 ∨ x = 12 ∨ x = 13 ∨ (x < 32 ∧ x ≠ 8 ∧ x ≠ 9 ∧ x ≠ 10 ∧ x ≠ 12 ∧ x ≠ 13) ∨ x = 34 ∨ x = 92 ∨ (32 ≤ x ∧ x ≤ 126 ∧ x ≠ 34 ∧ x ≠ 92) ∨ 126 < x := by omega
  simp only [decide_eq_true_eq, decide_eq_false_iff_not, bne_iff_ne, bne_eq_false_iff_eq, beq_iff_eq, beq_eq_false_iff_ne]
  rcases h with h | h | h | h | h | h | h | h | h | h
  · exact Or.inl (by refine ⟨?_, ?_, ?_, ?_, ?_, ?_, ?_, ?_, ?_, ?_⟩ <;> omega)
  · exact Or.inr (Or.inl (by refine ⟨?_, ?_, ?_, ?_, ?_, ?_, ?_, ?_, ?_, ?_⟩ <;> omega))
  · exact Or.inr (Or.inr (Or.inl (by refine ⟨?_, ?_, ?_, ?_, ?_, ?_, ?_, ?_, ?_, ?_⟩ <;> omega)))
  · exact Or.inr (Or.inr (Or.inr (Or.inl (by refine ⟨?_, ?_, ?_, ?_, ?_, ?_, ?_, ?_, ?_, ?_⟩ <;> omega))))
  · exact Or.inr (Or.inr (Or.inr (Or.inr (Or.inl (by refine ⟨?_, ?_, ?_, ?_, ?_, ?_, ?_, ?_, ?_, ?_⟩ <;> omega)))))
  · exact Or.inr (Or.inr (Or.inr (Or.inr (Or.inr (Or.inl (by refine ⟨?_, ?_, ?_, ?_, ?_, ?_, ?_, ?_, ?_, ?_⟩ <;> omega))))))
  · exact Or.inr (Or.inr (Or.inr (Or.inr (Or.inr (Or.inr (Or.inl (by refine ⟨?_, ?_, ?_, ?_, ?_, ?_, ?_, ?_, ?_, ?_⟩ <;> omega)))))))
  · exact Or.inr (Or.inr (Or.inr (Or.inr (Or.inr (Or.inr (Or.inr (Or.inl (by refine ⟨?_, ?_, ?_, ?_, ?_, ?_, ?_, ?_, ?_, ?_⟩ <;> omega))))))))
  · exact Or.inr (Or.inr (Or.inr (Or.inr (Or.inr (Or.inr (Or.inr (Or.inr (Or.inl (by refine ⟨?_, ?_, ?_, ?_, ?_, ?_, ?_, ?_, ?_, ?_⟩ <;> omega)))))))))
  · exact Or.inr (Or.inr (Or.inr (Or.inr (Or.inr (Or.inr (Or.inr (Or.inr (Or.inr ((by refine ⟨?_, ?_, ?_, ?_, ?_, ?_, ?_, ?_, ?_, ?_⟩ <;> omega))))))))))
theorem Cf.pl1 {x : Int} {g1 g2 g3 g4 g5 g6 g7 g8 g9 : Bool} (h : Cf x g1 g2 g3 g4 g5 g6 g7 g8 g9) : pl1 x = (g1 && g2 && g3) := by
  obtain ⟨h1, _, h2, h3, _⟩ := h
  rw [← h1, ← h2, ← h3]
  unfold J.pl1
  first | rfl | (simp [Bool.and_assoc])
theorem Cf.pl2 {x : Int} {g1 g2 g3 g4 g5 g6 g7 g8 g9 : Bool} (h : Cf x g1 g2 g3 g4 g5 g6 g7 g8 g9) : pl2 x = ((g1 && g4) || g5 || g6 || g7 || g8 || g9) := by
  obtain ⟨h1, _, _, _, h4, h5, h6, h7, h8, h9⟩ := h
  rw [← h1, ← h4, ← h5, ← h6, ← h7, ← h8, ← h9]
  unfold J.pl2
  first | rfl | (simp [Bool.or_assoc])
theorem take_snocP (s : ByteArray) (i : Nat) (h : i < s.size) : (bytesOf s).take (i + 1) = (bytesOf s).take i ++ [((s[i]'h).toNat : Int)] := by
  have hl : i < (bytesOf s).length := by rw [bytesOf_length]; exact h
  rw [List.take_succ_eq_append_getElem hl]
  congr 2
  have h1 := bt_at s (i : Int) (by rw [Int.toNat_natCast]; exact h)
  have h2 := bytesOf_get? s i h
  rw [List.getElem?_eq_getElem hl] at h2
  rw [Option.some.inj h2, ← h1]; rfl
def PlI (w W : World) (s : ByteArray) (kq : Nat) (v3 v4 v5 : Value) : Prop := ∃ a : Nat, v5 = .int .i64 ((a : Nat) : Int) ∧ a + kq = s.size ∧ v3 = .bool (((bytesOf s).take a).all J.pl1) ∧ v4 = .bool (((bytesOf s).take a).all J.pl2) ∧ Below w.heap.size w W
set_option maxHeartbeats 4000000 in
set_option maxRecDepth 100000 in
theorem plain_any (s : ByteArray) (w : World) (hs : s.size ≤ 1000) :
    Calls Tryd.prog 9 #[.string s] w fun e w' => e = .returned (.bool ((bytesOf s).all J.pl1 || (bytesOf s).all J.pl2)) ∧ Below w.heap.size w w' := by
  have hb := Lib.hid (Below.refl w.heap.size w)
  go_enter Tryd.func9, Tryd.ntmps9
  go_wp2
  go_loopg [3, 4, 5] s.size (fun kq v3 v4 v5 w' => Hid (PlI w w' s kq v3 v4 v5))
  case atStart => exact Lib.hid ⟨0, rfl, by omega, by simp, by simp, hb.out⟩
  case round =>
    obtain ⟨a, rfl, hak, rfl, rfl, hB⟩ := hrel.out
    clear hrel hb
    have hb := Lib.hid hB
    have HK := Lib.hid hak
    clear hB
    obtain ⟨b1, e1⟩ : ∃ b, b = ((bytesOf s).take a).all J.pl1 := ⟨_, rfl⟩
    obtain ⟨b2, e2⟩ : ∃ b, b = ((bytesOf s).take a).all J.pl2 := ⟨_, rfl⟩
    have E1 := Lib.hid e1
    have E2 := Lib.hid e2
    rw [← e1, ← e2]
    clear e1 e2
    rcases Nat.lt_or_ge a s.size with hlt | hge
    · have fin : Hid (∀ W, Below w.heap.size w W → PlI w W s (s.size - (a + 1)) (.bool (b1 && J.pl1 ((s[a]'hlt).toNat : Int))) (.bool (b2 && J.pl2 ((s[a]'hlt).toNat : Int))) (.int .i64 ((a + 1 : Nat) : Int))) := Lib.hid (fun W h => by
        refine ⟨a + 1, rfl, by omega, ?_, ?_, h⟩
        · rw [take_snocP s a hlt, List.all_append, ← E1.out]; simp
        · rw [take_snocP s a hlt, List.all_append, ← E2.out]; simp)
      have C := cls ((s[a]'hlt).toNat : Int)
      rcases C with C | C | C | C | C | C | C | C | C | C
      all_goals
        have P1 := Lib.hid C.pl1
        have P2 := Lib.hid C.pl2
        obtain ⟨c0, c1, c2, c3, c4, c5, c6, c7, c8, c9⟩ := C
        cases b1 <;> cases b2
        all_goals
          go_wp2
          go_roundg (s.size - (a + 1))
          case rel =>
            have := fin.out _ hb.out
            rw [P1.out, P2.out] at this
            exact Lib.hid this
          case measure => have := HK.out; omega
    · obtain rfl : a = s.size := by omega
      have F : Hid ((b1 || b2) = ((bytesOf s).all J.pl1 || (bytesOf s).all J.pl2)) := Lib.hid (by rw [E1.out, E2.out, List.take_of_length_le (by rw [bytesOf_length]; exact Nat.le_refl _)])
      clear E1 E2
      cases b1 <;> cases b2
      all_goals
        go_wp2
        go_ret
        exact ⟨by rw [← F.out]; rfl, hb.out⟩
end Go.Proofs.YtkmdcckiehbcmaaDoor.J

/- Characters in UTF-8: Go's decoder and the reference's. -/
set_option linter.unusedVariables false
namespace Go.Proofs.YtkmdcckiehbcmaaDoor.J
open Go.RowKit Go.Proofs.YtkmdcckiehbcmaaDoorW.PrintWords Go.Proofs.YtkmdcckiehbcmaaDoor.Aid Go.Proofs.YtkmdcckiehbcmaaDoor.PFnFjQuote

theorem get_from (s : ByteArray) (i : Nat) : ((s.get! i).toNat : Int) = (bytesOf s).getD i 0 := by
  have e : s.data.toList.getD i 0 = s.get! i := by
    cases s with | mk d =>
    show d.toList.getD i 0 = d[i]!
    rw [List.getD_eq_getElem?_getD, Array.getElem?_toList, getElem!_def]
    cases d[i]? <;> rfl
  rw [← e]
  unfold bytesOf
  rw [List.getD_eq_getElem?_getD, List.getD_eq_getElem?_getD, List.getElem?_map]
  cases s.data.toList[i]? <;> rfl
theorem decodeGo_chr (s : ByteArray) {c : Int} {n : Nat} (h : chr (bytesOf s) = some (c, n)) : ((Lib.decodeGo s).1 : Int) = c ∧ (Lib.decodeGo s).2 = n := by
  have hs := chr_some h
  have hl := bytesOf_length s
  have e0 := get_from s 0
  have e1 := get_from s 1
  have e2 := get_from s 2
  have e3 := get_from s 3
  have r0 := (s.get! 0).toNat_lt
  have r1 := (s.get! 1).toNat_lt
  have r2 := (s.get! 2).toNat_lt
  have r3 := (s.get! 3).toNat_lt
  unfold Lib.decodeGo
  rw [if_neg (by omega), Lib.decode_at s 0]
  simp only [Nat.zero_add, Nat.sub_zero]
  rw [← hl]
  generalize (s.get! 0).toNat = b0 at *
  generalize (s.get! 1).toNat = b1 at *
  generalize (s.get! 2).toNat = b2 at *
  generalize (s.get! 3).toNat = b3 at *
  unfold chr at h
  rw [← e0, ← e1, ← e2, ← e3] at h
  unfold cont at h
  simp only [Bool.and_eq_true, decide_eq_true_eq] at h
  generalize (bytesOf s).length = z at *
  clear e0 e1 e2 e3 hs hl
  unfold Lib.decodeN
  split at h
  · cases h
  split at h
  · rw [if_pos (by omega)]
    simp only [Option.some.injEq, Prod.mk.injEq] at h
    exact ⟨by simp only []; omega, by simp only []; omega⟩
  split at h
  · split at h
    · simp only [Option.some.injEq, Prod.mk.injEq] at h
      rw [if_neg (by omega), if_pos (by omega), if_pos (by omega)]
      exact ⟨by simp only []; omega, by simp only []; omega⟩
    · cases h
  split at h
  · split at h
    · simp only [Option.some.injEq, Prod.mk.injEq] at h
      rw [if_neg (by omega), if_neg (by omega), if_pos (by omega), if_pos (by omega)]
      exact ⟨by simp only []; omega, by simp only []; omega⟩
    · cases h
  split at h
  · split at h
    · simp only [Option.some.injEq, Prod.mk.injEq] at h
      rw [if_neg (by omega), if_neg (by omega), if_neg (by omega), if_pos (by omega), if_pos (by omega)]
      exact ⟨by simp only []; omega, by simp only []; omega⟩
    · cases h
  · cases h

/-! ### the reference's Character and UTF8 -/
def chrR (l : L) : Int × Int × Bool := match chr l with | some (c, n) => (c, (n : Int), true) | none => (65533, 1, false)
theorem bt_from (s : ByteArray) (a i : Nat) : bt s ((a : Int) + (i : Int)) = (from_ s a).getD i 0 := by
  have := bytesOf_getD s (a + i)
  unfold from_
  rw [getD_drop', this]
  congr 1
theorem w64 {x : Int} (h0 : -1000000000000 ≤ x) (h1 : x ≤ 1000000000000) : wrap64 x = x := by unfold wrap64; omega
theorem l0_step (k : Nat) (s : ByteArray) (a : Nat) (x7 x9 : Int) (m i : Nat) (hs : s.size ≤ 2147483647) (hi : 1 ≤ i) (him : i ≤ m) (ham : a + m < s.size) (h0 : -1000000 ≤ x7) (h1 : x7 ≤ 1000000) :
    spec_Character.l0 (k + 1) s a x7 (m : Int) x9 (i : Int) = if cont ((from_ s a).getD i 0) = true then spec_Character.l0 k s a (x7 * 64 + (from_ s a).getD i 0 - 128) (m : Int) x9 ((i + 1 : Nat) : Int) else some (65533, 1, false) := by
  have hb : 0 ≤ (from_ s a).getD i 0 ∧ (from_ s a).getD i 0 ≤ 255 := from_byt s a _ (by rw [List.getD_eq_getElem?_getD, List.getElem?_eq_getElem (by rw [from_len]; omega)]; simp)
  simp only [spec_Character.l0]
  rw [if_pos (show (i : Int) ≤ (m : Int) by omega), w64 (x := (a : Int) + (i : Int)) (by omega) (by omega), if_pos (show (0 : Int) ≤ (a : Int) + (i : Int) by omega), if_pos (show (a : Int) + (i : Int) < (s.size : Int) by omega), bt_from]
  generalize (from_ s a).getD i 0 = b at *
  rw [w64 (x := b) (by omega) (by omega)]
  by_cases c1 : b < 128
  · rw [if_pos c1, if_neg (fun h => by have := cont_iff.1 h; omega)]
  · rw [if_neg c1]
    by_cases c2 : b > 191
    · rw [if_pos c2, if_neg (fun h => by have := cont_iff.1 h; omega)]
    · rw [if_neg c2, if_pos (cont_iff.2 ⟨by omega, by omega⟩), w64 (x := x7 * 64) (by omega) (by omega), w64 (x := x7 * 64 + b) (by omega) (by omega), w64 (x := x7 * 64 + b - 128) (by omega) (by omega), w64 (x := (i : Int) + 1) (by omega) (by omega)]
      rfl
theorem l0_end (k : Nat) (s : ByteArray) (a : Nat) (x7 x9 : Int) (m : Nat) (hm : m ≤ 3) :
    spec_Character.l0 (k + 1) s a x7 (m : Int) x9 ((m + 1 : Nat) : Int) = if x7 < x9 ∨ x7 > 1114111 ∨ (55296 ≤ x7 ∧ x7 ≤ 57343) then some (65533, 1, false) else some (x7, (m : Int) + 1, true) := by
  simp only [spec_Character.l0]
  rw [if_neg (show ¬ ((m + 1 : Nat) : Int) ≤ (m : Int) by omega)]
  unfold spec_high.f spec_low.f
  by_cases c1 : x7 < x9
  · rw [if_pos c1, if_pos (.inl c1)]
  rw [if_neg c1]
  by_cases c2 : x7 > 1114111
  · rw [if_pos c2, if_pos (.inr (.inl c2))]
  rw [if_neg c2, w64 (x := (m : Int) + 1) (by omega) (by omega)]
  by_cases c3 : 55296 ≤ x7
  · rw [if_pos c3, Option.bind_some]
    by_cases c4 : x7 ≤ 56319
    · rw [if_pos (decide_eq_true c4), if_pos (by omega)]
    · rw [if_neg (by simpa using c4)]
      rw [if_pos (show 56320 ≤ x7 by omega), Option.bind_some]
      by_cases c5 : x7 ≤ 57343
      · rw [if_pos (decide_eq_true c5), if_pos (by omega)]
      · rw [if_neg (by simpa using c5), if_neg (by omega)]
  · rw [if_neg c3, Option.bind_some, if_neg (by decide), if_neg (show ¬ 56320 ≤ x7 by omega), Option.bind_some, if_neg (by decide), if_neg (by omega)]
theorem Character_f (k : Nat) (s : ByteArray) (a : Nat) (hs : s.size ≤ 2147483647) (ha : a < s.size) : spec_Character.f (k + 8) s a = some (chrR (from_ s a)) := by
  have hl := from_len s a
  have hb : ∀ i, 0 ≤ (from_ s a).getD i 0 ∧ (from_ s a).getD i 0 ≤ 255 := fun i => by
    by_cases h : i < (from_ s a).length
    · exact from_byt s a _ (by rw [List.getD_eq_getElem?_getD, List.getElem?_eq_getElem h]; simp)
    · rw [List.getD_eq_getElem?_getD, List.getElem?_eq_none (by omega)]; simp
  have h0 := hb 0
  have h1 := hb 1
  have h2 := hb 2
  have h3 := hb 3
  have e0 : bt s (a : Int) = (from_ s a).getD 0 0 := by have := bt_from s a 0; simpa using this
  have L1 : ∀ k x7 x9 (m : Nat), m ≤ 3 → a + m < s.size → -1000000 ≤ x7 → x7 ≤ 1000000 → 1 ≤ m → spec_Character.l0 (k + 1) s a x7 (m : Int) x9 1 = if cont ((from_ s a).getD 1 0) = true then spec_Character.l0 k s a (x7 * 64 + (from_ s a).getD 1 0 - 128) (m : Int) x9 ((1 + 1 : Nat) : Int) else some (65533, 1, false) :=
    fun k x7 x9 m hm ham h0 h1 hm1 => l0_step k s a x7 x9 m 1 hs (Nat.le_refl _) hm1 ham h0 h1
  unfold spec_Character.f
  rw [if_pos (show (0 : Int) ≤ (a : Int) by omega), if_pos (show (a : Int) < (s.size : Int) by omega), e0, w64 (x := (from_ s a).getD 0 0) (by omega) (by omega)]
  unfold chrR chr
  rw [if_neg (show ¬ (from_ s a).length = 0 by omega)]
  by_cases c0 : (from_ s a).getD 0 0 < 128
  · rw [if_pos c0, if_pos c0]; rfl
  rw [if_neg c0, if_neg c0]
  have J2 : ∀ k x7 x9 (m : Nat), m ≤ 3 → spec_Character.j2 (k + 1) s a x7 (m : Int) x9 = if (from_ s a).length ≤ m then some (65533, 1, false) else spec_Character.l0 k s a x7 (m : Int) x9 1 := by
    intro k x7 x9 m hm
    simp only [spec_Character.j2]
    rw [w64 (x := (s.size : Int) - (a : Int)) (by omega) (by omega), hl]
    by_cases g : (s.size : Int) - (a : Int) ≤ (m : Int)
    · rw [if_pos g, if_pos (by omega)]
    · rw [if_neg g, if_neg (by omega)]
  by_cases c2 : 194 ≤ (from_ s a).getD 0 0 ∧ (from_ s a).getD 0 0 ≤ 223
  · rw [if_pos c2, if_pos c2.1, decide_eq_true c2.2]
    simp only [spec_Character.j0, if_true]
    rw [w64 (x := (from_ s a).getD 0 0 - 192) (by omega) (by omega)]
    rw [show spec_Character.j2 (k + 7) s (a : Int) ((from_ s a).getD 0 0 - 192) 1 128 = _ from J2 (k + 6) ((from_ s a).getD 0 0 - 192) 128 1 (by omega)]
    by_cases g : (from_ s a).length ≤ 1
    · rw [if_pos g, if_neg (by omega)]
    rw [if_neg g]
    have q1 := L1 (k + 5) ((from_ s a).getD 0 0 - 192) 128 1 (by omega) (by omega) (by omega) (by omega) (by omega)
    rw [q1]
    by_cases g1 : cont ((from_ s a).getD 1 0) = true
    · have r1 := cont_iff.1 g1
      rw [if_pos g1, l0_end _ _ _ _ _ 1 (by omega), if_neg (by omega), if_pos ⟨by omega, g1⟩]
      simp only [Option.some.injEq, Prod.mk.injEq]
      exact ⟨by omega, by omega, trivial⟩
    · rw [if_neg g1, if_neg (fun h => g1 h.2)]
  rw [if_neg c2]
  by_cases c3 : 224 ≤ (from_ s a).getD 0 0 ∧ (from_ s a).getD 0 0 ≤ 239
  · rw [if_pos c3, if_pos (show 194 ≤ (from_ s a).getD 0 0 by omega), decide_eq_false (show ¬ (from_ s a).getD 0 0 ≤ 223 by omega)]
    simp only [spec_Character.j0, Bool.false_eq_true, if_false]
    rw [if_pos c3.1, decide_eq_true c3.2]
    simp only [spec_Character.j1, if_true]
    rw [w64 (x := (from_ s a).getD 0 0 - 224) (by omega) (by omega), show ((2 : Int)) = ((2 : Nat) : Int) from rfl, J2 (k + 5) ((from_ s a).getD 0 0 - 224) 2048 2 (by omega)]
    by_cases g : (from_ s a).length ≤ 2
    · rw [if_pos g, if_neg (by omega)]
    rw [if_neg g, L1 (k + 4) ((from_ s a).getD 0 0 - 224) 2048 2 (by omega) (by omega) (by omega) (by omega) (by omega)]
    by_cases g1 : cont ((from_ s a).getD 1 0) = true
    · have r1 := cont_iff.1 g1
      rw [if_pos g1, l0_step (k + 3) s a _ 2048 2 2 hs (by omega) (by omega) (by omega) (by omega) (by omega)]
      by_cases g2 : cont ((from_ s a).getD 2 0) = true
      · have r2 := cont_iff.1 g2
        rw [if_pos g2, l0_end _ _ _ _ _ 2 (by omega)]
        have ee : (((from_ s a).getD 0 0 - 224) * 64 + (from_ s a).getD 1 0 - 128) * 64 + (from_ s a).getD 2 0 - 128 = (((from_ s a).getD 0 0 - 224) * 64 + ((from_ s a).getD 1 0 - 128)) * 64 + ((from_ s a).getD 2 0 - 128) := by omega
        rw [ee]
        generalize hc : (((from_ s a).getD 0 0 - 224) * 64 + ((from_ s a).getD 1 0 - 128)) * 64 + ((from_ s a).getD 2 0 - 128) = c at *
        by_cases g3 : 2048 ≤ c ∧ ¬ (55296 ≤ c ∧ c ≤ 57343)
        · rw [if_neg (by omega), if_pos ⟨by omega, g1, g2, g3⟩]; rfl
        · rw [if_pos (by omega), if_neg (fun h => g3 h.2.2.2)]
      · rw [if_neg g2, if_neg (fun h => g2 h.2.2.1)]
    · rw [if_neg g1, if_neg (fun h => g1 h.2.1)]
  rw [if_neg c3]
  by_cases c4 : 240 ≤ (from_ s a).getD 0 0 ∧ (from_ s a).getD 0 0 ≤ 244
  · rw [if_pos c4, if_pos (show 194 ≤ (from_ s a).getD 0 0 by omega), decide_eq_false (show ¬ (from_ s a).getD 0 0 ≤ 223 by omega)]
    simp only [spec_Character.j0, Bool.false_eq_true, if_false]
    rw [if_pos (show 224 ≤ (from_ s a).getD 0 0 by omega), decide_eq_false (show ¬ (from_ s a).getD 0 0 ≤ 239 by omega)]
    simp only [spec_Character.j1, Bool.false_eq_true, if_false]
    rw [if_pos c4.1, if_pos c4.2, w64 (x := (from_ s a).getD 0 0 - 240) (by omega) (by omega), show ((3 : Int)) = ((3 : Nat) : Int) from rfl, J2 (k + 5) ((from_ s a).getD 0 0 - 240) 65536 3 (by omega)]
    by_cases g : (from_ s a).length ≤ 3
    · rw [if_pos g, if_neg (by omega)]
    rw [if_neg g, L1 (k + 4) ((from_ s a).getD 0 0 - 240) 65536 3 (by omega) (by omega) (by omega) (by omega) (by omega)]
    by_cases g1 : cont ((from_ s a).getD 1 0) = true
    · have r1 := cont_iff.1 g1
      rw [if_pos g1, l0_step (k + 3) s a _ 65536 3 2 hs (by omega) (by omega) (by omega) (by omega) (by omega)]
      by_cases g2 : cont ((from_ s a).getD 2 0) = true
      · have r2 := cont_iff.1 g2
        rw [if_pos g2, l0_step (k + 2) s a _ 65536 3 3 hs (by omega) (by omega) (by omega) (by omega) (by omega)]
        by_cases g3 : cont ((from_ s a).getD 3 0) = true
        · have r3 := cont_iff.1 g3
          rw [if_pos g3, l0_end _ _ _ _ _ 3 (by omega)]
          have ee : ((((from_ s a).getD 0 0 - 240) * 64 + (from_ s a).getD 1 0 - 128) * 64 + (from_ s a).getD 2 0 - 128) * 64 + (from_ s a).getD 3 0 - 128 = ((((from_ s a).getD 0 0 - 240) * 64 + ((from_ s a).getD 1 0 - 128)) * 64 + ((from_ s a).getD 2 0 - 128)) * 64 + ((from_ s a).getD 3 0 - 128) := by omega
          rw [ee]
          generalize hc : ((((from_ s a).getD 0 0 - 240) * 64 + ((from_ s a).getD 1 0 - 128)) * 64 + ((from_ s a).getD 2 0 - 128)) * 64 + ((from_ s a).getD 3 0 - 128) = c at *
          by_cases g4 : 65536 ≤ c ∧ c ≤ 1114111
          · rw [if_neg (by omega), if_pos ⟨by omega, g1, g2, g3, g4⟩]; rfl
          · rw [if_pos (by omega), if_neg (fun h => g4 h.2.2.2.2)]
        · rw [if_neg g3, if_neg (fun h => g3 h.2.2.2.1)]
      · rw [if_neg g2, if_neg (fun h => g2 h.2.2.1)]
    · rw [if_neg g1, if_neg (fun h => g1 h.2.1)]
  rw [if_neg c4]
  by_cases d1 : 194 ≤ (from_ s a).getD 0 0
  · rw [if_pos d1, decide_eq_false (show ¬ (from_ s a).getD 0 0 ≤ 223 by omega)]
    simp only [spec_Character.j0, Bool.false_eq_true, if_false]
    rw [if_pos (show 224 ≤ (from_ s a).getD 0 0 by omega), decide_eq_false (show ¬ (from_ s a).getD 0 0 ≤ 239 by omega)]
    simp only [spec_Character.j1, Bool.false_eq_true, if_false]
    rw [if_pos (show 240 ≤ (from_ s a).getD 0 0 by omega), if_neg (show ¬ (from_ s a).getD 0 0 ≤ 244 by omega)]
  · rw [if_neg d1]
    simp only [spec_Character.j0, Bool.false_eq_true, if_false]
    rw [if_neg (show ¬ 224 ≤ (from_ s a).getD 0 0 by omega)]
    simp only [spec_Character.j1, Bool.false_eq_true, if_false]
    rw [if_neg (show ¬ 240 ≤ (from_ s a).getD 0 0 by omega)]
theorem UTF8_f (s : ByteArray) (hs : s.size ≤ 2147483647) : ∀ (n a : Nat), s.size - a ≤ n → a ≤ s.size → spec_UTF8.l0 (n + 10) s a = some (valid (from_ s a)) := by
  intro n
  induction n with
  | zero =>
    intro a h1 h2
    obtain rfl : a = s.size := by omega
    have e : from_ s s.size = [] := List.eq_nil_of_length_eq_zero (by rw [from_len]; omega)
    simp only [spec_UTF8.l0]
    rw [if_neg (by omega), e, valid_nil]
  | succ n ih =>
    intro a h1 h2
    simp only [spec_UTF8.l0]
    by_cases hlt : a < s.size
    · rw [if_pos (by omega), show n + 1 + 9 = (n + 2) + 8 by omega, Character_f (n + 2) s a hs hlt, Option.bind_some]
      unfold chrR
      cases e : chr (from_ s a) with
      | none => simp only []; rw [if_neg (by decide), valid_none (by rw [from_len]; omega) e]
      | some x =>
        obtain ⟨c, m⟩ := x
        have hc := chr_some e
        rw [from_len] at hc
        simp only [if_true]
        rw [w64 (by omega) (by omega), show (a : Int) + (m : Int) = ((a + m : Nat) : Int) by omega, valid_some e, from_drop]
        exact ih (a + m) (by omega) (by omega)
    · obtain rfl : a = s.size := by omega
      have e : from_ s s.size = [] := List.eq_nil_of_length_eq_zero (by rw [from_len]; omega)
      rw [if_neg (by omega), e, valid_nil]
theorem UTF8_any (s : ByteArray) (w : World) (hs : s.size ≤ 2147483647) :
    Calls Tryd.prog 8 #[.string s] w fun e w' => e = .returned (.bool (valid (bytesOf s))) ∧ Drawn0 w w' := by
  refine spec_UTF8.calls (s.size + 10) s (valid (bytesOf s)) w ?_
  unfold spec_UTF8.f
  have := UTF8_f s hs s.size 0 (by omega) (by omega)
  simpa [from_] using this
end Go.Proofs.YtkmdcckiehbcmaaDoor.J

/- The law FnFjQuote. -/
set_option linter.unusedVariables false
set_option linter.unusedSimpArgs false
namespace Go.Proofs.YtkmdcckiehbcmaaDoor.KQ
open Go.RowKit Go.Proofs.YtkmdcckiehbcmaaDoorW.PrintWords Go.Proofs.YtkmdcckiehbcmaaDoorW.PrintLast Go.Proofs.YtkmdcckiehbcmaaDoorW.PrintMore Go.Proofs.YtkmdcckiehbcmaaDoor.Aid Go.Proofs.YtkmdcckiehbcmaaDoor.J Go.Proofs.YtkmdcckiehbcmaaDoor.PFnFjQuote

theorem wr_bytes (s : ByteArray) : ∀ x ∈ (34 :: (qs (bytesOf s) ++ [34]) : L), 0 ≤ x ∧ x < 256 := by
  intro x hx
  simp only [List.mem_cons, List.mem_append, List.not_mem_nil, or_false] at hx
  rcases hx with rfl | hx | rfl
  · decide
  · exact qs_byt (bytesOf_range s) x hx
  · decide
theorem read_out (s : ByteArray) (hs : s.size ≤ 1000) (hp : (bytesOf s).all pl1 = true ∨ (bytesOf s).all pl2 = true) (W : World) :
    Calls Tryd.prog 11 #[.string (strOfNums (34 :: (qs (bytesOf s) ++ [34])))] W fun e w' => e = .returned (.tuple #[.agg #[.int .i64 4, .string s, .slice none 0 0, .slice none 0 0], .bool true]) ∧ Below W.heap.size W w' := by
  have hq := qs_len (bytesOf s)
  rw [bytesOf_length] at hq
  have := Read_str (strOfNums (34 :: (qs (bytesOf s) ++ [34]))) W (qs (bytesOf s)) (bytesOf s) (by rw [strSize]; simp; omega) (bytes_of_str _ (wr_bytes s)) (st_qs (bytesOf_range s) hp)
  rwa [str_of_bytes] at this
theorem quote_any (s : ByteArray) (hs : s.size ≤ 1000) (hp : (bytesOf s).all pl1 = true ∨ (bytesOf s).all pl2 = true) (W : World) :
    Calls Tryd.prog 13 #[.string s] W fun e w' => e = .returned (.string (strOfNums (34 :: (qs (bytesOf s) ++ [34])))) ∧ Below W.heap.size W w' := by
  obtain ⟨k, hk⟩ := quote_f s hs hp
  exact spec_Quote.calls k s _ W hk
theorem escaped_any (s : ByteArray) (hs : s.size ≤ 1000) (W : World) :
    Calls Tryd.prog 12 #[.string (strOfNums (34 :: (qs (bytesOf s) ++ [34])))] W fun e w' => e = .returned (.bool ((34 :: (qs (bytesOf s) ++ [34]) : L).any (· == 92))) ∧ Below W.heap.size W w' := by
  have hq := qs_len (bytesOf s)
  rw [bytesOf_length] at hq
  obtain ⟨k, hk⟩ := escaped_f (strOfNums (34 :: (qs (bytesOf s) ++ [34]))) (by rw [strSize]; simp; omega)
  rw [bytes_of_str _ (wr_bytes s)] at hk
  exact (spec_Escaped.calls k _ _ W hk).mono fun e w' h => ⟨h.1, h.2.below⟩
set_option maxHeartbeats 4000000 in
set_option maxRecDepth 100000 in
theorem law_any (s : ByteArray) (w : World) (hs : s.size ≤ 140737488351232) :
    Calls Tryd.prog 3 #[.string s] w fun e w' => e = .returned (.bool true) ∧ Below w.heap.size w w' := by
  have HB := Lib.hid (Below.refl w.heap.size w)
  by_cases c1 : 2147483647 < (s.size : Int)
  · have hd : decide (2147483647 < (s.size : Int)) = true := decide_eq_true c1
    go_enter Tryd.func3, Tryd.ntmps3
    go_wp2
    go_ret
    exact ⟨rfl, HB.out⟩
  have hd1 : decide (2147483647 < (s.size : Int)) = false := decide_eq_false c1
  by_cases c3 : 1000 < (s.size : Int)
  · have hd : decide (1000 < (s.size : Int)) = true := decide_eq_true c3
    go_enter Tryd.func3, Tryd.ntmps3
    go_wp2
    go_ret
    exact ⟨rfl, HB.out⟩
  have hd3 : decide (1000 < (s.size : Int)) = false := decide_eq_false c3
  have hs2 : s.size ≤ 1000 := by omega
  have U := Lib.hid (fun W => UTF8_any s W (by omega))
  have P := Lib.hid (fun W => plain_any s W hs2)
  obtain ⟨u, hu⟩ : ∃ u, u = valid (bytesOf s) := ⟨_, rfl⟩
  obtain ⟨p, hp⟩ : ∃ p, p = ((bytesOf s).all pl1 || (bytesOf s).all pl2) := ⟨_, rfl⟩
  rw [← hu] at U
  rw [← hp] at P
  clear hu
  cases u with
  | false =>
    clear P hp
    go_enter Tryd.func3, Tryd.ntmps3
    go_wp2_with (go_at_call 8; refine (U.out _).mono ?_; rintro e w1 ⟨rfl, hb⟩; replace HB := Lib.hid (below_step HB.out hb.below); clear hb)
    go_ret
    exact ⟨rfl, HB.out⟩
  | true =>
  cases p with
  | false =>
    clear hp
    go_enter Tryd.func3, Tryd.ntmps3
    go_wp2_with (first
      | (go_at_call 8; refine (U.out _).mono ?_; rintro e w1 ⟨rfl, hb⟩; replace HB := Lib.hid (below_step HB.out hb.below); clear hb)
      | (go_at_call 9; refine (P.out _).mono ?_; rintro e w1 ⟨rfl, hb⟩; replace HB := Lib.hid (below_step HB.out hb); clear hb))
    go_ret
    exact ⟨rfl, HB.out⟩
  | true =>
  have hp2 : (bytesOf s).all pl1 = true ∨ (bytesOf s).all pl2 = true := by rw [← Bool.or_eq_true]; exact hp.symm
  have F := Lib.hid (fun W => FjQuote_any s W hs2 hp2)
  have R := Lib.hid (fun W => read_out s hs2 hp2 W)
  have Q := Lib.hid (fun W => quote_any s hs2 hp2 W)
  have X := Lib.hid (fun W => escaped_any s hs2 W)
  obtain ⟨o, hO⟩ : ∃ o, o = strOfNums (34 :: (qs (bytesOf s) ++ [34])) := ⟨_, rfl⟩
  obtain ⟨x, hX⟩ : ∃ x, x = (34 :: (qs (bytesOf s) ++ [34]) : L).any (· == 92) := ⟨_, rfl⟩
  rw [← hO] at F R Q X
  rw [← hX] at X
  cases x with
  | true =>
    clear hO hX hp hp2
    have TT : (s.toList == s.toList) = true := beq_self_eq_true _
    go_enter Tryd.func3, Tryd.ntmps3
    go_wp2_with (first
      | (go_at_call 8; refine (U.out _).mono ?_; rintro e w1 ⟨rfl, hb⟩; replace HB := Lib.hid (below_step HB.out hb.below); clear hb)
      | (go_at_call 9; refine (P.out _).mono ?_; rintro e w1 ⟨rfl, hb⟩; replace HB := Lib.hid (below_step HB.out hb); clear hb)
      | (go_at_call 10; refine (F.out _).mono ?_; rintro e w1 ⟨rfl, hb⟩; replace HB := Lib.hid (below_step HB.out hb); clear hb)
      | (go_at_call 11; refine (R.out _).mono ?_; rintro e w1 ⟨rfl, hb⟩; replace HB := Lib.hid (below_step HB.out hb); clear hb)
      | (go_at_call 13; refine (Q.out _).mono ?_; rintro e w1 ⟨rfl, hb⟩; replace HB := Lib.hid (below_step (below_alloc HB.out _) hb); clear hb)
      | (go_at_call 12; refine (X.out _).mono ?_; rintro e w1 ⟨rfl, hb⟩; replace HB := Lib.hid (below_step HB.out hb); clear hb))
    go_ret
    exact ⟨rfl, HB.out⟩
  | false =>
  have h1 : (bytesOf s).all pl1 = true := by
    rcases Bool.eq_false_or_eq_true ((bytesOf s).all pl1) with h | h
    · exact h
    · exact absurd (esc_has h (hp2.resolve_left (by rw [h]; decide))) (by rw [← hX]; decide)
  have E : (o.toList == ({ data := #[34] } ++ s ++ { data := #[34] }).toList) = true := by
    rw [beq_iff_eq]
    congr 1
    rw [hO, pl1_qs h1, ← str_of_bytes ({ data := #[34] } ++ s ++ { data := #[34] })]
    congr 1
    unfold bytesOf
    simp
  have TT : (s.toList == s.toList) = true := beq_self_eq_true _
  clear hO hX hp hp2 h1
  go_enter Tryd.func3, Tryd.ntmps3
  go_wp2_with (first
    | (go_at_call 8; refine (U.out _).mono ?_; rintro e w1 ⟨rfl, hb⟩; replace HB := Lib.hid (below_step HB.out hb.below); clear hb)
    | (go_at_call 9; refine (P.out _).mono ?_; rintro e w1 ⟨rfl, hb⟩; replace HB := Lib.hid (below_step HB.out hb); clear hb)
    | (go_at_call 10; refine (F.out _).mono ?_; rintro e w1 ⟨rfl, hb⟩; replace HB := Lib.hid (below_step HB.out hb); clear hb)
    | (go_at_call 11; refine (R.out _).mono ?_; rintro e w1 ⟨rfl, hb⟩; replace HB := Lib.hid (below_step HB.out hb); clear hb)
    | (go_at_call 13; refine (Q.out _).mono ?_; rintro e w1 ⟨rfl, hb⟩; replace HB := Lib.hid (below_step (below_alloc HB.out _) hb); clear hb)
    | (go_at_call 12; refine (X.out _).mono ?_; rintro e w1 ⟨rfl, hb⟩; replace HB := Lib.hid (below_step HB.out hb); clear hb))
  go_ret
  exact ⟨rfl, HB.out⟩
end Go.Proofs.YtkmdcckiehbcmaaDoor.KQ

