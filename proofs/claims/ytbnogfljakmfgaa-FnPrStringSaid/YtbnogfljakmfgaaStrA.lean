/- The walks of pretty.parsestr over a text whose string has no backslash, and of what calls it. -/
import Derived.Test.YtbnogfljakmfgaaProg
import Derived.Test.YtbnogfljakmfgaaWMore
import Derived.Test.YtbnogfljakmfgaaAid
namespace Go.Proofs.Ytbnogfljakmfgaa.StrA
open Go.Proofs.Ytbnogfljakmfgaa.Aid Go.RowKit Go.Proofs.YtbnogfljakmfgaaW.PrintWords Go.Proofs.YtbnogfljakmfgaaW.PrintLast Go.Proofs.YtbnogfljakmfgaaW.PrintMore

set_option maxRecDepth 1000000 in
set_option maxHeartbeats 1000000 in
theorem parsestr_any (b n c : Nat) (xs : List Int) (w : World) (hn : n ≤ 140737488351232) (hnc : n ≤ c) (hc : ∀ j, j < n → w.cell? ⟨b, j, none⟩ = some (.int .u8 (xs.getD j 0)))
    (q : Nat) (hq1 : 1 ≤ q) (hq2 : q < n) (hq3 : xs.getD q 0 = 34) (hq4 : ∀ j, 1 ≤ j → j < q → xs.getD j 0 ≠ 34 ∧ xs.getD j 0 ≠ 92) :
    Calls Try.prog 31 #[.slice (some ⟨b, 0, none⟩) n c] w fun e w' => e = .returned (.slice (some ⟨b, 1, none⟩) (q - 1) (c - 1)) ∧ w' = w := by
  have HC := Lib.hid hc
  have HQ3 := Lib.hid hq3
  have HQ4 := Lib.hid hq4
  clear hc hq3 hq4
  go_enter Try.func31, Try.ntmps31
  go_wp2
  go_loop [3] (fun i => ∃ k : Nat, 1 ≤ k ∧ k ≤ q ∧ i = .int .i64 k) (fun i => q - (intOf i).toNat)
  case atStart => exact ⟨1, by omega, by omega, rfl⟩
  case round =>
    obtain ⟨k, hk1, hk2, rfl⟩ := hrel
    have h1 : k < n := by omega
    have hcell := HC.out k h1
    by_cases hk : k = q
    · subst hk
      have e3 := HQ3.out
      rw [e3] at hcell
      clear e3
      go_wp2
      go_ret
      exact ⟨rfl, rfl⟩
    · obtain ⟨e1, e2⟩ := HQ4.out k hk1 (by omega)
      obtain ⟨x, hx⟩ : ∃ x, x = xs.getD k 0 := ⟨_, rfl⟩
      rw [← hx] at e1 e2 hcell
      have b1 : (x == 34) = false := beq_eq_false_iff_ne.mpr e1
      have b2 : (x == 92) = false := beq_eq_false_iff_ne.mpr e2
      clear e1 e2 hx
      go_wp2
      go_round
      case rel => exact ⟨k + 1, by omega, by omega, by go_num⟩
      case measure => simp [intOf]; omega

theorem str_bytes (s : ByteArray) (W : World) : (convert 9 41 (.string s)).run Try.prog W = .ok (.slice (some ⟨W.heap.size, 0, none⟩) s.size (grownCap W s.size 0 5)) (Lib.bytesWorld W 5 s) :=
  print_bytes 9 41 5 Try.underlying9 Try.underlying41 Try.underlying5 s W

/-- What stands between the first byte and the quotation mark at q. -/
theorem door_any (s : ByteArray) (w : World) (hs : s.size ≤ 140737488351232)
    (q : Nat) (hq1 : 1 ≤ q) (hq2 : q < s.size) (hq3 : bt s q = 34) (hq4 : ∀ j : Nat, 1 ≤ j → j < q → bt s j ≠ 34 ∧ bt s j ≠ 92) :
    Calls Try.prog 24 #[.string s] w fun e w' => e = .returned (.string (s.extract 1 q)) ∧ Below w.heap.size w w' := by
  have kb := str_bytes s
  have HC := Lib.hid (bytes_cells w 5 s)
  have e1 := Lib.hid (show (bytesOf s).getD q 0 = 34 by rw [bytesOf_getD]; exact hq3)
  have e2 := Lib.hid (show ∀ j, 1 ≤ j → j < q → (bytesOf s).getD j 0 ≠ 34 ∧ (bytesOf s).getD j 0 ≠ 92 by intro j h1 h2; rw [bytesOf_getD]; exact hq4 j h1 h2)
  have hcap : s.size ≤ grownCap w s.size 0 5 := grownCap_ge ..
  have hl : ((bytesOf s).drop 1 |>.take (q - 1)).length = q - 1 := by rw [List.length_take, List.length_drop, bytesOf_length]; omega
  have kc := run_convert_bytes_arg (P := Try.prog) (Lib.bytesWorld w 5 s) 41 5 Try.underlying41 Try.underlying5 w.heap.size 1 (q - 1) (grownCap w s.size 0 5 - 1) ((bytesOf s).drop 1 |>.take (q - 1)) hl (by
    intro i hi
    have := bytes_cells w 5 s (1 + i) (by omega)
    rw [this]
    simp [List.getD_eq_getElem?_getD, hi, Nat.add_comm]) 9 Try.underlying9
  have er : strOfNums ((bytesOf s).drop 1 |>.take (q - 1)) = s.extract 1 q := by rw [← bytesOf_extract, str_of_bytes]
  rw [er] at kc
  clear hq3 hq4 hl er
  go_enter Try.func24, Try.ntmps24
  go_wp2_with (go_at_call 31; refine (parsestr_any _ _ _ _ _ hs hcap HC.out q hq1 hq2 e1.out e2.out).mono ?_; rintro e w' ⟨rfl, rfl⟩)
  go_ret
  exact ⟨rfl, bytes_below (Below.refl _ _) (Nat.le_refl _) _ _⟩
theorem impl_any (s : ByteArray) (w : World) (hs : s.size ≤ 140737488351232)
    (q : Nat) (hq1 : 1 ≤ q) (hq2 : q < s.size) (hq3 : bt s q = 34) (hq4 : ∀ j : Nat, 1 ≤ j → j < q → bt s j ≠ 34 ∧ bt s j ≠ 92) :
    Calls Try.prog 16 #[.string s] w fun e w' => e = .returned (.string (s.extract 1 q)) ∧ Below w.heap.size w w' := by
  have HQ3 := Lib.hid hq3
  have HQ4 := Lib.hid hq4
  clear hq3 hq4
  go_enter Try.func16, Try.ntmps16
  go_wp2_with (go_at_call 24; refine (door_any s _ hs q hq1 hq2 HQ3.out HQ4.out).mono ?_; rintro e w' ⟨rfl, hb⟩)
  go_ret
  exact ⟨rfl, hb⟩

def plain (s : ByteArray) (k : Nat) : Prop := ∀ j : Nat, j < k → bt s j ≠ 34 ∧ bt s j ≠ 92

/-- The text handed on: a quotation mark, s, a quotation mark, more. -/
def quoted (s m : ByteArray) : ByteArray := ({ data := #[34] } ++ s ++ { data := #[34] }) ++ m
theorem quoted_bytes (s m : ByteArray) : bytesOf (quoted s m) = 34 :: (bytesOf s ++ 34 :: bytesOf m) := by
  unfold quoted
  rw [bytesOf_append, bytesOf_append, bytesOf_append]
  simp [bytesOf]
theorem quoted_size (s m : ByteArray) : (quoted s m).size = s.size + 2 + m.size := by
  rw [← bytesOf_length, quoted_bytes]; simp [bytesOf_length]; omega
theorem quoted_at (s m : ByteArray) (j : Nat) (h1 : 1 ≤ j) (h : j < s.size + 1) : bt (quoted s m) j = bt s (j - 1 : Nat) := by
  rw [← bytesOf_getD, ← bytesOf_getD, quoted_bytes]
  obtain ⟨j, rfl⟩ : ∃ i, j = i + 1 := ⟨j - 1, by omega⟩
  rw [List.getD_cons_succ, Nat.add_sub_cancel]
  rw [List.getD_eq_getElem?_getD, List.getD_eq_getElem?_getD, List.getElem?_append_left (by rw [bytesOf_length]; omega)]
theorem quoted_end (s m : ByteArray) : bt (quoted s m) (s.size + 1 : Nat) = 34 := by
  rw [← bytesOf_getD, quoted_bytes, List.getD_cons_succ, List.getD_eq_getElem?_getD, List.getElem?_append_right (by rw [bytesOf_length]; omega)]
  simp [bytesOf_length]
theorem quoted_inside (s m : ByteArray) : (quoted s m).extract 1 (s.size + 1) = s := by
  apply bytesOf_inj
  rw [bytesOf_extract, quoted_bytes]
  simp [← bytesOf_length]

theorem impl_quoted (s m : ByteArray) (w : World) (hs : s.size ≤ 4096) (hm : m.size ≤ 4096) (hp : plain s s.size) :
    Calls Try.prog 16 #[.string (quoted s m)] w fun e w' => e = .returned (.string s) ∧ Below w.heap.size w w' := by
  have hz := quoted_size s m
  refine (impl_any (quoted s m) w (by omega) (s.size + 1) (by omega) (by omega) (quoted_end s m) ?_).mono ?_
  · intro j h1 h2
    rw [quoted_at s m j h1 h2]
    exact hp _ (by omega)
  · rintro e w' ⟨rfl, hb⟩
    exact ⟨by rw [quoted_inside], hb⟩

set_option maxRecDepth 1000000 in
set_option maxHeartbeats 1000000 in
theorem law_any (s m : ByteArray) (w : World) (hs : s.size ≤ 140737488351232) (hm : m.size ≤ 140737488351232) :
    Calls Try.prog 7 #[.string s, .string m] w fun e w' => e = .returned (.bool true) ∧ Below w.heap.size w w' := by
  by_cases c1 : 2147483647 < (s.size : Int)
  · go_enter Try.func7, Try.ntmps7
    go_wp2
    go_ret
    exact ⟨rfl, Below.refl _ _⟩
  by_cases c2 : 2147483647 < (m.size : Int)
  · go_enter Try.func7, Try.ntmps7
    go_wp2
    go_ret
    exact ⟨rfl, Below.refl _ _⟩
  go_enter Try.func7, Try.ntmps7
  go_wp2
  go_loop [5] (fun i => ∃ k : Nat, k ≤ s.size ∧ plain s k ∧ i = .int .i64 k) (fun i => s.size - (intOf i).toNat)
  case atStart => exact ⟨0, by omega, fun j hj => by omega, rfl⟩
  case round =>
    obtain ⟨k, hk1, hp, rfl⟩ := hrel
    by_cases hk : k < s.size
    · have hx : ((s[k]'hk).toNat : Int) = bt s k := bt_at s k (by simpa using hk)
      by_cases e1 : bt s k = 34
      · have b1 : (((s[k]'hk).toNat : Int) == 34) = true := by rw [hx]; exact beq_iff_eq.mpr e1
        clear hx e1
        go_wp2
        go_ret
        exact ⟨rfl, Below.refl _ _⟩
      by_cases e2 : bt s k = 92
      · have b1 : (((s[k]'hk).toNat : Int) == 34) = false := by rw [hx]; exact beq_eq_false_iff_ne.mpr e1
        have b2 : (((s[k]'hk).toNat : Int) == 92) = true := by rw [hx]; exact beq_iff_eq.mpr e2
        clear hx e1 e2
        go_wp2
        go_ret
        exact ⟨rfl, Below.refl _ _⟩
      have b1 : (((s[k]'hk).toNat : Int) == 34) = false := by rw [hx]; exact beq_eq_false_iff_ne.mpr e1
      have b2 : (((s[k]'hk).toNat : Int) == 92) = false := by rw [hx]; exact beq_eq_false_iff_ne.mpr e2
      have HP : Hid (plain s (k + 1)) := Lib.hid (show plain s (k + 1) from fun j hj => by
        by_cases e : j = k
        · subst e; exact ⟨e1, e2⟩
        · exact hp j (by omega))
      clear hx e1 e2 hp
      go_wp2
      go_round
      case rel => exact ⟨k + 1, by omega, HP.out, by go_num⟩
      case measure => simp [intOf]; omega
    · obtain rfl : k = s.size := by omega
      have HP := Lib.hid hp
      clear hp
      by_cases c3 : 4096 < (s.size : Int)
      · go_wp2
        go_ret
        exact ⟨rfl, Below.refl _ _⟩
      by_cases c4 : 4096 < (m.size : Int)
      · go_wp2
        go_ret
        exact ⟨rfl, Below.refl _ _⟩
      go_wp2_with (go_at_call 16; refine (impl_quoted s m _ (by omega) (by omega) HP.out).mono ?_; rintro e w' ⟨rfl, hb⟩)
      go_ret
      exact ⟨by simp, hb⟩
end Go.Proofs.Ytbnogfljakmfgaa.StrA
