/- The walks of the reference's short, high, low, unit. -/
import Derived.Test.YtkmdcckiehbcmaaDoorJ4
import Derived.Test.YtkmdcckiehbcmaaDoorUnPure
set_option linter.unusedVariables false
set_option linter.unusedSimpArgs false
namespace Go.Proofs.YtkmdcckiehbcmaaDoor.J
open Go.RowKit Go.Proofs.YtkmdcckiehbcmaaDoorW.PrintWords Go.Proofs.YtkmdcckiehbcmaaDoorW.PrintLast Go.Proofs.YtkmdcckiehbcmaaDoorW.PrintMore Go.Proofs.YtkmdcckiehbcmaaDoor.Aid

theorem short_any (c : Int) (w : World) : Calls Tryd.prog 51 #[.int .u8 c] w fun e w' => e = .returned (.int .u8 (short c)) ∧ w = w' := by
  by_cases h1 : c = 98
  · subst h1
    go_enter Tryd.func51, Tryd.ntmps51
    go_wp2
    go_ret
    exact ⟨rfl, rfl⟩
  by_cases h2 : c = 102
  · subst h2
    go_enter Tryd.func51, Tryd.ntmps51
    go_wp2
    go_ret
    exact ⟨rfl, rfl⟩
  by_cases h3 : c = 110
  · subst h3
    go_enter Tryd.func51, Tryd.ntmps51
    go_wp2
    go_ret
    exact ⟨rfl, rfl⟩
  by_cases h4 : c = 114
  · subst h4
    go_enter Tryd.func51, Tryd.ntmps51
    go_wp2
    go_ret
    exact ⟨rfl, rfl⟩
  by_cases h5 : c = 116
  · subst h5
    go_enter Tryd.func51, Tryd.ntmps51
    go_wp2
    go_ret
    exact ⟨rfl, rfl⟩
  have b1 : (c == 98) = false := beq_eq_false_iff_ne.mpr h1
  have b2 : (c == 102) = false := beq_eq_false_iff_ne.mpr h2
  have b3 : (c == 110) = false := beq_eq_false_iff_ne.mpr h3
  have b4 : (c == 114) = false := beq_eq_false_iff_ne.mpr h4
  have b5 : (c == 116) = false := beq_eq_false_iff_ne.mpr h5
  have e : Hid (short c = c) := Lib.hid (by unfold short; rw [if_neg h1, if_neg h2, if_neg h3, if_neg h4, if_neg h5])
  clear h1 h2 h3 h4 h5
  go_enter Tryd.func51, Tryd.ntmps51
  go_wp2
  go_ret
  exact ⟨by rw [e.out]; rfl, rfl⟩
theorem high_any (c : Int) (w : World) : Calls Tryd.prog 32 #[.int .i64 c] w fun e w' => e = .returned (.bool (high c)) ∧ w = w' := by
  by_cases h1 : 55296 ≤ c
  · have hd : decide (55296 ≤ c) = true := decide_eq_true h1
    have e : Hid (high c = decide (c ≤ 56319)) := Lib.hid (by unfold high; rw [hd]; simp)
    clear h1
    go_enter Tryd.func32, Tryd.ntmps32
    go_wp2
    go_ret
    exact ⟨by rw [e.out]; rfl, rfl⟩
  · have hd : decide (55296 ≤ c) = false := decide_eq_false h1
    have e : Hid (high c = false) := Lib.hid (by unfold high; rw [hd]; simp)
    clear h1
    go_enter Tryd.func32, Tryd.ntmps32
    go_wp2
    go_ret
    exact ⟨by rw [e.out]; rfl, rfl⟩
theorem low_any (c : Int) (w : World) : Calls Tryd.prog 33 #[.int .i64 c] w fun e w' => e = .returned (.bool (low c)) ∧ w = w' := by
  by_cases h1 : 56320 ≤ c
  · have hd : decide (56320 ≤ c) = true := decide_eq_true h1
    have e : Hid (low c = decide (c ≤ 57343)) := Lib.hid (by unfold low; rw [hd]; simp)
    clear h1
    go_enter Tryd.func33, Tryd.ntmps33
    go_wp2
    go_ret
    exact ⟨by rw [e.out]; rfl, rfl⟩
  · have hd : decide (56320 ≤ c) = false := decide_eq_false h1
    have e : Hid (low c = false) := Lib.hid (by unfold low; rw [hd]; simp)
    clear h1
    go_enter Tryd.func33, Tryd.ntmps33
    go_wp2
    go_ret
    exact ⟨by rw [e.out]; rfl, rfl⟩

/-- The bytes of a text from a place on. -/
def from_ (s : ByteArray) (a : Nat) : L := (bytesOf s).drop a
theorem from_len (s : ByteArray) (a : Nat) : (from_ s a).length = s.size - a := by unfold from_; rw [List.length_drop, bytesOf_length]
theorem from_at (s : ByteArray) (a i : Nat) (h : a + i < s.size) : ((s[a + i]'h).toNat : Int) = (from_ s a).getD i 0 := by
  have h1 := bt_at s ((a + i : Nat) : Int) (by rw [Int.toNat_natCast]; exact h)
  unfold from_
  rw [List.getD_eq_getElem?_getD, List.getElem?_drop, bytesOf_get? s (a + i) h]
  exact h1
theorem from_at0 (s : ByteArray) (a : Nat) (h : a < s.size) : ((s[a]'h).toNat : Int) = (from_ s a).getD 0 0 := from_at s a 0 h
theorem from_byt (s : ByteArray) (a : Nat) : ∀ x ∈ from_ s a, 0 ≤ x ∧ x ≤ 255 := fun x hx => by
  have := bytesOf_range s x (List.mem_of_mem_drop hx); omega
theorem from_drop (s : ByteArray) (a k : Nat) : (from_ s a).drop k = from_ s (a + k) := by unfold from_; rw [List.drop_drop]
/-- The number of the first j digits behind two bytes. -/
def hxs (l : L) : Nat → Int
  | 0 => 0
  | j + 1 => hxs l j * 16 + hv (l.getD (2 + j) 0)
theorem hxs_range (l : L) (j : Nat) (h : ∀ i, i < j → hex (l.getD (2 + i) 0) = true) (hj : j ≤ 4) : 0 ≤ hxs l j ∧ hxs l j < 16 ^ j := by
  induction j with
  | zero => simp [hxs]
  | succ j ih =>
    obtain ⟨h0, h1⟩ := ih (fun i hi => h i (by omega)) (by omega)
    have := hv_range (h j (by omega))
    simp only [hxs]
    rw [Int.pow_succ]
    omega
theorem hexV_hv {c : Int} (h : hex c = true) : hexV c = hv c := by
  unfold hex at h
  unfold hexV hv dig at *
  simp only [Bool.or_eq_true, Bool.and_eq_true, decide_eq_true_eq] at *
  repeat' split
  all_goals omega
def unitR (l : L) : Value := .tuple (match unit l with | some n => #[.int .i64 n, .bool true] | none => #[.int .i64 0, .bool false])
theorem unitR_some {l : L} {n : Int} (h : unit l = some n) : unitR l = .tuple #[.int .i64 n, .bool true] := by unfold unitR; rw [h]
theorem unitR_none {l : L} (h : unit l = none) : unitR l = .tuple #[.int .i64 0, .bool false] := by unfold unitR; rw [h]

set_option maxHeartbeats 2000000 in
theorem unit_any (s : ByteArray) (a : Nat) (w : World) (hs : s.size ≤ 2147483660) (ha : a ≤ s.size) :
    Calls Tryd.prog 31 #[.string s, .int .i64 (a : Nat)] w fun e w' => e = .returned (unitR (from_ s a)) ∧ w = w' := by
  have hl := from_len s a
  by_cases h6 : s.size < a + 6
  · have hd : decide ((s.size : Int) - (a : Int) < 6) = true := decide_eq_true (by omega)
    rw [unitR_none (l := from_ s a) (by unfold unit; rw [if_neg]; rw [hl]; omega)]
    clear hl
    go_enter Tryd.func31, Tryd.ntmps31
    go_wp2
    go_ret2
    exact ⟨rfl, rfl⟩
  have hd : decide ((s.size : Int) - (a : Int) < 6) = false := decide_eq_false (by omega)
  have x0 := from_at0 s a (by omega)
  have x1 := from_at s a 1 (by omega)
  by_cases c0 : (from_ s a).getD 0 0 = 92
  rotate_left 1
  · rw [unitR_none (l := from_ s a) (by unfold unit; rw [if_neg]; exact fun k => c0 k.2.1)]
    have b0 : (((s[a]'(by omega)).toNat : Int) != 92) = true := by rw [x0]; exact bne_iff_ne.mpr c0
    clear x0 x1 c0 hl
    go_enter Tryd.func31, Tryd.ntmps31
    go_wp2
    go_ret2
    exact ⟨rfl, rfl⟩
  have b0 : (((s[a]'(by omega)).toNat : Int) != 92) = false := by rw [x0]; exact bne_eq_false_iff_eq.mpr c0
  by_cases c1 : (from_ s a).getD 1 0 = 117
  rotate_left 1
  · rw [unitR_none (l := from_ s a) (by unfold unit; rw [if_neg]; exact fun k => c1 k.2.2.1)]
    have b1 : (((s[a + 1]'(by omega)).toNat : Int) != 117) = true := by rw [x1]; exact bne_iff_ne.mpr c1
    clear x0 x1 c0 c1 hl
    go_enter Tryd.func31, Tryd.ntmps31
    go_wp2
    go_ret2
    exact ⟨rfl, rfl⟩
  have b1 : (((s[a + 1]'(by omega)).toNat : Int) != 117) = false := by rw [x1]; exact bne_eq_false_iff_eq.mpr c1
  have C0 := Lib.hid c0
  have C1 := Lib.hid c1
  have HL := Lib.hid hl
  clear x0 x1 c0 c1 hl
  go_enter Tryd.func31, Tryd.ntmps31
  go_wp2
  go_loop [6, 7] (fun n k => ∃ j : Nat, j ≤ 4 ∧ k = .int .i64 ((a + 2 + j : Nat) : Int) ∧ n = .int .i64 (hxs (from_ s a) j) ∧ Hid (∀ i, i < j → hex ((from_ s a).getD (2 + i) 0) = true)) (fun _ k => a + 6 - (intOf k).toNat)
  case atStart => exact ⟨0, by omega, by go_num, rfl, Lib.hid (fun i hi => by omega)⟩
  case round =>
    obtain ⟨j, hj, rfl, rfl, HH⟩ := hrel
    obtain ⟨r0, r1⟩ := hxs_range (from_ s a) j HH.out hj
    by_cases hj4 : j = 4
    · subst hj4
      have e : Hid (unitR (from_ s a) = .tuple #[.int .i64 (hxs (from_ s a) 4), .bool true]) := Lib.hid (unitR_some (by
        unfold unit
        rw [if_pos ⟨by rw [HL.out]; omega, C0.out, C1.out, HH.out 0 (by omega), HH.out 1 (by omega), HH.out 2 (by omega), HH.out 3 (by omega)⟩]
        simp [hxs]))
      go_wp2
      go_ret2
      exact ⟨by rw [e.out]; rfl, rfl⟩
    · have x := from_at s a (2 + j) (by omega)
      have hlt : a + 2 + j < s.size := by omega
      have x' : ((s[a + 2 + j]'hlt).toNat : Int) = (from_ s a).getD (2 + j) 0 := by
        rw [← x]
        have e : a + 2 + j = a + (2 + j) := by omega
        simp only [e]
      have hr := from_byt s a
      have p4 : hxs (from_ s a) j < 65536 := by
        have q : j = 0 ∨ j = 1 ∨ j = 2 ∨ j = 3 := by omega
        clear hr x x' hlt
        rcases q with rfl | rfl | rfl | rfl <;> simp at r1 <;> omega
      by_cases hx : hex ((from_ s a).getD (2 + j) 0) = true
      · have HX : Hid (∀ w, Calls Tryd.prog 50 #[.int .u8 ((s[a + 2 + j]'hlt).toNat : Int)] w fun e w' => e = .returned (.tuple #[.int .i64 (hv ((from_ s a).getD (2 + j) 0)), .bool true]) ∧ w' = w) := Lib.hid (fun w => by
          have hb := from_byt s a ((from_ s a).getD (2 + j) 0) (by rw [List.getD_eq_getElem?_getD, List.getElem?_eq_getElem (by rw [HL.out]; omega)]; simp)
          have := hexDigit_any ((from_ s a).getD (2 + j) 0) hb.1 hb.2 w
          rw [hexV_hv hx, hx] at this
          rw [x']; exact this)
        have HH' : Hid (∀ i, i < j + 1 → hex ((from_ s a).getD (2 + i) 0) = true) := Lib.hid (fun i hi => by
          by_cases e : i = j
          · rw [e]; exact hx
          · exact HH.out i (by omega))
        obtain ⟨v0, v1⟩ := hv_range hx
        obtain ⟨v, hv'⟩ : ∃ v, v = hv ((from_ s a).getD (2 + j) 0) := ⟨_, rfl⟩
        rw [← hv'] at HX v0 v1
        obtain ⟨nn, hnn⟩ : ∃ nn, nn = hxs (from_ s a) j := ⟨_, rfl⟩
        have e2 : Hid (hxs (from_ s a) (j + 1) = nn * 16 + v) := Lib.hid (by rw [hnn, hv']; rfl)
        rw [← hnn] at r0 p4 ⊢
        clear hx hr x x' hnn hv' r1
        go_wp2_with (go_at_call 50; refine (HX.out _).mono ?_; rintro e w' ⟨rfl, rfl⟩)
        go_round
        case rel => exact ⟨j + 1, by omega, by go_num, by rw [e2.out], HH'⟩
        case measure => simp [intOf]; omega
      · have HX : Hid (∀ w, Calls Tryd.prog 50 #[.int .u8 ((s[a + 2 + j]'hlt).toNat : Int)] w fun e w' => e = .returned (.tuple #[.int .i64 (hexV ((from_ s a).getD (2 + j) 0)), .bool false]) ∧ w' = w) := Lib.hid (fun w => by
          have hb := from_byt s a ((from_ s a).getD (2 + j) 0) (by rw [List.getD_eq_getElem?_getD, List.getElem?_eq_getElem (by rw [HL.out]; omega)]; simp)
          have := hexDigit_any ((from_ s a).getD (2 + j) 0) hb.1 hb.2 w
          rw [show hex ((from_ s a).getD (2 + j) 0) = false by simpa using hx] at this
          rw [x']; exact this)
        have e : Hid (unitR (from_ s a) = .tuple #[.int .i64 0, .bool false]) := Lib.hid (unitR_none (by
          unfold unit
          rw [if_neg]
          intro k
          have : j = 0 ∨ j = 1 ∨ j = 2 ∨ j = 3 := by omega
          rcases this with rfl | rfl | rfl | rfl
          · exact hx k.2.2.2.1
          · exact hx k.2.2.2.2.1
          · exact hx k.2.2.2.2.2.1
          · exact hx k.2.2.2.2.2.2))
        clear hx hr x x' r1
        go_wp2_with (go_at_call 50; refine (HX.out _).mono ?_; rintro e w' ⟨rfl, rfl⟩)
        go_ret2
        exact ⟨by rw [e.out]; rfl, rfl⟩
end Go.Proofs.YtkmdcckiehbcmaaDoor.J
