/- Several texts in one. -/
import Derived.Test.YthehnffmbdlopaaDoorZGg
import Derived.Test.YthehnffmbdlopaaDoorZGd
import Derived.Lib.EndianBits
import Derived.Deep.DeepCutAuto
import Derived.Deep.LoopGhost
import Derived.BigQuiet
import Derived.IntWalk
set_option linter.unusedVariables false
set_option linter.unusedSimpArgs false
namespace Go.Proofs.YthehnffmbdlopaaDoor.Jp
open Go.RowKit Go.Proofs.YthehnffmbdlopaaDoorW.PrintWords Go.Proofs.YthehnffmbdlopaaDoorW.PrintLast Go.Proofs.YthehnffmbdlopaaDoorW.PrintMore Go.Proofs.YthehnffmbdlopaaDoor.Aid Go.Proofs.YthehnffmbdlopaaDoor.J

/-- A configuration: single quotes are allowed, unknown escapes are. -/
def cfgV (m : Int) (sq ue : Bool) : Value := .agg #[.bool sq, .bool ue, .int .i64 m]
/-- Where the first byte stands that is no blank, -1 if there is none. -/
def nt (l : L) : Int := if skip l = [] then -1 else (l.length : Int) - (skip l).length
theorem nt_at {l : L} {k : Nat} (hk : k < l.length) (h : skip (l.drop k) = l.drop k) (hs : skip (l.drop k) = skip l) : nt l = k := by
  have hl := congrArg List.length h
  rw [hs, List.length_drop] at hl
  unfold nt
  rw [if_neg (by intro e; rw [e] at hl; simp at hl; omega)]
  omega
theorem nt_none {l : L} {k : Nat} (hk : l.length ≤ k) (hs : skip (l.drop k) = skip l) : nt l = -1 := by
  unfold nt
  rw [← hs, List.drop_eq_nil_of_le hk]; rfl
theorem drop_cons {l : L} {i : Nat} (h : i < l.length) : l.drop i = l.getD i 0 :: l.drop (i + 1) := by
  rw [List.drop_eq_getElem_cons h, List.getD_eq_getElem?_getD, List.getElem?_eq_getElem h]; rfl
theorem blank_cases {c : Int} (h : J.blank c = true) : c = 32 ∨ c = 9 ∨ c = 10 ∨ c = 13 := by simpa [J.blank, or_assoc] using h
theorem blank_not {c : Int} (h : ¬ J.blank c = true) : (c == 32) = false ∧ (c == 9) = false ∧ (c == 10) = false ∧ (c == 13) = false := by
  simp only [Bool.not_eq_true, J.blank, Bool.or_eq_false_iff] at h
  exact ⟨h.1.1.1, h.1.1.2, h.1.2, h.2⟩
theorem in_at {w : World} {b o : Nat} {l : L} (h : In w b o l) {i : Nat} (hi : i < l.length) : w.cell? ⟨b, o + i, none⟩ = some (.int .u8 (l.getD i 0)) := h i hi

set_option maxHeartbeats 4000000 in
set_option maxRecDepth 100000 in
theorem nextTok_any (w : World) (b o c : Nat) (l : L) (m : Int) (sq ue : Bool) (hi : In w b o l) (hl : l.length ≤ 4294967296) :
    Calls Tryd.prog 60 #[cfgV m sq ue, .slice (some ⟨b, o, none⟩) l.length c] w fun e w' => e = .returned (.int .i64 (nt l)) ∧ Below w.heap.size w w' := by
  have HI := Lib.hid hi
  clear hi
  unfold cfgV
  go_enter Tryd.func60, Tryd.ntmps60
  go_wp2
  have HI2 : Hid (In (w.alloc (.cells #[.bool sq, .bool ue, .int .i64 m] 84)) b o l) := Lib.hid (HI.out.alloc _)
  have HB : Hid (Below w.heap.size w (w.alloc (.cells #[.bool sq, .bool ue, .int .i64 m] 84))) := Lib.hid ((Below.refl _ _).alloc (Nat.le_refl _) _)
  obtain ⟨w1, hw1⟩ : ∃ z, z = w.alloc (.cells #[.bool sq, .bool ue, .int .i64 m] 84) := ⟨_, rfl⟩
  rw [← hw1] at HI2 HB ⊢
  clear hw1
  go_loop [9] (fun v => Hid (∃ i : Nat, v = .int .i64 (i : Int) ∧ i ≤ l.length ∧ skip (l.drop i) = skip l)) (fun v => l.length - (intOf v).toNat)
  case atStart => exact Lib.hid ⟨0, rfl, Nat.zero_le _, rfl⟩
  case round =>
    obtain ⟨i, rfl, hle, hs⟩ := hrel.out
    have HS := Lib.hid hs
    clear hrel hs
    rcases Nat.lt_or_ge i l.length with hlt | hge
    · have hcell := in_at HI2.out hlt
      have HD := Lib.hid (drop_cons hlt)
      obtain ⟨d, hd⟩ : ∃ d, d = l.getD i 0 := ⟨_, rfl⟩
      rw [← hd] at hcell HD
      clear hd
      have hdd : decide ((i : Int) < (l.length : Int)) = true := decide_eq_true (by omega)
      by_cases hb : J.blank d = true
      · have HBl := Lib.hid hb
        rcases blank_cases hb with rfl | rfl | rfl | rfl
        all_goals
          clear hb
          go_wp2
          go_round
          case rel => exact Lib.hid ⟨i + 1, by go_num, hlt, by rw [← HS.out, HD.out, skip, if_pos HBl.out]⟩
          case measure => simp [intOf]; omega
      · obtain ⟨b1, b2, b3, b4⟩ := blank_not hb
        have HR := Lib.hid (nt_at hlt (by rw [HD.out, skip, if_neg hb]) HS.out)
        clear hb
        go_wp2
        go_ret
        exact ⟨by rw [HR.out]; rfl, HB.out⟩
    · have hdd : decide ((i : Int) < (l.length : Int)) = false := decide_eq_false (by omega)
      have HN := Lib.hid (nt_none hge HS.out)
      have hd2 : decide (i < l.length) = false := decide_eq_false (by omega)
      clear hge hle
      go_wp2
      go_ret
      exact ⟨by rw [HN.out]; rfl, HB.out⟩

theorem dlm_cases {c : Int} (h : dlm c = true) : c = 32 ∨ c = 10 ∨ c = 13 ∨ c = 9 ∨ c = 44 ∨ c = 125 ∨ c = 93 := by simpa [dlm, or_assoc] using h
theorem dlm_not {c : Int} (h : ¬ dlm c = true) : (c == 32) = false ∧ (c == 10) = false ∧ (c == 13) = false ∧ (c == 9) = false ∧ (c == 44) = false ∧ (c == 125) = false ∧ (c == 93) = false := by
  simp only [Bool.not_eq_true, dlm, Bool.or_eq_false_iff] at h
  exact ⟨h.1.1.1.1.1.1, h.1.1.1.1.1.2, h.1.1.1.1.2, h.1.1.1.2, h.1.1.2, h.1.2, h.2⟩
theorem ne_of {c d : Int} (h : (c == d) = false) : (c != d) = true := by rw [bne, h]; rfl
theorem tok_step {c : Int} (t : L) (h : ¬ dlm c = true) : (tok (c :: t)).1.length = (tok t).1.length + 1 := by rw [tok, if_neg h]; rfl
set_option maxHeartbeats 4000000 in
set_option maxRecDepth 100000 in
theorem tokenEnd_any (w : World) (b o c : Nat) (l : L) (hi : In w b o l) (hl : l.length ≤ 4294967296) :
    Calls Tryd.prog 77 #[.slice (some ⟨b, o, none⟩) l.length c] w fun e w' => e = .returned (.int .i64 ((tok l).1.length : Nat)) ∧ w' = w := by
  have HI2 := Lib.hid hi
  clear hi
  go_enter Tryd.func77, Tryd.ntmps77
  go_wp2
  go_loop [7] (fun v => Hid (∃ i : Nat, v = .int .i64 (i : Int) ∧ i ≤ l.length ∧ (tok l).1.length = i + (tok (l.drop i)).1.length)) (fun v => l.length - (intOf v).toNat)
  case atStart => exact Lib.hid ⟨0, rfl, Nat.zero_le _, by rw [Nat.zero_add]; rfl⟩
  case round =>
    obtain ⟨i, rfl, hle, hs⟩ := hrel.out
    have HS := Lib.hid hs
    clear hrel hs
    rcases Nat.lt_or_ge i l.length with hlt | hge
    · have hcell := in_at HI2.out hlt
      have HD := Lib.hid (drop_cons hlt)
      obtain ⟨d, hd⟩ : ∃ d, d = l.getD i 0 := ⟨_, rfl⟩
      rw [← hd] at hcell HD
      clear hd
      have hdd : decide ((i : Int) < (l.length : Int)) = true := decide_eq_true (by omega)
      by_cases hb : dlm d = true
      · have HR : Hid ((tok l).1.length = i) := Lib.hid (by have := HS.out; rw [HD.out, tok, if_pos hb] at this; exact this)
        rcases dlm_cases hb with rfl | rfl | rfl | rfl | rfl | rfl | rfl
        all_goals
          clear hb
          go_wp2
          go_ret
          exact ⟨by rw [HR.out]; rfl, rfl⟩
      · obtain ⟨b1, b2, b3, b4, b5, b6, b7⟩ := dlm_not hb
        have n1 := ne_of b1; have n2 := ne_of b2; have n3 := ne_of b3; have n4 := ne_of b4; have n5 := ne_of b5; have n6 := ne_of b6; have n7 := ne_of b7
        have HB := Lib.hid hb
        clear hb
        go_wp2
        go_round
        case rel => exact Lib.hid ⟨i + 1, by go_num, hlt, by have := HS.out; rw [HD.out, tok_step _ HB.out] at this; omega⟩
        case measure => simp [intOf]; omega
    · have hdd : decide ((i : Int) < (l.length : Int)) = false := decide_eq_false (by omega)
      have hd2 : decide (i < l.length) = false := decide_eq_false (by omega)
      have HR : Hid ((tok l).1.length = l.length) := Lib.hid (by have := HS.out; rw [List.drop_eq_nil_of_le hge] at this; have h0 : (tok ([] : L)).1.length = 0 := rfl; omega)
      clear hge hle
      go_wp2
      go_ret
      exact ⟨by rw [HR.out]; rfl, rfl⟩
end Go.Proofs.YthehnffmbdlopaaDoor.Jp

set_option linter.unusedVariables false
set_option linter.unusedSimpArgs false
namespace Go.Proofs.YthehnffmbdlopaaDoor.Jp

theorem xor_byte (a b c d : Nat) (ha : a < 256) (hc : c < 256) : (a + 256 * b) ^^^ (c + 256 * d) = (a ^^^ c) + 256 * (b ^^^ d) := by
  have h1 : ((a + 256 * b) ^^^ (c + 256 * d)) % 2 ^ 8 = a ^^^ c := by
    rw [Nat.xor_mod_two_pow, show (a + 256 * b) % 2 ^ 8 = a by omega, show (c + 256 * d) % 2 ^ 8 = c by omega]
  have h2 : ((a + 256 * b) ^^^ (c + 256 * d)) / 2 ^ 8 = b ^^^ d := by
    rw [Nat.xor_div_two_pow, show (a + 256 * b) / 2 ^ 8 = b by omega, show (c + 256 * d) / 2 ^ 8 = d by omega]
  omega
def w8 (a b c d e f g h : Nat) : Nat := a + 256 * (b + 256 * (c + 256 * (d + 256 * (e + 256 * (f + 256 * (g + 256 * h))))))
theorem xor_w8 {a b c d e f g h q : Nat} (ha : a < 256) (hb : b < 256) (hc : c < 256) (hd : d < 256) (he : e < 256) (hf : f < 256) (hg : g < 256) (hq : q < 256) :
    w8 a b c d e f g h ^^^ w8 q q q q q q q q = w8 (a ^^^ q) (b ^^^ q) (c ^^^ q) (d ^^^ q) (e ^^^ q) (f ^^^ q) (g ^^^ q) (h ^^^ q) := by
  unfold w8
  rw [xor_byte _ _ _ _ ha hq, xor_byte _ _ _ _ hb hq, xor_byte _ _ _ _ hc hq, xor_byte _ _ _ _ hd hq, xor_byte _ _ _ _ he hq, xor_byte _ _ _ _ hf hq, xor_byte _ _ _ _ hg hq]
theorem xor_lt {a q : Nat} (ha : a < 256) (hq : q < 256) : a ^^^ q < 256 := Nat.xor_lt_two_pow (n := 8) ha hq
/-- The marks: the word less ones, and not the word, and the highest bits. -/
def hit (x : Nat) : Nat := (((x + 18374403900871474943) % 18446744073709551616) &&& (18446744073709551615 - x)) &&& 9259542123273814144
theorem hit_bit {x i : Nat} (hx : x < 18446744073709551616) (h1 : (x + 18374403900871474943) % 18446744073709551616 / 2 ^ i % 2 = 1) (h2 : x / 2 ^ i % 2 = 0) (hi : i < 64) (h3 : 9259542123273814144 / 2 ^ i % 2 = 1) : hit x ≠ 0 := by
  intro h0
  have hb : (hit x).testBit i = true := by
    unfold hit
    rw [Nat.testBit_and, Nat.testBit_and, show 18446744073709551615 - x = 2 ^ 64 - (x + 1) by omega, Nat.testBit_two_pow_sub_succ (by omega)]
    simp only [Nat.testBit_eq_decide_div_mod_eq, h1, h2, h3]
    simp [hi]
  rw [h0, Nat.zero_testBit] at hb
  cases hb
theorem hit_zero {a b c d e f g h : Nat} (ha : a < 256) (hb : b < 256) (hc : c < 256) (hd : d < 256) (he : e < 256) (hf : f < 256) (hg : g < 256) (hh : h < 256) (h0 : hit (w8 a b c d e f g h) = 0) :
    a ≠ 0 ∧ b ≠ 0 ∧ c ≠ 0 ∧ d ≠ 0 ∧ e ≠ 0 ∧ f ≠ 0 ∧ g ≠ 0 ∧ h ≠ 0 := by
  have hx : w8 a b c d e f g h < 18446744073709551616 := by unfold w8; omega
  have A : a ≠ 0 := fun e => hit_bit (i := 7) hx (by unfold w8; omega) (by unfold w8; omega) (by decide) (by decide) h0
  have B : b ≠ 0 := fun e => hit_bit (i := 15) hx (by unfold w8; omega) (by unfold w8; omega) (by decide) (by decide) h0
  have C : c ≠ 0 := fun e => hit_bit (i := 23) hx (by unfold w8; omega) (by unfold w8; omega) (by decide) (by decide) h0
  have D : d ≠ 0 := fun e => hit_bit (i := 31) hx (by unfold w8; omega) (by unfold w8; omega) (by decide) (by decide) h0
  have E : e ≠ 0 := fun e => hit_bit (i := 39) hx (by unfold w8; omega) (by unfold w8; omega) (by decide) (by decide) h0
  have F : f ≠ 0 := fun e => hit_bit (i := 47) hx (by unfold w8; omega) (by unfold w8; omega) (by decide) (by decide) h0
  have G : g ≠ 0 := fun e => hit_bit (i := 55) hx (by unfold w8; omega) (by unfold w8; omega) (by decide) (by decide) h0
  exact ⟨A, B, C, D, E, F, G, fun e => hit_bit (i := 63) hx (by unfold w8; omega) (by unfold w8; omega) (by decide) (by decide) h0⟩
theorem xor_self_zero {a q : Nat} (h : a = q) : a ^^^ q = 0 := by rw [h, Nat.xor_self]
theorem hit_byte {a b c d e f g h q : Nat} (ha : a < 256) (hb : b < 256) (hc : c < 256) (hd : d < 256) (he : e < 256) (hf : f < 256) (hg : g < 256) (hh : h < 256) (hq : q < 256) (h0 : hit (w8 a b c d e f g h ^^^ w8 q q q q q q q q) = 0) :
    a ≠ q ∧ b ≠ q ∧ c ≠ q ∧ d ≠ q ∧ e ≠ q ∧ f ≠ q ∧ g ≠ q ∧ h ≠ q := by
  rw [xor_w8 ha hb hc hd he hf hg hq] at h0
  obtain ⟨a1, b1, c1, d1, e1, f1, g1, h1⟩ := hit_zero (xor_lt ha hq) (xor_lt hb hq) (xor_lt hc hq) (xor_lt hd hq) (xor_lt he hq) (xor_lt hf hq) (xor_lt hg hq) (xor_lt hh hq) h0
  exact ⟨fun z => a1 (xor_self_zero z), fun z => b1 (xor_self_zero z), fun z => c1 (xor_self_zero z), fun z => d1 (xor_self_zero z), fun z => e1 (xor_self_zero z), fun z => f1 (xor_self_zero z), fun z => g1 (xor_self_zero z), fun z => h1 (xor_self_zero z)⟩

open Go in
/-- The marks as the code computes them. -/
def mk (x q : Int) : Int := bits BinOp.and IntKind.u64 (bits BinOp.and IntKind.u64 (IntKind.u64.wrap (bits BinOp.xor IntKind.u64 x q - 72340172838076673)) (bits BinOp.xor IntKind.u64 (if IntKind.u64.signed = true then -1 else IntKind.u64.max) (bits BinOp.xor IntKind.u64 x q))) 9259542123273814144
open Go in
theorem xor_nat (a b : Nat) (ha : a < 18446744073709551616) (hb : b < 18446744073709551616) : bits .xor .u64 a b = ((a ^^^ b : Nat) : Int) := by
  have ha' : a % 2 ^ IntKind.u64.bits = a := Nat.mod_eq_of_lt ha
  have hb' : b % 2 ^ IntKind.u64.bits = b := Nat.mod_eq_of_lt hb
  simp only [bits, BitVec.ofInt_natCast, BitVec.toNat_xor, BitVec.toNat_ofNat, ha', hb']
  have : a ^^^ b < 18446744073709551616 := Nat.xor_lt_two_pow (n := 64) ha hb
  rw [IntKind.wrap_u64]; omega
open Go in
theorem and_nat (a b : Nat) (ha : a < 18446744073709551616) (hb : b < 18446744073709551616) : bits .and .u64 a b = ((a &&& b : Nat) : Int) :=
  (bits_nat .u64 64 (by decide) wraps_u64 a b ha hb).1
open Go in
theorem or_nat (a b : Nat) (ha : a < 18446744073709551616) (hb : b < 18446744073709551616) : bits .or .u64 a b = ((a ||| b : Nat) : Int) :=
  (bits_nat .u64 64 (by decide) wraps_u64 a b ha hb).2
theorem all_ones (y : Nat) (hy : y < 18446744073709551616) : 18446744073709551615 ^^^ y = 18446744073709551615 - y := by
  apply Nat.eq_of_testBit_eq
  intro i
  rw [Nat.testBit_xor, show 18446744073709551615 - y = 2 ^ 64 - (y + 1) by omega, Nat.testBit_two_pow_sub_succ (by omega), show 18446744073709551615 = 2 ^ 64 - 1 by decide, Nat.testBit_two_pow_sub_one]
  by_cases h : i < 64
  · simp [h]
  · have : y.testBit i = false := Nat.testBit_lt_two_pow (Nat.lt_of_lt_of_le hy (show 2 ^ 64 ≤ 2 ^ i from Nat.pow_le_pow_right (by decide) (by omega)))
    simp [h, this]
open Go in
theorem mk_nat (x q : Nat) (hx : x < 18446744073709551616) (hq : q < 18446744073709551616) : mk x q = ((hit (x ^^^ q) : Nat) : Int) := by
  have hy : x ^^^ q < 18446744073709551616 := Nat.xor_lt_two_pow (n := 64) hx hq
  unfold mk
  rw [xor_nat x q hx hq]
  generalize x ^^^ q = y at hy
  have e1 : IntKind.u64.wrap ((y : Int) - 72340172838076673) = (((y + 18374403900871474943) % 18446744073709551616 : Nat) : Int) := by rw [IntKind.wrap_u64]; omega
  have e2 : bits .xor .u64 (if IntKind.u64.signed = true then -1 else IntKind.u64.max) (y : Int) = ((18446744073709551615 - y : Nat) : Int) := by
    have : (if IntKind.u64.signed = true then -1 else IntKind.u64.max) = ((18446744073709551615 : Nat) : Int) := by decide
    rw [this, xor_nat _ y (by decide) hy, all_ones y hy]
  have e3 : (9259542123273814144 : Int) = ((9259542123273814144 : Nat) : Int) := rfl
  have hand : (y + 18374403900871474943) % 18446744073709551616 &&& (18446744073709551615 - y) < 18446744073709551616 := Nat.and_lt_two_pow (n := 64) _ (by omega)
  rw [e1, e2, e3, and_nat _ _ (by omega) (by omega), and_nat _ _ hand (by decide)]
  rfl
open Go in
theorem mk_or {x p q : Nat} (hx : x < 18446744073709551616) (hp : p < 18446744073709551616) (hq : q < 18446744073709551616) (h : bits .or .u64 (mk x p) (mk x q) = 0) : hit (x ^^^ p) = 0 ∧ hit (x ^^^ q) = 0 := by
  have hl : ∀ y, hit y < 18446744073709551616 := fun y => Nat.and_lt_two_pow (n := 64) _ (by decide)
  rw [mk_nat x p hx hp, mk_nat x q hx hq, or_nat _ _ (hl _) (hl _)] at h
  have h' : hit (x ^^^ p) ||| hit (x ^^^ q) = 0 := by exact_mod_cast h
  exact ⟨(Nat.or_eq_zero_iff.1 h').1, (Nat.or_eq_zero_iff.1 h').2⟩
end Go.Proofs.YthehnffmbdlopaaDoor.Jp

set_option linter.unusedVariables false
set_option linter.unusedSimpArgs false
namespace Go.Proofs.YthehnffmbdlopaaDoor.Jp
open Go.RowKit Go.Proofs.YthehnffmbdlopaaDoorW.PrintWords Go.Proofs.YthehnffmbdlopaaDoorW.PrintLast Go.Proofs.YthehnffmbdlopaaDoorW.PrintMore Go.Proofs.YthehnffmbdlopaaDoor.Aid Go.Proofs.YthehnffmbdlopaaDoor.J

/-- The word of eight bytes, as a whole number. -/
def w8I (a b c d e f g h : Int) : Int := a + b * 256 + c * 65536 + d * 16777216 + e * 4294967296 + f * 1099511627776 + g * 281474976710656 + h * 72057594037927936
def W8 (r : L) : Int := w8I (r.getD 0 0) (r.getD 1 0) (r.getD 2 0) (r.getD 3 0) (r.getD 4 0) (r.getD 5 0) (r.getD 6 0) (r.getD 7 0)
theorem u8_of {c : Int} (h : byt c) : ((UInt8.ofNat c.toNat).toNat : Int) = c := by
  obtain ⟨h0, h1⟩ := h
  rw [UInt8.toNat_ofNat']
  omega
theorem getD_byt {l : L} (h : ∀ x ∈ l, byt x) {k : Nat} (hk : k < l.length) : byt (l.getD k 0) := by
  rw [List.getD_eq_getElem?_getD, List.getElem?_eq_getElem hk]
  exact h _ (List.getElem_mem _)
theorem in_below {w w' : World} {b o : Nat} {l : L} (h : In w b o l) (k : Below w.heap.size w w') : In w' b o l := fun j hj => pw_cell_below k (h j hj)
theorem below_drew {B : Nat} {w w' : World} (h : Below B w w') : Below B w w'.drew := h.drew
set_option maxRecDepth 100000 in
theorem LE_any (w : World) (b o c : Nat) (r : L) (hb : ∀ x ∈ r, byt x) (hi : In w b o r) (h8 : 8 ≤ r.length) :
    Calls Tryd.prog 72 #[.agg #[], .slice (some ⟨b, o, none⟩) r.length c] w fun e w' => e = .returned (.int .u64 (W8 r)) ∧ Below w.heap.size w w' := by
  have cl : ∀ k, k < r.length → w.cell? ⟨b, o + k, none⟩ = some (.int .u8 ((UInt8.ofNat (r.getD k 0).toNat).toNat : Int)) := fun k hk => by rw [u8_of (getD_byt hb hk)]; exact hi k hk
  have K := Tryd.binary_LE_Uint64 b o r.length c _ _ _ _ _ _ _ _ w h8 (by have := cl 0 (by omega); rwa [Nat.add_zero] at this) (cl 1 (by omega)) (cl 2 (by omega)) (cl 3 (by omega)) (cl 4 (by omega)) (cl 5 (by omega)) (cl 6 (by omega)) (cl 7 (by omega))
  refine K.mono ?_
  rintro e w' ⟨rfl, hB⟩
  refine ⟨?_, hB⟩
  congr 1
  congr 1
  have e0 := u8_of (getD_byt hb (show 0 < r.length by omega))
  have e1 := u8_of (getD_byt hb (show 1 < r.length by omega))
  have e2 := u8_of (getD_byt hb (show 2 < r.length by omega))
  have e3 := u8_of (getD_byt hb (show 3 < r.length by omega))
  have e4 := u8_of (getD_byt hb (show 4 < r.length by omega))
  have e5 := u8_of (getD_byt hb (show 5 < r.length by omega))
  have e6 := u8_of (getD_byt hb (show 6 < r.length by omega))
  have e7 := u8_of (getD_byt hb (show 7 < r.length by omega))
  unfold W8 w8I
  simp only [Lib.leNat]
  push_cast
  rw [e0, e1, e2, e3, e4, e5, e6, e7]
  omega
theorem W8_nat {r : L} (hb : ∀ x ∈ r, byt x) (h8 : 8 ≤ r.length) : W8 r = ((w8 (r.getD 0 0).toNat (r.getD 1 0).toNat (r.getD 2 0).toNat (r.getD 3 0).toNat (r.getD 4 0).toNat (r.getD 5 0).toNat (r.getD 6 0).toNat (r.getD 7 0).toNat : Nat) : Int) := by
  have b0 := getD_byt hb (show 0 < r.length by omega)
  have b1 := getD_byt hb (show 1 < r.length by omega)
  have b2 := getD_byt hb (show 2 < r.length by omega)
  have b3 := getD_byt hb (show 3 < r.length by omega)
  have b4 := getD_byt hb (show 4 < r.length by omega)
  have b5 := getD_byt hb (show 5 < r.length by omega)
  have b6 := getD_byt hb (show 6 < r.length by omega)
  have b7 := getD_byt hb (show 7 < r.length by omega)
  unfold byt at b0 b1 b2 b3 b4 b5 b6 b7
  unfold W8 w8I w8
  generalize r.getD 0 0 = a at *
  generalize r.getD 1 0 = b at *
  generalize r.getD 2 0 = c at *
  generalize r.getD 3 0 = d at *
  generalize r.getD 4 0 = e at *
  generalize r.getD 5 0 = f at *
  generalize r.getD 6 0 = g at *
  generalize r.getD 7 0 = h at *
  omega
theorem swar_no {r : L} (hb : ∀ x ∈ r, byt x) (h8 : 8 ≤ r.length) (h0 : bits BinOp.or IntKind.u64 (mk (W8 r) 2459565876494606882) (mk (W8 r) 6655295901103053916) = 0) : ∀ c ∈ r.take 8, c ≠ 34 ∧ c ≠ 92 := by
  have lt : ∀ k, k < 8 → (r.getD k 0).toNat < 256 := fun k hk => by have := getD_byt hb (show k < r.length by omega); unfold byt at this; omega
  have l0 := lt 0 (by omega); have l1 := lt 1 (by omega); have l2 := lt 2 (by omega); have l3 := lt 3 (by omega)
  have l4 := lt 4 (by omega); have l5 := lt 5 (by omega); have l6 := lt 6 (by omega); have l7 := lt 7 (by omega)
  have e1 : (2459565876494606882 : Int) = ((w8 34 34 34 34 34 34 34 34 : Nat) : Int) := by decide
  have e2 : (6655295901103053916 : Int) = ((w8 92 92 92 92 92 92 92 92 : Nat) : Int) := by decide
  rw [W8_nat hb h8, e1, e2] at h0
  obtain ⟨h1, h2⟩ := mk_or (by unfold w8; omega) (by decide) (by decide) h0
  obtain ⟨p0, p1, p2, p3, p4, p5, p6, p7⟩ := hit_byte l0 l1 l2 l3 l4 l5 l6 l7 (by decide) h1
  obtain ⟨q0, q1, q2, q3, q4, q5, q6, q7⟩ := hit_byte l0 l1 l2 l3 l4 l5 l6 l7 (by decide) h2
  intro c hc
  obtain ⟨k, hk, rfl⟩ := List.getElem_of_mem hc
  rw [List.length_take] at hk
  rw [List.getElem_take]
  have e : r[k]'(by omega) = r.getD k 0 := by rw [List.getD_eq_getElem?_getD, List.getElem?_eq_getElem (by omega)]; rfl
  rw [e]
  have h9 : k = 0 ∨ k = 1 ∨ k = 2 ∨ k = 3 ∨ k = 4 ∨ k = 5 ∨ k = 6 ∨ k = 7 := by omega
  rcases h9 with rfl | rfl | rfl | rfl | rfl | rfl | rfl | rfl
  · exact ⟨fun e => p0 (by rw [e]; rfl), fun e => q0 (by rw [e]; rfl)⟩
  · exact ⟨fun e => p1 (by rw [e]; rfl), fun e => q1 (by rw [e]; rfl)⟩
  · exact ⟨fun e => p2 (by rw [e]; rfl), fun e => q2 (by rw [e]; rfl)⟩
  · exact ⟨fun e => p3 (by rw [e]; rfl), fun e => q3 (by rw [e]; rfl)⟩
  · exact ⟨fun e => p4 (by rw [e]; rfl), fun e => q4 (by rw [e]; rfl)⟩
  · exact ⟨fun e => p5 (by rw [e]; rfl), fun e => q5 (by rw [e]; rfl)⟩
  · exact ⟨fun e => p6 (by rw [e]; rfl), fun e => q6 (by rw [e]; rfl)⟩
  · exact ⟨fun e => p7 (by rw [e]; rfl), fun e => q7 (by rw [e]; rfl)⟩
theorem no_append {i : Nat} {l r : L} (hr : r = l.drop i) (h1 : ∀ c ∈ l.take i, c ≠ 34 ∧ c ≠ 92) (h2 : ∀ c ∈ r.take 8, c ≠ 34 ∧ c ≠ 92) : ∀ c ∈ l.take (i + 8), c ≠ 34 ∧ c ≠ 92 := by
  intro c hc
  rw [List.take_add, List.mem_append] at hc
  rcases hc with hc | hc
  · exact h1 c hc
  · exact h2 c (by rw [hr]; exact hc)
/-- The state of the second loop: so much is passed. -/
structure S2 (l : L) (i : Nat) (e : Bool) : Prop where
  le : i ≤ l.length
  esc : e = decide (92 ∈ l.take i)
  st : ∀ r, Fp.rs false (l.take i ++ r) = (Fp.rs (par false (l.take i)) r).map fun x => (l.take i ++ x.1, x.2)
theorem take_snoc {l : L} {i : Nat} {d : Int} {t : L} (h : l.drop i = d :: t) : l.take (i + 1) = l.take i ++ [d] := by
  rw [List.take_add, h]; rfl
theorem S2.more {l : L} {i : Nat} {e : Bool} (h : S2 l i e) {d : Int} {t : L} (hd : l.drop i = d :: t) (hq : ¬ (d = 34 ∧ par false (l.take i) = false)) : S2 l (i + 1) (e || d == 92) where
  le := by
    have := congrArg List.length hd
    rw [List.length_drop] at this
    simp only [List.length_cons] at this; omega
  esc := by
    rw [take_snoc hd, h.esc]
    by_cases h1 : 92 ∈ l.take i
    · simp [h1]
    · by_cases h2 : d = 92
      · simp [h2]
      · have : (d == 92) = false := beq_eq_false_iff_ne.mpr h2
        simp [h1, this, Ne.symm h2]
  st := by
    rw [take_snoc hd]
    intro r
    exact rs_step (t := t) false hq h.st r
theorem S2.from_no {l : L} {i : Nat} (hi : i ≤ l.length) (h : ∀ c ∈ l.take i, c ≠ 34 ∧ c ≠ 92) : S2 l i false where
  le := hi
  esc := (decide_eq_false (fun e => (h _ e).2 rfl)).symm
  st := by
    have key : ∀ (p r : L), (∀ c ∈ p, c ≠ 34 ∧ c ≠ 92) → Fp.rs false (p ++ r) = (Fp.rs (par false p) r).map fun x => (p ++ x.1, x.2) := by
      intro p
      induction p with
      | nil => intro r _; simp [par]
      | cons c p ih =>
        intro r hp
        obtain ⟨h1, h2⟩ := hp c (List.mem_cons_self ..)
        rw [List.cons_append, Fp.rs_plain _ h1 h2, ih r (fun x hx => hp x (List.mem_cons_of_mem _ hx)), par, beq_eq_false_iff_ne.mpr h2, Option.map_map]
        rfl
    exact fun r => key _ r h
theorem S2.rest {l : L} {i : Nat} {e : Bool} (h : S2 l i e) : Fp.rs false l = (Fp.rs (par false (l.take i)) (l.drop i)).map fun x => (l.take i ++ x.1, x.2) := by
  have := h.st (l.drop i)
  rwa [List.take_append_drop] at this
/-- The mark that ends the string. -/
theorem S2.found {l : L} {i : Nat} {e : Bool} (h : S2 l i e) {t : L} (hd : l.drop i = 34 :: t) (hp : par false (l.take i) = false) : se l = ((i : Int) + 1, e) := by
  have h1 := h.rest
  have hl : (l.take i).length = i := by rw [List.length_take]; have := h.le; omega
  rw [hd, hp, Fp.rs, if_pos ⟨rfl, rfl⟩] at h1
  unfold se
  rw [h1]
  simp only [Option.map_some, List.append_nil]
  rw [hl, h.esc]
theorem S2.none_ {l : L} {i : Nat} {e : Bool} (h : S2 l i e) (hi : l.length ≤ i) : se l = (-1, e) := by
  have h1 := h.rest
  rw [List.drop_eq_nil_of_le hi, Fp.rs] at h1
  unfold se
  rw [h1]
  simp only [Option.map_none]
  rw [h.esc, List.take_of_length_le hi]
/-- The state of the first loop: no mark, no backslash ahead of i. -/
def S1 (w : World) (l : L) (v10 : Value) (W : World) : Prop := ∃ i : Nat, v10 = .int .i64 (i : Int) ∧ i ≤ l.length ∧ (∀ c ∈ l.take i, c ≠ 34 ∧ c ≠ 92) ∧ Below w.heap.size w W

set_option maxHeartbeats 8000000 in
set_option maxRecDepth 100000 in
theorem strEnd_any (w : World) (b o c : Nat) (l : L) (m : Int) (sq ue : Bool) (hb : ∀ x ∈ l, byt x) (hi : In w b o l) (hl : l.length ≤ 4294967296) (hlc : l.length ≤ c) :
    Calls Tryd.prog 61 #[cfgV m sq ue, .slice (some ⟨b, o, none⟩) l.length c, .int .u8 34] w fun e w' => e = .returned (.tuple #[.int .i64 (se l).1, .bool (se l).2]) ∧ Below w.heap.size w w' := by
  have HI := Lib.hid hi
  have HBy := Lib.hid hb
  clear hi hb
  unfold cfgV
  go_enter Tryd.func61, Tryd.ntmps61
  go_upto_block 0 with (fail)
  have HB0 : Hid (Below w.heap.size w (w.alloc (.cells #[.bool sq, .bool ue, .int .i64 m] 84))) := Lib.hid ((Below.refl _ _).alloc (Nat.le_refl _) _)
  obtain ⟨w1, hw1⟩ : ∃ z, z = w.alloc (.cells #[.bool sq, .bool ue, .int .i64 m] 84) := ⟨_, rfl⟩
  rw [← hw1] at HB0 ⊢
  clear hw1
  have hws : w.heap.size ≤ w1.heap.size := HB0.out.size
  go_cut [10] (fun v10 W => Hid (S1 w l v10 W))
  case first =>
    go_wp2_with fail
    go_loopg [10] l.length (fun kq v10 W => Hid (∃ i : Nat, v10 = .int .i64 (i : Int) ∧ i + kq = l.length ∧ (∀ c ∈ l.take i, c ≠ 34 ∧ c ≠ 92) ∧ Below w.heap.size w W))
    case atStart => exact Lib.hid ⟨0, rfl, by omega, by simp, HB0.out⟩
    case round =>
      obtain ⟨i, rfl, hle, hno, hB⟩ := hrel.out
      have HN := Lib.hid hno
      have HB := Lib.hid hB
      have HLE := Lib.hid hle
      have hil : i ≤ l.length := by omega
      clear hrel hno hB hle
      rcases Nat.lt_or_ge l.length (i + 8) with hlt | hge
      · have hd : decide ((i : Int) + 8 ≤ (l.length : Int)) = false := decide_eq_false (by omega)
        go_wp2
        go_meet
        case rel => exact Lib.hid ⟨i, rfl, hil, HN.out, HB.out⟩
      · have hd : decide ((i : Int) + 8 ≤ (l.length : Int)) = true := decide_eq_true (by omega)
        obtain ⟨o', r, c', hr, hrl, hrc, ksl, hIr⟩ := cut_in b o c l i hil hlc
        have hrb : ∀ x ∈ r, byt x := fun x hx => HBy.out x (by rw [hr] at hx; exact List.mem_of_mem_drop hx)
        have HLEc := Lib.hid (fun W (h : In W b o l) => LE_any W b o' c' r hrb (hIr W h) (by omega))
        have HR := Lib.hid hr
        clear hr hrb
        have HIW : Hid (In wr.drew b o l) := Lib.hid (in_below HI.out (below_drew HB.out))
        have HTr : Hid (∀ W, Below wr.drew.heap.size wr.drew W → Below w.heap.size w W) := Lib.hid (fun W h => below_then (below_drew HB.out) (below_drew HB.out).size h)
        go_upto_region 6 with (fail)
        go_cut [12] from 25 to 57 (fun v12 W => Hid (v12 = .int .u64 (W8 r) ∧ Below w.heap.size w W))
        case first =>
          go_region_with ((go_at_call 72; refine (HLEc.out _ HIW.out).mono ?_; rintro e w2 ⟨rfl, hb2⟩; replace hb2 := Lib.hid hb2))
          all_goals
            go_wp2_with fail
            go_meet
            case rel => exact Lib.hid ⟨rfl, HTr.out _ hb2.out⟩
        case rest =>
          obtain ⟨rfl, hB3⟩ := hcut.out
          have HB3 := Lib.hid hB3
          clear hcut hB3
          obtain ⟨x, hx⟩ : ∃ x, x = W8 r := ⟨_, rfl⟩
          rw [← hx]
          have HX := Lib.hid hx
          clear hx HTr HIW HLEc
          go_upto_region 11 with (fail)
          obtain ⟨A, hA⟩ : ∃ A, A = mk x 2459565876494606882 := ⟨_, rfl⟩
          obtain ⟨Bq, hBq⟩ : ∃ A, A = mk x 6655295901103053916 := ⟨_, rfl⟩
          have HA := Lib.hid hA
          have HBq := Lib.hid hBq
          unfold mk at hA hBq
          rw [← hA, ← hBq]
          clear hA hBq
          have hrb : ∀ x ∈ r, byt x := fun x hx => HBy.out x (by rw [HR.out] at hx; exact List.mem_of_mem_drop hx)
          by_cases h0 : bits BinOp.or IntKind.u64 A Bq = 0
          · have HNO := Lib.hid (no_append HR.out HN.out (swar_no hrb (by omega) (by rw [← HX.out, ← HA.out, ← HBq.out]; exact h0)))
            have hz : (bits BinOp.or IntKind.u64 A Bq == 0) = true := beq_iff_eq.mpr h0
            clear h0 hrb
            go_wp2
            go_roundg (l.length - (i + 8))
            case rel => exact Lib.hid ⟨i + 8, by go_num, by omega, HNO.out, HB3.out⟩
            case measure => have := HLE.out; omega
          · have hz : (bits BinOp.or IntKind.u64 A Bq == 0) = false := beq_eq_false_iff_ne.mpr h0
            clear h0 hrb
            go_wp2
            go_meet
            case rel => exact Lib.hid ⟨i, rfl, hil, HN.out, HB3.out⟩
  case rest =>
    obtain ⟨i0, rfl, hi0, hno0, hB0⟩ := hcut.out
    have HS0 := Lib.hid (S2.from_no hi0 hno0)
    have HB := Lib.hid hB0
    have HIc : Hid (In wc b o l) := Lib.hid (in_below HI.out hB0)
    clear hcut hno0 hB0 hws
    go_wp2
    go_loop [10, 17] (fun v10 v17 => Hid (∃ (i : Nat) (e : Bool), v10 = .int .i64 (i : Int) ∧ v17 = .bool e ∧ S2 l i e)) (fun v10 _ => l.length - (intOf v10).toNat)
    case atStart => exact Lib.hid ⟨i0, false, rfl, rfl, HS0.out⟩
    case round =>
      obtain ⟨i, e, rfl, rfl, hS⟩ := hrel.out
      have HS := Lib.hid hS
      clear hrel hS HS0
      rcases Nat.lt_or_ge i l.length with hlt | hge
      · have hcell := in_at HIc.out hlt
        have HD := Lib.hid (drop_cons hlt)
        obtain ⟨d, hd⟩ : ∃ d, d = l.getD i 0 := ⟨_, rfl⟩
        rw [← hd] at hcell HD
        clear hd
        have hdd : decide ((i : Int) < (l.length : Int)) = true := decide_eq_true (by omega)
        have hwi : IntKind.i64.wrap ((i : Int) + 1) = (i : Int) + 1 := IntWalk.i64_in _ (by omega)
        by_cases h92 : (92 : Int) < d
        · have g1 : decide ((92 : Int) < d) = true := decide_eq_true h92
          have HM := Lib.hid (HS.out.more HD.out (by omega))
          have hx : (d == 92) = false := beq_eq_false_iff_ne.mpr (by omega)
          rw [hx, Bool.or_false] at HM
          clear h92 hx
          go_wp2
          go_round
          case rel => exact Lib.hid ⟨i + 1, e, by go_num, rfl, HM.out⟩
          case measure => simp [intOf]; omega
        · have g1 : decide ((92 : Int) < d) = false := decide_eq_false h92
          by_cases h34 : d = 34
          · subst h34
            clear h92
            cases e with
            | false =>
              have hp : par false (l.take i) = false := par_no _ (of_decide_eq_false HS.out.esc.symm)
              have HF := Lib.hid (HS.out.found HD.out hp)
              clear hp
              go_wp2
              go_ret2
              exact ⟨by rw [HF.out]; rfl, HB.out⟩
            | true =>
              obtain ⟨T, hT⟩ : ∃ T, T = tb (l.take i) := ⟨_, rfl⟩
              have hpl : (l.take i).length = i := by rw [List.length_take]; omega
              have hT1 : T ≤ i := by rw [hT]; have := tb_le (l.take i); omega
              have hg : ∀ k, k < i → (l.take i)[k]? = some (l.getD k 0) := fun k hk => by
                rw [List.getElem?_take_of_lt hk, List.getD_eq_getElem?_getD, List.getElem?_eq_getElem (by omega)]; rfl
              have HIN : Hid (∀ k, i - T ≤ k → k < i → l.getD k 0 = 92) := Lib.hid (fun k h0 h1 => by
                have := tb_in (l.take i) k (by rw [hpl, ← hT]; exact h0) (by omega)
                rw [hg k h1] at this; exact Option.some.inj this)
              have HOUT : Hid (T < i → l.getD (i - T - 1) 0 ≠ 92) := Lib.hid (fun h0 e => by
                have := tb_out (l.take i) (by rw [hpl, ← hT]; exact h0)
                rw [hpl, ← hT, hg _ (by omega), e] at this; exact this rfl)
              have HEV : Hid (T % 2 = 0 → se l = ((i : Int) + 1, true)) := Lib.hid (fun h0 => HS.out.found HD.out (by rw [par_tb, ← hT, h0]; rfl))
              have HOD : Hid (T % 2 = 1 → S2 l (i + 1) true) := Lib.hid (fun h0 => by
                have := HS.out.more HD.out (fun z => by have z2 := z.2; rw [par_tb, ← hT, h0] at z2; cases z2)
                rwa [show (true || ((34 : Int) == 92)) = true by rfl] at this)
              have hwm : IntKind.i64.wrap ((i : Int) - 1) = (i : Int) - 1 := IntWalk.i64_in _ (by omega)
              clear hT hpl hg
              go_wp2
              go_loop [19] (fun v19 => Hid (∃ (k : Nat), v19 = .int .i64 ((i : Int) - 1 - 2 * k) ∧ 2 * k ≤ T)) (fun v19 => (intOf v19 + 1).toNat)
              case atStart => exact Lib.hid ⟨0, by congr 1; omega, by omega⟩
              case round =>
                obtain ⟨k, rfl, hk⟩ := hrel.out
                clear hrel
                rcases Nat.lt_or_ge (2 * k) T with hkT | hkT
                · obtain ⟨j0, hj0⟩ : ∃ j0 : Nat, j0 + 1 + 2 * k = i := ⟨i - 1 - 2 * k, by omega⟩
                  have ej : (i : Int) - 1 - 2 * (k : Int) = (j0 : Int) := by omega
                  rw [ej]
                  have hjl : j0 < l.length := by omega
                  have c0 := in_at HIc.out hjl
                  rw [HIN.out j0 (by omega) (by omega)] at c0
                  have d1 : decide ((j0 : Int) < 0) = false := decide_eq_false (by omega)
                  rcases Nat.lt_or_ge (2 * k + 1) T with hkU | hkU
                  · obtain ⟨j1, hj1⟩ : ∃ j1 : Nat, j0 = j1 + 1 := ⟨j0 - 1, by omega⟩
                    have hjm : j1 < l.length := by omega
                    have c1 := in_at HIc.out hjm
                    rw [HIN.out j1 (by omega) (by omega)] at c1
                    have d2 : decide ((j1 : Int) < 0) = false := decide_eq_false (by omega)
                    have hw1 : IntKind.i64.wrap ((j0 : Int) - 1) = (j1 : Int) := by rw [IntWalk.i64_in _ (by omega)]; omega
                    have hw2 : IntKind.i64.wrap ((j1 : Int) - 1) = (j1 : Int) - 1 := IntWalk.i64_in _ (by omega)
                    have HJ := Lib.hid hj0
                    have HJ1 := Lib.hid hj1
                    clear ej hj0 hj1 HOUT HEV HOD
                    go_wp2
                    go_round
                    case rel => exact Lib.hid ⟨k + 1, by congr 1; have := HJ.out; have := HJ1.out; omega, by omega⟩
                    case measure => have := HJ.out; have := HJ1.out; simp [intOf]; omega
                  · have hTk : T = 2 * k + 1 := by omega
                    have HM := Lib.hid (HOD.out (by omega))
                    rcases Nat.eq_zero_or_pos j0 with hz | hz
                    · have hw1 : IntKind.i64.wrap ((j0 : Int) - 1) = -1 := by rw [hz]; decide
                      clear ej hj0 hz HOUT HEV HOD HIN hkT hkU hk hTk
                      go_wp2
                      go_round
                      case rel => exact Lib.hid ⟨i + 1, true, by go_num, rfl, HM.out⟩
                      case measure => simp [intOf]; omega
                    · obtain ⟨j1, hj1⟩ : ∃ j1 : Nat, j0 = j1 + 1 := ⟨j0 - 1, by omega⟩
                      have hjm : j1 < l.length := by omega
                      have c1 := in_at HIc.out hjm
                      have hne := HOUT.out (by omega)
                      rw [show i - T - 1 = j1 by omega] at hne
                      obtain ⟨q, hq⟩ : ∃ q, q = l.getD j1 0 := ⟨_, rfl⟩
                      rw [← hq] at c1 hne
                      have q1 : (q == 92) = false := beq_eq_false_iff_ne.mpr hne
                      have q2 := ne_of q1
                      have d2 : decide ((j1 : Int) < 0) = false := decide_eq_false (by omega)
                      have hw1 : IntKind.i64.wrap ((j0 : Int) - 1) = (j1 : Int) := by rw [IntWalk.i64_in _ (by omega)]; omega
                      clear ej hj0 hj1 HOUT HEV HOD HIN hkT hkU hk hTk hq hne hz
                      go_wp2
                      go_round
                      case rel => exact Lib.hid ⟨i + 1, true, by go_num, rfl, HM.out⟩
                      case measure => simp [intOf]; omega
                · have hTk : T = 2 * k := by omega
                  have HF := Lib.hid (HEV.out (by omega))
                  rcases Nat.lt_or_ge T i with hTi | hTi
                  · obtain ⟨j0, hj0⟩ : ∃ j0 : Nat, j0 + 1 + 2 * k = i := ⟨i - 1 - 2 * k, by omega⟩
                    have ej : (i : Int) - 1 - 2 * (k : Int) = (j0 : Int) := by omega
                    rw [ej]
                    have hjl : j0 < l.length := by omega
                    have c0 := in_at HIc.out hjl
                    have hne := HOUT.out hTi
                    rw [show i - T - 1 = j0 by omega] at hne
                    obtain ⟨q, hq⟩ : ∃ q, q = l.getD j0 0 := ⟨_, rfl⟩
                    rw [← hq] at c0 hne
                    have q1 : (q == 92) = false := beq_eq_false_iff_ne.mpr hne
                    have q2 := ne_of q1
                    have d1 : decide ((j0 : Int) < 0) = false := decide_eq_false (by omega)
                    clear ej hj0 HOUT HEV HOD HIN hkT hk hTk hq hne
                    go_wp2
                    go_ret2
                    exact ⟨by rw [HF.out]; rfl, HB.out⟩
                  · have ej : (i : Int) - 1 - 2 * (k : Int) = -1 := by omega
                    rw [ej]
                    clear ej HOUT HEV HOD HIN hkT hk hTk
                    go_wp2
                    go_ret2
                    exact ⟨by rw [HF.out]; rfl, HB.out⟩
          · have x34 : (d == 34) = false := beq_eq_false_iff_ne.mpr h34
            have HM := Lib.hid (HS.out.more HD.out (fun z => h34 z.1))
            by_cases h9 : d = 92
            · subst h9
              rw [show (e || ((92 : Int) == 92)) = true by simp] at HM
              clear h34 h92
              go_wp2
              go_round
              case rel => exact Lib.hid ⟨i + 1, true, by go_num, rfl, HM.out⟩
              case measure => simp [intOf]; omega
            · have hx : (d == 92) = false := beq_eq_false_iff_ne.mpr h9
              rw [hx, Bool.or_false] at HM
              clear h34 h92 h9
              go_wp2
              go_round
              case rel => exact Lib.hid ⟨i + 1, e, by go_num, rfl, HM.out⟩
              case measure => simp [intOf]; omega
      · have hdd : decide ((i : Int) < (l.length : Int)) = false := decide_eq_false (by omega)
        have hd2 : decide (i < l.length) = false := decide_eq_false (by omega)
        have HF := Lib.hid (HS.out.none_ hge)
        clear hge
        go_wp2
        go_ret2
        exact ⟨by rw [HF.out]; rfl, HB.out⟩
end Go.Proofs.YthehnffmbdlopaaDoor.Jp
