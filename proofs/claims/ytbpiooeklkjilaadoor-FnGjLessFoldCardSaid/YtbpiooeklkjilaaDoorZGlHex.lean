/- The walk of ParseUint at base 16, at four digits. -/
import Derived.Test.YtbpiooeklkjilaaDoorZGlRow
import Derived.Test.YtbpiooeklkjilaaDoorZFuPure
import Derived.KernelRfl
import Derived.OwnWalk
set_option linter.unusedVariables false
set_option linter.unusedSimpArgs false
namespace Go.Proofs.YtbpiooeklkjilaaDoor.J
open Go.RowKit Go.Proofs.YtbpiooeklkjilaaDoorW.PrintWords Go.Proofs.YtbpiooeklkjilaaDoorW.PrintLast Go.Proofs.YtbpiooeklkjilaaDoorW.PrintMore Go.Proofs.YtbpiooeklkjilaaDoor.Aid

/-- The small letter of a byte, as strconv has it. -/
def lo (c : Int) : Int := bits .or .u8 c 32
def hexTest (n : Nat) : Bool :=
  let c : Int := n
  if dig c = true then hex c && (hv c == c - 48) else if 97 ≤ lo c ∧ lo c ≤ 122 then (if lo c ≤ 102 then hex c && (hv c == lo c - 87) else !(hex c)) else !(hex c)
theorem hexAll : ((List.range 256).all hexTest) = true := by kernel_rfl
theorem loAll : ((List.range 256).all fun n => decide (0 ≤ lo (n : Int) ∧ lo (n : Int) ≤ 255)) = true := by kernel_rfl
theorem hex_test (c : Int) (h0 : 0 ≤ c) (h1 : c ≤ 255) : hexTest c.toNat = true := List.all_eq_true.1 hexAll _ (List.mem_range.2 (by omega))
theorem lo_range (c : Int) (h0 : 0 ≤ c) (h1 : c ≤ 255) : 0 ≤ lo c ∧ lo c ≤ 255 := by
  have := List.all_eq_true.1 loAll c.toNat (List.mem_range.2 (by omega))
  rw [Int.toNat_of_nonneg h0] at this
  exact of_decide_eq_true this
/-- The three ways of a byte. -/
theorem hex_ways (c : Int) (h0 : 0 ≤ c) (h1 : c ≤ 255) :
    (48 ≤ c ∧ c ≤ 57 ∧ hex c = true ∧ hv c = c - 48) ∨ (¬ (48 ≤ c ∧ c ≤ 57) ∧ 97 ≤ lo c ∧ lo c ≤ 102 ∧ hex c = true ∧ hv c = lo c - 87) ∨
    (¬ (48 ≤ c ∧ c ≤ 57) ∧ 97 ≤ lo c ∧ 103 ≤ lo c ∧ lo c ≤ 122 ∧ hex c = false) ∨ (¬ (48 ≤ c ∧ c ≤ 57) ∧ ¬ (97 ≤ lo c ∧ lo c ≤ 122) ∧ hex c = false) := by
  have h := hex_test c h0 h1
  unfold hexTest at h
  simp only [Int.toNat_of_nonneg h0] at h
  have hd : dig c = true ↔ 48 ≤ c ∧ c ≤ 57 := by unfold dig; simp
  split at h
  · rename_i g
    rw [Bool.and_eq_true, beq_iff_eq] at h
    exact .inl ⟨(hd.1 g).1, (hd.1 g).2, h.1, h.2⟩
  · rename_i g
    have g' : ¬ (48 ≤ c ∧ c ≤ 57) := fun k => g (hd.2 k)
    split at h
    · rename_i k
      split at h
      · rename_i k2
        rw [Bool.and_eq_true, beq_iff_eq] at h
        exact .inr (.inl ⟨g', k.1, k2, h.1, h.2⟩)
      · rename_i k2
        exact .inr (.inr (.inl ⟨g', k.1, by omega, k.2, by simpa using h⟩))
    · rename_i k
      exact .inr (.inr (.inr ⟨g', k, by simpa using h⟩))
/-- The number that the first i bytes spell. -/
def hnum (l : L) : Nat → Int
  | 0 => 0
  | i + 1 => hnum l i * 16 + hv (l.getD i 0)
theorem hnum_range (l : L) (i : Nat) (h : ∀ j, j < i → hex (l.getD j 0) = true) (hi : i ≤ 4) : 0 ≤ hnum l i ∧ hnum l i < 16 ^ i := by
  induction i with
  | zero => simp [hnum]
  | succ i ih =>
    have h1 := ih (fun j hj => h j (by omega)) (by omega)
    have h2 := hv_range (h i (by omega))
    have e : (16 : Int) ^ (i + 1) = 16 ^ i * 16 := by rw [Int.pow_succ]
    rw [e]
    show 0 ≤ hnum l i * 16 + hv (l.getD i 0) ∧ hnum l i * 16 + hv (l.getD i 0) < 16 ^ i * 16
    generalize (16 : Int) ^ i = p at *
    omega
/-- Four digits. -/
def four (l : L) : Option Int := if hex (l.getD 0 0) = true ∧ hex (l.getD 1 0) = true ∧ hex (l.getD 2 0) = true ∧ hex (l.getD 3 0) = true then some (hnum l 4) else none
theorem four_some {l : L} (h : ∀ j, j < 4 → hex (l.getD j 0) = true) : four l = some (hnum l 4) := by
  unfold four; rw [if_pos ⟨h 0 (by omega), h 1 (by omega), h 2 (by omega), h 3 (by omega)⟩]
theorem four_none {l : L} {i : Nat} (hi : i < 4) (h : hex (l.getD i 0) = false) : four l = none := by
  unfold four
  rw [if_neg]
  rintro ⟨h0, h1, h2, h3⟩
  rcases (show i = 0 ∨ i = 1 ∨ i = 2 ∨ i = 3 by omega) with rfl | rfl | rfl | rfl
  · rw [h] at h0; cases h0
  · rw [h] at h1; cases h1
  · rw [h] at h2; cases h2
  · rw [h] at h3; cases h3
def eSyn : Value := .iface 56 (.int .i64 2)
def pRes (l : L) : Value := match four l with | some n => .tuple #[.int .u64 n, .nilIface] | none => .tuple #[.int .u64 0, eSyn]

set_option maxHeartbeats 4000000 in
set_option maxRecDepth 100000 in
theorem parse16 (s : ByteArray) (hs : s.size = 4) (w : World) :
    Calls Tryd.prog 40 #[.string s, .int .i64 16, .int .i64 64] w fun e w' => e = .returned (pRes (bytesOf s)) ∧ Below w.heap.size w w' := by
  have hne : (s.toList == []) = false := by
    rw [beq_eq_false_iff_ne]
    intro e
    rw [ByteArray.toList_eq] at e
    have h3 : s.data.toList.length = 0 := by rw [e]; rfl
    rw [Array.length_toList] at h3
    have h2 : s.data.size = s.size := rfl
    omega
  have hs0 : (s.size == 0) = false := beq_eq_false_iff_ne.mpr (by omega)
  have kb := print_bytes (P := Tryd.prog) 9 35 5 Tryd.underlying9 Tryd.underlying35 Tryd.underlying5 s w
  obtain ⟨gc, hgc⟩ : ∃ gc, gc = grownCap w s.size 0 5 := ⟨_, rfl⟩
  obtain ⟨w1, hw1⟩ : ∃ w1, w1 = Lib.bytesWorld w 5 s := ⟨_, rfl⟩
  have hlen := bytesOf_length s
  have hI : In w1 w.heap.size 0 (bytesOf s) := by rw [hw1]; exact bytes_in w s
  have HB := Lib.hid (show Below w.heap.size w w1 by rw [hw1]; exact bytes_below (Below.refl _ _) (Nat.le_refl _) _ _)
  rw [← hw1, ← hgc] at kb
  obtain ⟨l, hl⟩ : ∃ l, l = bytesOf s := ⟨_, rfl⟩
  have hbyt : ∀ j, j < 4 → 0 ≤ l.getD j 0 ∧ l.getD j 0 ≤ 255 := fun j hj => by
    have := bytesOf_range s (l.getD j 0) (by rw [← hl, List.getD_eq_getElem?_getD, List.getElem?_eq_getElem (by rw [hl, hlen]; omega)]; exact List.getElem_mem _)
    omega
  rw [← hl] at hI ⊢
  have hll : l.length = 4 := by rw [hl, hlen, hs]
  have HI := Lib.hid hI
  clear hI hl hlen hw1 hgc
  have hmx : IntKind.u64.wrap (IntKind.u64.wrap 18446744073709551616 - 1) = 18446744073709551615 := by kernel_rfl
  go_enter Tryd.func40, Tryd.ntmps40
  go_wp2
  go_loopg [12, 13, 101] 4 (fun kq v12 v13 v101 w' => Hid (∃ i : Nat, v12 = .bool false ∧ v13 = .int .u64 (hnum l i) ∧ v101 = .int .i64 ((i : Nat) : Int) ∧ i + kq = 4 ∧ (∀ j, j < i → hex (l.getD j 0) = true) ∧ w' = w1))
  case atStart => exact Lib.hid ⟨0, rfl, rfl, rfl, rfl, fun j hj => by omega, rfl⟩
  case round =>
    obtain ⟨i, rfl, rfl, rfl, hik, hh, rfl⟩ := hrel.out
    clear hrel
    rcases Nat.lt_or_ge i 4 with hlt | hge
    · obtain ⟨c, hc⟩ : ∃ c, c = l.getD i 0 := ⟨_, rfl⟩
      have hb := hbyt i hlt
      have hx0 := HI.out i (by omega)
      rw [Nat.zero_add, ← hc] at hx0
      rw [← hc] at hb
      have hn := hnum_range l i hh (by omega)
      have hp : (16 : Int) ^ i ≤ 4096 := by
        rcases (show i = 0 ∨ i = 1 ∨ i = 2 ∨ i = 3 by omega) with rfl | rfl | rfl | rfl <;> decide
      obtain ⟨v, hv'⟩ : ∃ v, v = hnum l i := ⟨_, rfl⟩
      rw [← hv'] at hn ⊢
      have hn0 : 0 ≤ v := hn.1
      have hn1 : v < 4096 := by omega
      have HL : Hid (∀ W, Calls Tryd.prog 55 #[.int .u8 c] W fun e w' => e = .returned (.int .u8 (lo c)) ∧ w' = W) := Lib.hid (fun W => Tryd.internal_strconv_lower c W)
      have hlr := lo_range c hb.1 hb.2
      have bad : Hid (hex c = false → pRes l = .tuple #[.int .u64 0, eSyn]) := Lib.hid (fun h => by unfold pRes; rw [four_none hlt (by rw [← hc]; exact h)])
      have good : Hid (hex c = true → ∀ x : Int, hv c = x → hnum l (i + 1) = v * 16 + x ∧ (∀ j, j < i + 1 → hex (l.getD j 0) = true)) := Lib.hid (fun h x hx => by
        refine ⟨?_, fun j hj => ?_⟩
        · show hnum l i * 16 + hv (l.getD i 0) = _
          rw [← hc, hx, hv']
        · by_cases e : j = i
          · rw [e, ← hc]; exact h
          · exact hh j (by omega))
      have hways := hex_ways c hb.1 hb.2
      have h95 : c = 95 → lo c = 127 := fun h => by rw [h]; kernel_rfl
      obtain ⟨lc, hlc⟩ : ∃ lc, lc = lo c := ⟨_, rfl⟩
      rw [← hlc] at h95
      rw [← hlc] at HL hlr hways
      clear hlc
      clear hn hp hh hbyt hv' hc
      have p0 : (0 ≤ (i : Int)) = True := eq_true (by omega)
      have q0 : ((i : Int) < (s.size : Int)) = True := eq_true (by omega)
      rcases hways with ⟨a1, a2, a3, a4⟩ | ⟨a0, a1, a2, a3, a4⟩ | ⟨a0, a1, a2, a3, a4⟩ | ⟨a0, a1, a2⟩
      · clear h95
        obtain ⟨g1, g2⟩ := good.out a3 (c - 48) a4
        have G := Lib.hid g2
        clear g2 a3 a4 good bad hll
        go_wp2_with (go_at_call 55; refine (HL.out _).mono ?_; rintro e wl ⟨rfl, rfl⟩)
        go_roundg (4 - (i + 1))
        case rel => exact Lib.hid ⟨i + 1, rfl, by rw [g1], rfl, by omega, G.out, rfl⟩
        case measure => omega
      · have k95 : (c == 95) = false := beq_eq_false_iff_ne.mpr (fun h => by have := h95 h; omega)
        clear h95
        obtain ⟨g1, g2⟩ := good.out a3 (lc - 87) a4
        have G := Lib.hid g2
        have d1 : decide (48 ≤ c) = false ∨ decide (c ≤ 57) = false := by
          rcases Int.lt_or_le c 48 with h | h
          · exact .inl (decide_eq_false (by omega))
          · exact .inr (decide_eq_false (by omega))
        clear g2 a3 a4 good bad hll
        rcases d1 with d1 | d1
        all_goals
          go_wp2_with (go_at_call 55; refine (HL.out _).mono ?_; rintro e wl ⟨rfl, rfl⟩)
        all_goals
          go_roundg (4 - (i + 1))
          case rel => exact Lib.hid ⟨i + 1, rfl, by rw [g1]; congr 1; omega, rfl, by omega, G.out, rfl⟩
          case measure => omega
      · have k95 : (c == 95) = false := beq_eq_false_iff_ne.mpr (fun h => by have := h95 h; omega)
        clear h95
        have e := Lib.hid (bad.out a4)
        have d1 : decide (48 ≤ c) = false ∨ decide (c ≤ 57) = false := by
          rcases Int.lt_or_le c 48 with h | h
          · exact .inl (decide_eq_false (by omega))
          · exact .inr (decide_eq_false (by omega))
        clear a4 good bad hll
        rcases d1 with d1 | d1
        all_goals
          go_wp2_with (go_at_call 55; refine (HL.out _).mono ?_; rintro e wl ⟨rfl, rfl⟩)
        all_goals
          go_ret2
          exact ⟨by rw [e.out]; rfl, HB.out⟩
      · have e := Lib.hid (bad.out a2)
        have d1 : decide (48 ≤ c) = false ∨ decide (c ≤ 57) = false := by
          rcases Int.lt_or_le c 48 with h | h
          · exact .inl (decide_eq_false (by omega))
          · exact .inr (decide_eq_false (by omega))
        have d2 : decide (97 ≤ lc) = false ∨ decide (lc ≤ 122) = false := by
          rcases Int.lt_or_le lc 97 with h | h
          · exact .inl (decide_eq_false (by omega))
          · exact .inr (decide_eq_false (by omega))
        clear a2 a1 a0 good bad hll h95
        have k95 : (c == 95) = false ∨ c = 95 := by
          by_cases e : c = 95
          · exact .inr e
          · exact .inl (beq_eq_false_iff_ne.mpr e)
        rcases k95 with k95 | rfl
        all_goals rcases d1 with d1 | d1
        all_goals rcases d2 with d2 | d2
        all_goals
          go_wp2_with (go_at_call 55; refine (HL.out _).mono ?_; rintro e wl ⟨rfl, rfl⟩)
        all_goals
          go_ret2
          exact ⟨by rw [e.out]; rfl, HB.out⟩
    · obtain rfl : i = 4 := by omega
      have e : Hid (pRes l = .tuple #[.int .u64 (hnum l 4), .nilIface]) := Lib.hid (by unfold pRes; rw [four_some hh])
      clear hh hbyt hll
      obtain ⟨v, hv'⟩ : ∃ v, v = hnum l 4 := ⟨_, rfl⟩
      rw [← hv'] at e ⊢
      go_wp2
      go_ret2
      exact ⟨by rw [e.out]; rfl, HB.out⟩
end Go.Proofs.YtbpiooeklkjilaaDoor.J
