/- What the unescaping calls: strconv.ParseUint at four bytes, surrogates, a rune as a string, slices of a string. -/
import Derived.Test.YtkmdcckiehbcmaaDoorFuHex
import Derived.Test.YtkmdcckiehbcmaaDoorFa3
import Derived.Lib.EndianBits
import Derived.Lib.RabinKarpLaws
set_option linter.unusedVariables false
set_option linter.unusedSimpArgs false
namespace Go.Proofs.YtkmdcckiehbcmaaDoor.J
open Go.RowKit Go.Proofs.YtkmdcckiehbcmaaDoorW.PrintWords Go.Proofs.YtkmdcckiehbcmaaDoorW.PrintLast Go.Proofs.YtkmdcckiehbcmaaDoorW.PrintMore Go.Proofs.YtkmdcckiehbcmaaDoor.Aid Go.Proofs.YtkmdcckiehbcmaaDoor.PFnFjUnescapeAll

/-- A character as a string. -/
theorem encode_utf8 {c : Int} (h0 : 0 ≤ c) (h1 : c ≤ 1114111) (h2 : ¬ (55296 ≤ c ∧ c ≤ 57343)) : bytesOf (Utf8.encode c) = utf8 c := by
  have hv : Utf8.valid c = true := by unfold Utf8.valid; simp; omega
  obtain ⟨n, rfl⟩ : ∃ n : Nat, c = n := ⟨c.toNat, by omega⟩
  have hh : ¬ (high (n : Int) = true ∨ low (n : Int) = true) := by unfold high low; simp; omega
  unfold Utf8.encode utf8
  simp only [hv, if_true, Int.toNat_natCast]
  by_cases a1 : n < 128
  · rw [if_pos a1, if_pos (show (n : Int) < 128 by omega)]
    show [((UInt8.ofNat n).toNat : Int)] = _
    simp only [UInt8.toNat_ofNat', List.cons.injEq, and_true]
    omega
  rw [if_neg a1, if_neg (show ¬ (n : Int) < 128 by omega)]
  by_cases a2 : n < 2048
  · rw [if_pos a2, if_pos (show (n : Int) < 2048 by omega)]
    show [((UInt8.ofNat (192 + n / 64)).toNat : Int), ((UInt8.ofNat (128 + n % 64)).toNat : Int)] = _
    simp only [UInt8.toNat_ofNat', List.cons.injEq, and_true]
    omega
  rw [if_neg a2, if_neg (show ¬ (n : Int) < 2048 by omega), if_neg hh]
  by_cases a3 : n < 65536
  · rw [if_pos a3, if_pos (show (n : Int) < 65536 by omega)]
    show [((UInt8.ofNat (224 + n / 4096)).toNat : Int), ((UInt8.ofNat (128 + n / 64 % 64)).toNat : Int), ((UInt8.ofNat (128 + n % 64)).toNat : Int)] = _
    simp only [UInt8.toNat_ofNat', List.cons.injEq, and_true]
    omega
  · rw [if_neg a3, if_neg (show ¬ (n : Int) < 65536 by omega)]
    show [((UInt8.ofNat (240 + n / 262144)).toNat : Int), ((UInt8.ofNat (128 + n / 4096 % 64)).toNat : Int), ((UInt8.ofNat (128 + n / 64 % 64)).toNat : Int), ((UInt8.ofNat (128 + n % 64)).toNat : Int)] = _
    simp only [UInt8.toNat_ofNat', List.cons.injEq, and_true]
    omega
theorem encode_fffd : bytesOf (Utf8.encode 65533) = [239, 191, 189] := by
  rw [encode_utf8 (by omega) (by omega) (by omega)]; rfl
/-- Two halves. -/
def dec (n m : Int) : Int := if high n = true ∧ low m = true then comb n m else 65533
theorem or32 (x y : Int) (hx : 0 ≤ x) (hx1 : x < 1024) (hy : 0 ≤ y) (hy1 : y < 1024) : bits .or .i32 (x * 1024) y = x * 1024 + y :=
  bits_join .i32 31 (by decide) (fun n h0 h1 => by rw [i32_w]; unfold wrap32; omega) 10 (x * 1024) y (by omega) (by omega) (by omega) hy (by omega) (by omega)
theorem dec_any (n m : Int) (hn : 0 ≤ n ∧ n ≤ 65535) (hm : 0 ≤ m ∧ m ≤ 65535) (w : World) : Calls Tryd.prog 68 #[.int .i32 n, .int .i32 m] w fun e w' => e = .returned (.int .i32 (dec n m)) ∧ Drawn0 w w' := by
  refine utf16_DecodeRune.calls n m (dec n m) w ?_
  unfold utf16_DecodeRune.f dec high low
  simp only [Bool.and_eq_true, decide_eq_true_eq]
  by_cases c1 : 55296 ≤ n
  · rw [if_pos c1]
    by_cases c2 : n < 56320
    · rw [if_pos c2]
      by_cases c3 : 56320 ≤ m
      · rw [if_pos c3]
        by_cases c4 : m < 57344
        · rw [if_pos c4, if_pos (by omega)]
          have w1 : wrap32 (n - 55296) = n - 55296 := by unfold wrap32; omega
          have w2 : wrap32 ((n - 55296) * 1024) = (n - 55296) * 1024 := by unfold wrap32; omega
          have w3 : wrap32 (m - 56320) = m - 56320 := by unfold wrap32; omega
          rw [w1, w2, w3, or32 _ _ (by omega) (by omega) (by omega) (by omega)]
          unfold comb wrap32
          congr 1; omega
        · rw [if_neg c4, if_neg (by omega)]
      · rw [if_neg c3, if_neg (by omega)]
    · rw [if_neg c2, if_neg (by omega)]
  · rw [if_neg c1, if_neg (by omega)]
def isSur (n : Int) : Bool := high n || low n
theorem sur_any (n : Int) (w : World) : Calls Tryd.prog 67 #[.int .i32 n] w fun e w' => e = .returned (.bool (isSur n)) ∧ Drawn0 w w' := by
  refine utf16_IsSurrogate.calls n (isSur n) w ?_
  unfold utf16_IsSurrogate.f isSur high low
  by_cases c1 : 55296 ≤ n
  · rw [if_pos c1, Option.some.injEq, Bool.eq_iff_iff]; simp; omega
  · rw [if_neg c1, Option.some.injEq, Bool.eq_iff_iff]; simp; omega

/-! ### the number -/
abbrev gS : Nat := 1
def ErrV (w : World) : Prop := ∃ ev, w.cell? ⟨gS, 0, none⟩ = some ev ∧ (ev = .nilIface ∨ ∃ te pe, ev = .iface te pe)
theorem ErrV.below {w w' : World} (h : ErrV w) (k : Below w.heap.size w w') : ErrV w' := by
  obtain ⟨ev, h1, h2⟩ := h
  exact ⟨ev, pw_cell_below k h1, h2⟩
def PuPost (l : L) (w : World) (e : Ending) (w' : World) : Prop := Below w.heap.size w w' ∧ match four l with
  | some n => e = .returned (.tuple #[.int .u64 n, .nilIface])
  | none => ∃ N, e = .returned (.tuple #[.int .u64 0, .iface 122 (.pointer (some ⟨N, 0, none⟩))])
set_option maxHeartbeats 4000000 in
set_option maxRecDepth 100000 in
theorem ParseUint_any (s : ByteArray) (hs : s.size = 4) (w : World) (hE : ErrV w) :
    Calls Tryd.prog 66 #[.string s, .int .i64 16, .int .i64 16] w (PuPost (bytesOf s) w) := by
  have HK := Lib.hid (parse16 s hs w)
  have HE := Lib.hid (show ∀ W fn, Below w.heap.size w W → Calls Tryd.prog 81 #[.string fn, .string s, .int .i64 16, .int .i64 16, eSyn] W fun e w' => (∃ N, e = .returned (.iface 122 (.pointer (some ⟨N, 0, none⟩)))) ∧ Below W.heap.size W w' from fun W fn hb => by
    obtain ⟨ev, h1, h2⟩ := hE.below hb
    refine (Tryd.strconv_toError_syntax fn s 16 16 ev W (by omega) h1 h2).mono ?_
    rintro e w' ⟨N, h3, _, _, h4⟩
    exact ⟨⟨N, h3⟩, h4⟩)
  clear hE
  cases h4 : four (bytesOf s) with
  | some n =>
    have hp : pRes (bytesOf s) = .tuple #[.int .u64 n, .nilIface] := by unfold pRes; rw [h4]
    rw [hp] at HK
    have fin : Hid (∀ W, Below w.heap.size w W → PuPost (bytesOf s) w (.returned (.tuple #[.int .u64 n, .nilIface])) W) := Lib.hid (fun W hb => ⟨hb, by rw [h4]⟩)
    clear h4 hp HE
    go_enter Tryd.func66, Tryd.ntmps66
    go_wp2_with (go_at_call 80; refine HK.out.mono ?_; rintro e w1 ⟨rfl, hb⟩; have HB := Lib.hid hb; clear hb)
    go_ret2
    exact fin.out _ HB.out
  | none =>
    have hp : pRes (bytesOf s) = .tuple #[.int .u64 0, eSyn] := by unfold pRes; rw [h4]
    rw [hp] at HK
    have fin : Hid (∀ W N, Below w.heap.size w W → PuPost (bytesOf s) w (.returned (.tuple #[.int .u64 0, .iface 122 (.pointer (some ⟨N, 0, none⟩))])) W) := Lib.hid (fun W N hb => ⟨hb, by rw [h4]; exact ⟨N, rfl⟩⟩)
    unfold eSyn at HK HE
    clear h4 hp
    go_enter Tryd.func66, Tryd.ntmps66
    go_wp2_with (first
      | (go_at_call 80; refine HK.out.mono ?_; rintro e w1 ⟨rfl, hb⟩; have HB := Lib.hid hb; clear hb)
      | (go_at_call 81; refine (HE.out _ _ HB.out).mono ?_; rintro e w2 ⟨⟨N, rfl⟩, hb⟩; replace HB := Lib.hid (below_step HB.out hb); clear hb))
    go_ret2
    exact fin.out _ N HB.out
theorem four_unit {t : L} (h : 4 ≤ t.length) : unit (92 :: 117 :: t) = four (t.take 4) := by
  match t, h with
  | a :: b :: c :: d :: r, _ =>
    unfold unit four hnum
    simp [hnum]
theorem unit_short4 {t : L} (h : t.length < 4) : unit (92 :: 117 :: t) = none := by
  unfold unit
  rw [if_neg]
  intro g
  have := g.1
  simp at this; omega
/-! ### slices of a string -/
theorem sl_from (s : ByteArray) (b : Nat) (h1 : b ≤ s.size) (W : World) : (Instr.slice 9 (.string s) (some (.int .i64 (b : Int))) none none).run Tryd.prog W = .ok (.string (s.extract b s.size)) W := by
  go_simp
theorem sl_to (s : ByteArray) (k : Nat) (h1 : k ≤ s.size) (W : World) : (Instr.slice 9 (.string s) none (some (.int .i64 (k : Int))) none).run Tryd.prog W = .ok (.string (s.extract 0 k)) W := by
  have h2 : (k : Int) ≤ (s.size : Int) := by omega
  go_simp
theorem sl_mid (s : ByteArray) (j k : Nat) (h0 : j ≤ k) (h1 : k ≤ s.size) (W : World) : (Instr.slice 9 (.string s) (some (.int .i64 (j : Int))) (some (.int .i64 (k : Int))) none).run Tryd.prog W = .ok (.string (s.extract j k)) W := by
  have h2 : (k : Int) ≤ (s.size : Int) := by omega
  have h3 : (j : Int) ≤ (k : Int) := by omega
  go_simp
theorem by_from (s : ByteArray) (k : Nat) : bytesOf (s.extract k s.size) = (bytesOf s).drop k := by
  rw [bytesOf_extract, List.take_of_length_le]
  rw [List.length_drop, bytesOf_length]; exact Nat.le_refl _
/-- The first backslash. -/
theorem index_bs (s : ByteArray) : (∃ p r, bytesOf s = p ++ 92 :: r ∧ 92 ∉ p ∧ Lib.indexByte s.data.toList (92 : Int).toNat.toUInt8 = (p.length : Int)) ∨ (92 ∉ bytesOf s ∧ Lib.indexByte s.data.toList (92 : Int).toNat.toUInt8 = -1) := by
  have key : ∀ (l : List UInt8), (∃ p r, (l.map fun b => (b.toNat : Int)) = p ++ 92 :: r ∧ 92 ∉ p ∧ Lib.indexByte l 92 = (p.length : Int)) ∨ (92 ∉ (l.map fun b => (b.toNat : Int)) ∧ Lib.indexByte l 92 = -1) := by
    intro l
    induction l with
    | nil => exact .inr ⟨by simp, rfl⟩
    | cons b t ih =>
      by_cases hb : b = 92
      · subst hb
        exact .inl ⟨[], t.map fun b => (b.toNat : Int), rfl, by simp, rfl⟩
      · have hn : (b.toNat : Int) ≠ 92 := fun h => hb (by
          have : b.toNat = 92 := by omega
          exact UInt8.toNat_inj.1 this)
        have hb' : (b == 92) = false := beq_eq_false_iff_ne.mpr hb
        rcases ih with ⟨p, r, e1, e2, e3⟩ | ⟨e1, e2⟩
        · refine .inl ⟨(b.toNat : Int) :: p, r, ?_, ?_, ?_⟩
          · rw [List.map_cons, e1]; rfl
          · rw [List.mem_cons, not_or]; exact ⟨fun h => hn h.symm, e2⟩
          · unfold Lib.indexByte
            rw [hb', if_neg (by decide), e3, if_neg (by simp), List.length_cons]; rfl
        · refine .inr ⟨?_, ?_⟩
          · rw [List.map_cons, List.mem_cons, not_or]; exact ⟨fun h => hn h.symm, e1⟩
          · unfold Lib.indexByte
            rw [hb', if_neg (by decide), e2]; rfl
  exact key s.data.toList
end Go.Proofs.YtkmdcckiehbcmaaDoor.J
