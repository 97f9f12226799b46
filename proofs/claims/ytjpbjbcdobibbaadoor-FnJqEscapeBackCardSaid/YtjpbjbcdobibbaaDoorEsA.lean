/- The walks of Escape, ParseString. -/
import Derived.Test.YtjpbjbcdobibbaaDoorOutT
import Derived.Test.YtjpbjbcdobibbaaDoorEsPure
import Derived.Test.YtjpbjbcdobibbaaDoorUnE
import Derived.Deep.RegionHeld3
set_option linter.unusedVariables false
set_option linter.unusedSimpArgs false
namespace Go.Proofs.YtjpbjbcdobibbaaDoor.J
open Go.RowKit Go.Proofs.YtjpbjbcdobibbaaDoorW.PrintWords Go.Proofs.YtjpbjbcdobibbaaDoorW.PrintLast Go.Proofs.YtjpbjbcdobibbaaDoorW.PrintMore Go.Proofs.YtjpbjbcdobibbaaDoor.Aid

/-- At a byte: out, start, i; E is what was ahead of start, written. -/
def EsI (w W : World) (s : ByteArray) (kq : Nat) (v4 v5 v6 : Value) : Prop :=
  ∃ (st i : Nat) (E : L), v5 = .int .i64 ((st : Nat) : Int) ∧ v6 = .int .i64 ((i : Nat) : Int) ∧ st ≤ i ∧ i + kq = s.size ∧ OutT w W v4 (34 :: E) ∧ E ++ ((bytesOf s).drop st).take (i - st) = eos ((bytesOf s).take i) ∧ E.length ≤ 6 * st
theorem EsI.mk {w W : World} {s : ByteArray} {v : Value} {i : Nat} {E : L} (hi : i ≤ s.size) (hO : OutT w W v (34 :: E)) (he : E = eos ((bytesOf s).take i)) : EsI w W s (s.size - i) v (.int .i64 ((i : Nat) : Int)) (.int .i64 ((i : Nat) : Int)) :=
  ⟨i, i, E, rfl, rfl, Nat.le_refl _, by omega, hO, by rw [Nat.sub_self, he]; simp, by
    rw [he]
    have := (eos_len ((bytesOf s).take i)).2
    rw [List.length_take, bytesOf_length] at this
    omega⟩
def EsPost (w : World) (s : ByteArray) (e : Ending) (w' : World) : Prop := ∃ v, e = .returned v ∧ OutT w w' v (34 :: (eos (bytesOf s) ++ [34]))
theorem take_snoc' (s : ByteArray) (i : Nat) (h : i < s.size) : (bytesOf s).take (i + 1) = (bytesOf s).take i ++ [((s[i]'h).toNat : Int)] := by
  have hl : i < (bytesOf s).length := by rw [bytesOf_length]; exact h
  rw [List.take_succ_eq_append_getElem hl]
  congr 2
  have h1 := bt_at s (i : Int) (by rw [Int.toNat_natCast]; exact h)
  have h2 := bytesOf_get? s i h
  rw [List.getElem?_eq_getElem hl] at h2
  rw [Option.some.inj h2, ← h1]; rfl
theorem eos_snoc (l : L) (c : Int) : eos (l ++ [c]) = eos l ++ eo c := by simp [eos]
theorem drop_take_snoc (s : ByteArray) (st i : Nat) (hst : st ≤ i) (h : i < s.size) : ((bytesOf s).drop st).take (i + 1 - st) = ((bytesOf s).drop st).take (i - st) ++ [((s[i]'h).toNat : Int)] := by
  have := take_snoc' s i h
  have e1 : ((bytesOf s).drop st).take (i + 1 - st) = ((bytesOf s).take (i + 1)).drop st := by rw [List.drop_take]
  have e2 : ((bytesOf s).drop st).take (i - st) = ((bytesOf s).take i).drop st := by rw [List.drop_take]
  rw [e1, e2, this, List.drop_append_of_le_length (by rw [List.length_take, bytesOf_length]; omega)]
theorem slice_strI2 (s : ByteArray) (b e : Nat) (h1 : b ≤ e) (h2 : e ≤ s.size) (W : World) :
    (Instr.slice 9 (.string s) (some (.int .i64 (b : Int))) (some (.int .i64 (e : Int))) none).run Tryd.prog W = .ok (.string (s.extract b e)) W := by
  have := slice_strI s (b : Int) (e : Int) (by omega) (by omega) (by omega) W
  rwa [Int.toNat_natCast, Int.toNat_natCast] at this
theorem slice_from (s : ByteArray) (b : Nat) (h1 : b ≤ s.size) (W : World) :
    (Instr.slice 9 (.string s) (some (.int .i64 (b : Int))) none none).run Tryd.prog W = .ok (.string (s.extract b s.size)) W := by
  go_simp

set_option maxRecDepth 100000 in
theorem hexIdx (d : Int) (h0 : 0 ≤ d) (h1 : d ≤ 15) (W : World) : (Instr.index 9 (.string { data := #[48, 49, 50, 51, 52, 53, 54, 55, 56, 57, 97, 98, 99, 100, 101, 102] }) (.int .u8 d)).run Tryd.prog W = .ok (.int .u8 (hx1 d)) W := by
  have : d = 0 ∨ d = 1 ∨ d = 2 ∨ d = 3 ∨ d = 4 ∨ d = 5 ∨ d = 6 ∨ d = 7 ∨ d = 8 ∨ d = 9 ∨ d = 10 ∨ d = 11 ∨ d = 12 ∨ d = 13 ∨ d = 14 ∨ d = 15 := by omega
  rcases this with rfl | rfl | rfl | rfl | rfl | rfl | rfl | rfl | rfl | rfl | rfl | rfl | rfl | rfl | rfl | rfl <;> rfl

set_option maxHeartbeats 8000000 in
set_option maxRecDepth 100000 in
theorem Escape_any (s : ByteArray) (w : World) (hs : s.size ≤ 16384) :
    Calls Tryd.prog 32 #[.string s] w (EsPost w s) := by
  go_enter Tryd.func32, Tryd.ntmps32
  go_wp2_with fail
  go_loopg [4, 5, 6] s.size (fun kq v4 v5 v6 w' => Hid (EsI w w' s kq v4 v5 v6))
  case atStart =>
    have h1 := heap_alloc_new w (.cells ((Value.int .u8 34) :: List.replicate 63 (Value.int .u8 0)).toArray 84)
    refine Lib.hid ⟨0, 0, [], rfl, rfl, Nat.le_refl _, by omega, ⟨((Below.refl _ _).alloc (Nat.le_refl _) _).alloc (by simp) _, w.heap.size, 64, (Value.int .u8 34) :: List.replicate 63 (Value.int .u8 0), rfl, Nat.le_refl _, ⟨84, blk_alloc h1 _⟩, by simp, by simp, by omega, rfl⟩, by simp [eos], by simp⟩
  case round =>
    obtain ⟨st, i, E, rfl, rfl, hst, hik, hO, he, hEl⟩ := hrel.out
    clear hrel
    have HO := Lib.hid hO
    have HE := Lib.hid he
    have HK := Lib.hid hik
    clear hO he
    rcases Nat.lt_or_ge i s.size with hlt | hge
    · obtain ⟨c, hc⟩ : ∃ c : Int, c = ((s[i]'hlt).toNat : Int) := ⟨_, rfl⟩
      have hcr : 0 ≤ c ∧ c ≤ 255 := by have := (s[i]'hlt).toNat_lt; omega
      have hce : (bytesOf (s.extract st i)).length = i - st := by rw [bytesOf_extract, List.length_take, List.length_drop, bytesOf_length]; omega
      by_cases hp : 32 ≤ c ∧ c ≠ 34 ∧ c ≠ 92
      · obtain ⟨p1, p2, p3⟩ := hp
        have b1 : decide (((s[i]'hlt).toNat : Int) ≥ 32) = true := decide_eq_true (by omega)
        have b2 : (((s[i]'hlt).toNat : Int) != 34) = true := bne_iff_ne.mpr (by omega)
        have b3 : (((s[i]'hlt).toNat : Int) != 92) = true := bne_iff_ne.mpr (by omega)
        have heo : eo c = [c] := by unfold eo; rw [if_neg (by omega), if_neg (by omega), if_neg (by omega), if_neg (by omega), if_neg (by omega), if_neg (by omega), if_neg (by omega)]
        have fin : Hid (EsI w wr s (s.size - (i + 1)) _ (.int .i64 ((st : Nat) : Int)) (.int .i64 ((i + 1 : Nat) : Int))) := Lib.hid ⟨st, i + 1, E, rfl, rfl, by omega, by omega, HO.out, by rw [drop_take_snoc s st i hst hlt, ← List.append_assoc, HE.out, take_snoc' s i hlt, eos_snoc, ← hc, heo], hEl⟩
        clear hc hcr p1 p2 p3 heo hik hce
        go_wp2
        go_roundg (s.size - (i + 1))
        case rel => exact fin
        case measure => have := HK.out; omega
      · have hcr2 : c < 32 ∨ c = 34 ∨ c = 92 := by omega
        have finc : ∀ (lit : L), eo c = lit → Hid (∀ v1 w1, OutT w w1 v1 (((34 :: E) ++ bytesOf (s.extract st i)) ++ lit) → EsI w w1 s (s.size - (i + 1)) v1 (.int .i64 ((i + 1 : Nat) : Int)) (.int .i64 ((i + 1 : Nat) : Int))) := fun lit e => Lib.hid (fun v1 w1 ho =>
          EsI.mk (E := E ++ bytesOf (s.extract st i) ++ lit) (by omega) (by simpa using ho) (by rw [bytesOf_extract, HE.out, take_snoc' s i hlt, eos_snoc, ← hc, e]))
        have ksl := slice_strI2 s st i hst (by omega)
        have hes : (s.extract st i).size ≤ 16384 := by rw [← bytesOf_length, hce]; omega
        have hl1 : (34 :: E).length + (s.extract st i).size ≤ 4294967296 := by simp only [List.length_cons]; omega
        have hl2 : ((34 :: E) ++ bytesOf (s.extract st i)).length + 6 ≤ 4294967296 := by simp only [List.length_append, List.length_cons, bytesOf_length]; omega
        by_cases h34 : c = 34
        · have hx : ((s[i]'hlt).toNat : Int) = 34 := by omega
          have fin := finc [92, 34] (by rw [h34]; rfl)
          clear hc hcr hik hce hcr2 finc hp h34
          go_wp2_with (first | (at_builtin; refine outT_str rfl (.tmp 31) (.tmp 35) rfl _ (s.extract st i) (34 :: E) rfl (by simp [go_sem]) HO.out hl1 ?_; intro v1 w1 ho; replace ho := Lib.hid ho) | (at_builtin; refine outT_row rfl (.tmp 50) (.tmp 52) rfl _ [92, 34] _ 2 2 rfl (by simp [go_sem]) rfl ho.out (Nat.le_trans (Nat.add_le_add_left (by decide) _) hl2) ?_; intro v2 w2 ho2; replace ho2 := Lib.hid ho2))
          go_roundg (s.size - (i + 1))
          case rel => exact Lib.hid (fin.out _ _ ho2.out)
          case measure => have := HK.out; omega
        by_cases h92 : c = 92
        · have hx : ((s[i]'hlt).toNat : Int) = 92 := by omega
          have fin := finc [92, 92] (by rw [h92]; rfl)
          clear hc hcr hik hce hcr2 finc hp h34 h92
          go_wp2_with (first | (at_builtin; refine outT_str rfl (.tmp 31) (.tmp 35) rfl _ (s.extract st i) (34 :: E) rfl (by simp [go_sem]) HO.out hl1 ?_; intro v1 w1 ho; replace ho := Lib.hid ho) | (at_builtin; refine outT_row rfl (.tmp 50) (.tmp 52) rfl _ [92, 92] _ 2 2 rfl (by simp [go_sem]) rfl ho.out (Nat.le_trans (Nat.add_le_add_left (by decide) _) hl2) ?_; intro v2 w2 ho2; replace ho2 := Lib.hid ho2))
          go_roundg (s.size - (i + 1))
          case rel => exact Lib.hid (fin.out _ _ ho2.out)
          case measure => have := HK.out; omega
        by_cases h8 : c = 8
        · have hx : ((s[i]'hlt).toNat : Int) = 8 := by omega
          have fin := finc [92, 98] (by rw [h8]; rfl)
          clear hc hcr hik hce hcr2 finc hp h34 h92 h8
          go_wp2_with (first | (at_builtin; refine outT_str rfl (.tmp 31) (.tmp 35) rfl _ (s.extract st i) (34 :: E) rfl (by simp [go_sem]) HO.out hl1 ?_; intro v1 w1 ho; replace ho := Lib.hid ho) | (at_builtin; refine outT_row rfl (.tmp 56) (.tmp 57) rfl _ [92, 98] _ 2 2 rfl (by simp [go_sem]) rfl ho.out (Nat.le_trans (Nat.add_le_add_left (by decide) _) hl2) ?_; intro v2 w2 ho2; replace ho2 := Lib.hid ho2))
          go_roundg (s.size - (i + 1))
          case rel => exact Lib.hid (fin.out _ _ ho2.out)
          case measure => have := HK.out; omega
        by_cases h12 : c = 12
        · have hx : ((s[i]'hlt).toNat : Int) = 12 := by omega
          have fin := finc [92, 102] (by rw [h12]; rfl)
          clear hc hcr hik hce hcr2 finc hp h34 h92 h8 h12
          go_wp2_with (first | (at_builtin; refine outT_str rfl (.tmp 31) (.tmp 35) rfl _ (s.extract st i) (34 :: E) rfl (by simp [go_sem]) HO.out hl1 ?_; intro v1 w1 ho; replace ho := Lib.hid ho) | (at_builtin; refine outT_row rfl (.tmp 61) (.tmp 62) rfl _ [92, 102] _ 2 2 rfl (by simp [go_sem]) rfl ho.out (Nat.le_trans (Nat.add_le_add_left (by decide) _) hl2) ?_; intro v2 w2 ho2; replace ho2 := Lib.hid ho2))
          go_roundg (s.size - (i + 1))
          case rel => exact Lib.hid (fin.out _ _ ho2.out)
          case measure => have := HK.out; omega
        by_cases h10 : c = 10
        · have hx : ((s[i]'hlt).toNat : Int) = 10 := by omega
          have fin := finc [92, 110] (by rw [h10]; rfl)
          clear hc hcr hik hce hcr2 finc hp h34 h92 h8 h12 h10
          go_wp2_with (first | (at_builtin; refine outT_str rfl (.tmp 31) (.tmp 35) rfl _ (s.extract st i) (34 :: E) rfl (by simp [go_sem]) HO.out hl1 ?_; intro v1 w1 ho; replace ho := Lib.hid ho) | (at_builtin; refine outT_row rfl (.tmp 66) (.tmp 67) rfl _ [92, 110] _ 2 2 rfl (by simp [go_sem]) rfl ho.out (Nat.le_trans (Nat.add_le_add_left (by decide) _) hl2) ?_; intro v2 w2 ho2; replace ho2 := Lib.hid ho2))
          go_roundg (s.size - (i + 1))
          case rel => exact Lib.hid (fin.out _ _ ho2.out)
          case measure => have := HK.out; omega
        by_cases h13 : c = 13
        · have hx : ((s[i]'hlt).toNat : Int) = 13 := by omega
          have fin := finc [92, 114] (by rw [h13]; rfl)
          clear hc hcr hik hce hcr2 finc hp h34 h92 h8 h12 h10 h13
          go_wp2_with (first | (at_builtin; refine outT_str rfl (.tmp 31) (.tmp 35) rfl _ (s.extract st i) (34 :: E) rfl (by simp [go_sem]) HO.out hl1 ?_; intro v1 w1 ho; replace ho := Lib.hid ho) | (at_builtin; refine outT_row rfl (.tmp 71) (.tmp 72) rfl _ [92, 114] _ 2 2 rfl (by simp [go_sem]) rfl ho.out (Nat.le_trans (Nat.add_le_add_left (by decide) _) hl2) ?_; intro v2 w2 ho2; replace ho2 := Lib.hid ho2))
          go_roundg (s.size - (i + 1))
          case rel => exact Lib.hid (fin.out _ _ ho2.out)
          case measure => have := HK.out; omega
        by_cases h9 : c = 9
        · have hx : ((s[i]'hlt).toNat : Int) = 9 := by omega
          have fin := finc [92, 116] (by rw [h9]; rfl)
          clear hc hcr hik hce hcr2 finc hp h34 h92 h8 h12 h10 h13 h9
          go_wp2_with (first | (at_builtin; refine outT_str rfl (.tmp 31) (.tmp 35) rfl _ (s.extract st i) (34 :: E) rfl (by simp [go_sem]) HO.out hl1 ?_; intro v1 w1 ho; replace ho := Lib.hid ho) | (at_builtin; refine outT_row rfl (.tmp 76) (.tmp 77) rfl _ [92, 116] _ 2 2 rfl (by simp [go_sem]) rfl ho.out (Nat.le_trans (Nat.add_le_add_left (by decide) _) hl2) ?_; intro v2 w2 ho2; replace ho2 := Lib.hid ho2))
          go_roundg (s.size - (i + 1))
          case rel => exact Lib.hid (fin.out _ _ ho2.out)
          case measure => have := HK.out; omega
        have ha : 0 ≤ c ∧ c ≤ 31 := by omega
        go_wp2_with (first | (at_builtin; refine outT_str rfl (.tmp 31) (.tmp 35) rfl _ (s.extract st i) (34 :: E) rfl (by simp [go_sem]) HO.out hl1 ?_; intro v1 w1 ho; replace ho := Lib.hid ho))
        have kx1 := hexIdx (((s[i]'hlt).toNat : Int) / 16) (by omega) (by omega)
        have kx2 : ∀ W : World, (Instr.index 9 (.string { data := #[48, 49, 50, 51, 52, 53, 54, 55, 56, 57, 97, 98, 99, 100, 101, 102] }) (.int .u8 (bits .and .u8 ((s[i]'hlt).toNat : Int) 15))).run Tryd.prog W = .ok (.int .u8 (hx1 (((s[i]'hlt).toNat : Int) % 16))) W := by
          intro W; rw [u8_and15 _ (by omega) (by omega)]; exact hexIdx _ (by omega) (by omega) W
        have fin := finc [92, 117, 48, 48, hx1 (((s[i]'hlt).toNat : Int) / 16), hx1 (((s[i]'hlt).toNat : Int) % 16)] (by rw [← hc]; unfold eo; rw [if_neg (by omega), if_neg (by omega), if_neg (by omega), if_neg (by omega), if_neg (by omega), if_neg (by omega), if_pos (by omega)])
        go_region_held3 (fun _ => True) (trivial) ((refine step_outT rfl (.tmp 38) (.tmp 45) rfl v1 [92, 117, 48, 48, hx1 (((s[i]'hlt).toNat : Int) / 16), hx1 (((s[i]'hlt).toNat : Int) % 16)] _ 6 6 (by rfl) (by first | rfl | simp [go_sem]) rfl ho.out.drew hl2 ?_; intro v2 w2 ho2))
        all_goals (replace ho2 := Lib.hid ho2)
        all_goals (clear hc hcr hik hce hcr2 finc hp h34 h92 h8 h12 h10 h13 h9 ha kx1 kx2)
        all_goals go_wp2
        all_goals
          go_roundg (s.size - (i + 1))
          case rel => exact Lib.hid (fin.out _ _ ho2.out)
          case measure => have := HK.out; omega
    · obtain rfl : i = s.size := by omega
      have ksf := slice_from s st hst
      have hes : (s.extract st s.size).size ≤ 16384 := by rw [ByteArray.size_extract]; omega
      have hl1 : (34 :: E).length + (s.extract st s.size).size ≤ 4294967296 := by simp only [List.length_cons]; omega
      have hl2 : ((34 :: E) ++ bytesOf (s.extract st s.size)).length + 6 ≤ 4294967296 := by simp only [List.length_append, List.length_cons, bytesOf_length]; omega
      have fin : Hid (((34 :: E) ++ bytesOf (s.extract st s.size)) ++ [34] = 34 :: (eos (bytesOf s) ++ [34])) := Lib.hid (by
        have h1 := HE.out
        have h2 : (bytesOf s).take s.size = bytesOf s := List.take_of_length_le (by rw [bytesOf_length]; exact Nat.le_refl _)
        rw [h2] at h1
        rw [← h1, bytesOf_extract]; simp)
      clear hik hes
      go_wp2_with (first | (at_builtin; refine outT_str rfl (.tmp 81) (.tmp 84) rfl _ (s.extract st s.size) (34 :: E) rfl (by simp [go_sem]) HO.out hl1 ?_; intro v1 w1 ho; replace ho := Lib.hid ho) | (at_builtin; refine outT_row rfl (.tmp 86) (.tmp 87) rfl _ [34] _ 1 1 rfl (by simp [go_sem]) rfl ho.out (Nat.le_trans (Nat.add_le_add_left (by decide) _) hl2) ?_; intro v2 w2 ho2; rw [fin.out] at ho2; replace ho2 := Lib.hid ho2))
      go_ret
      exact ⟨v2, rfl, ho2.out⟩
end Go.Proofs.YtjpbjbcdobibbaaDoor.J
