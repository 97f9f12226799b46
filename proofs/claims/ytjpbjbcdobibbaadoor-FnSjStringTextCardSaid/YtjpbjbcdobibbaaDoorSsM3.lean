/- Several texts in one. -/
import Derived.Test.YtjpbjbcdobibbaaDoorSsM1
import Derived.Test.YtjpbjbcdobibbaaDoorSsM2
import Derived.Deep.RegionHeld3
import Derived.Test.YtjpbjbcdobibbaaDoorPFnSjStringTextx2
/- The walk of sjson's zzMarshal. -/
set_option linter.unusedVariables false
set_option linter.unusedSimpArgs false
namespace Go.Proofs.YtjpbjbcdobibbaaDoor.J
open Go.RowKit Go.Proofs.YtjpbjbcdobibbaaDoorW.PrintWords Go.Proofs.YtjpbjbcdobibbaaDoorW.PrintLast Go.Proofs.YtjpbjbcdobibbaaDoorW.PrintMore Go.Proofs.YtjpbjbcdobibbaaDoor.Aid

theorem Outp.toT {w0 W : World} {v : Value} {xs : L} (h : Outp w0 W v xs) (hn : 0 < xs.length) : OutT w0 W v xs := by
  obtain ⟨⟨h1, h2⟩, hB⟩ := h
  rcases h2 with ⟨_, h0⟩ | ⟨g, cap, cur, e1, e2, e3, e4, e5, e6, e7⟩
  · omega
  · rw [Nat.mul_one] at e6 e7
    exact ⟨hB, g, cap, cur.toList, e1, e2, ⟨_, by simpa using e3⟩, e4, by simpa using e6.symm, e5, e7⟩
theorem OutT.below {w0 W W' : World} {v : Value} {xs : L} (h : OutT w0 W v xs) (k : Below W.heap.size W W') : OutT w0 W' v xs := by
  obtain ⟨hB, g, cap, cur, e, hg, hR, hl, hc, hm, ht⟩ := h
  obtain ⟨t, hR2⟩ := hR
  have hlt := Row.lt (⟨t, hR2⟩ : Row W g cur)
  exact ⟨below_then hB hB.size k, g, cap, cur, e, hg, ⟨t, (k.block g hlt).trans hR2⟩, hl, hc, hm, ht⟩
def ZI (w W : World) (s : ByteArray) (kq : Nat) (v0 v3 : Value) : Prop :=
  ∃ (a : Nat) (acc d : L), v3 = .int .i64 ((a : Nat) : Int) ∧ a + kq = s.size ∧ OutT w W v0 (34 :: acc) ∧ St acc d ∧ d ++ from_ s a = bytesOf s ∧ valid (from_ s a) = true ∧ acc.length ≤ 6 * a
def ZPost (w : World) (s : ByteArray) (e : Ending) (w' : World) : Prop := ∃ v acc, e = .returned v ∧ OutT w w' v (34 :: (acc ++ [34])) ∧ St acc (bytesOf s) ∧ acc.length ≤ 6 * s.size
set_option maxHeartbeats 8000000 in
set_option maxRecDepth 100000 in
theorem zzMarshal_any (s : ByteArray) (w : World) (hs : s.size ≤ 4096) (hv : valid (bytesOf s) = true) (hT : Lib.Utf8Tabs gF gA w) :
    Calls Tryd.prog 47 #[.slice none 0 0, .string s] w (ZPost w s) := by
  have H0 := Lib.hid (Outp.nil (Below.refl w.heap.size w))
  have HT := Lib.hid hT
  have HV := Lib.hid hv
  clear hT hv
  go_enter Tryd.func47, Tryd.ntmps47
  go_wp2_with (at_builtin; refine out_num rfl (.tmp 9) (.tmp 10) rfl _ 34 [] rfl (by simp [go_sem]) H0.out (by decide) ?_; intro v1 w1 ho _; replace ho := Lib.hid (ho.toT (by decide)))
  go_loopg [0, 5] s.size (fun kq v0 v3 w' => Hid (ZI w w' s kq v0 v3))
  case atStart => exact Lib.hid ⟨0, [], [], rfl, by omega, ho.out, St.nil, by simp [from_], by simpa [from_] using HV.out, by simp⟩
  case round =>
    obtain ⟨a, acc, d, rfl, hak, hO, hS, hd, hvl, hl⟩ := hrel.out
    clear hrel ho HV
    have HO := Lib.hid hO
    have HD := Lib.hid hd
    have HK := Lib.hid hak
    have HS := Lib.hid hS
    have hl2 : (34 :: acc).length + 6 ≤ 4294967296 := by simp only [List.length_cons]; omega
    have hfb : ∀ x ∈ from_ s a, 0 ≤ x ∧ x ≤ 255 := fun x hx => by have := bytesOf_range s x (List.mem_of_mem_drop hx); omega
    clear hO hd hS
    rcases Nat.lt_or_ge a s.size with hlt | hge
    · have hcons := from_cons s a hlt
      have hrg := (s[a]'hlt).toNat_lt
      obtain ⟨c, n, hch, hvn⟩ : ∃ c n, chr (from_ s a) = some (c, n) ∧ valid ((from_ s a).drop n) = true := by
        rcases valid_cases hvl with h | h
        · rw [hcons] at h; cases h
        · exact h
      have hsm := chr_some hch
      have hg0 : (from_ s a).getD 0 0 = ((s[a]'hlt).toNat : Int) := by rw [hcons]; rfl
      rw [hg0, from_len] at hsm
      have fing : ∀ (lit : L), St lit ((from_ s a).take n) → lit.length ≤ 6 → Hid (∀ v1 w1, OutT w w1 v1 ((34 :: acc) ++ lit) → ZI w w1 s (s.size - (a + n)) v1 (.int .i64 ((a + n : Nat) : Int))) := fun lit k kl => Lib.hid (fun v1 w1 ho =>
        ⟨a + n, acc ++ lit, d ++ (from_ s a).take n, rfl, by omega, by simpa using ho, HS.out.app k, by rw [← HD.out, ← from_drop, List.append_assoc, List.take_append_drop], by rw [← from_drop]; exact hvn, by rw [List.length_append]; omega⟩)
      by_cases hlow : ((s[a]'hlt).toNat : Int) < 128
      · have bl : decide (((s[a]'hlt).toNat : Int) < 128) = true := decide_eq_true hlow
        obtain rfl : n = 1 := by omega
        have ht1 : (from_ s a).take 1 = [((s[a]'hlt).toNat : Int)] := by rw [hcons]; rfl
        rw [ht1] at fing
        by_cases h34 : ((s[a]'hlt).toNat : Int) = 34
        · have fin := fing [92, 34] (by rw [h34]; exact St.esc1 (x := 34) (by decide) (by decide)) (by decide)
          clear hak hvl hl hfb hcons hrg hch hvn hsm hg0 fing hlow ht1
          go_wp2_with (at_builtin; refine outT_row rfl (.tmp 34) (.tmp 36) rfl _ [92, 34] _ 2 2 rfl (by simp [go_sem]) rfl HO.out (Nat.le_trans (Nat.add_le_add_left (by decide) _) hl2) ?_; intro v2 w2 ho2; replace ho2 := Lib.hid ho2)
          go_roundg (s.size - (a + 1))
          case rel => exact Lib.hid (fin.out _ _ ho2.out)
          case measure => have := HK.out; omega
        by_cases h92 : ((s[a]'hlt).toNat : Int) = 92
        · have fin := fing [92, 92] (by rw [h92]; exact St.esc1 (x := 92) (by decide) (by decide)) (by decide)
          clear hak hvl hl hfb hcons hrg hch hvn hsm hg0 fing hlow ht1 h34
          go_wp2_with (at_builtin; refine outT_row rfl (.tmp 34) (.tmp 36) rfl _ [92, 92] _ 2 2 rfl (by simp [go_sem]) rfl HO.out (Nat.le_trans (Nat.add_le_add_left (by decide) _) hl2) ?_; intro v2 w2 ho2; replace ho2 := Lib.hid ho2)
          go_roundg (s.size - (a + 1))
          case rel => exact Lib.hid (fin.out _ _ ho2.out)
          case measure => have := HK.out; omega
        by_cases h8 : ((s[a]'hlt).toNat : Int) = 8
        · have fin := fing [92, 98] (by rw [h8]; exact St.esc1 (x := 98) (by decide) (by decide)) (by decide)
          clear hak hvl hl hfb hcons hrg hch hvn hsm hg0 fing hlow ht1 h34 h92
          go_wp2_with (at_builtin; refine outT_row rfl (.tmp 41) (.tmp 42) rfl _ [92, 98] _ 2 2 rfl (by simp [go_sem]) rfl HO.out (Nat.le_trans (Nat.add_le_add_left (by decide) _) hl2) ?_; intro v2 w2 ho2; replace ho2 := Lib.hid ho2)
          go_roundg (s.size - (a + 1))
          case rel => exact Lib.hid (fin.out _ _ ho2.out)
          case measure => have := HK.out; omega
        by_cases h12 : ((s[a]'hlt).toNat : Int) = 12
        · have fin := fing [92, 102] (by rw [h12]; exact St.esc1 (x := 102) (by decide) (by decide)) (by decide)
          clear hak hvl hl hfb hcons hrg hch hvn hsm hg0 fing hlow ht1 h34 h92 h8
          go_wp2_with (at_builtin; refine outT_row rfl (.tmp 47) (.tmp 48) rfl _ [92, 102] _ 2 2 rfl (by simp [go_sem]) rfl HO.out (Nat.le_trans (Nat.add_le_add_left (by decide) _) hl2) ?_; intro v2 w2 ho2; replace ho2 := Lib.hid ho2)
          go_roundg (s.size - (a + 1))
          case rel => exact Lib.hid (fin.out _ _ ho2.out)
          case measure => have := HK.out; omega
        by_cases h10 : ((s[a]'hlt).toNat : Int) = 10
        · have fin := fing [92, 110] (by rw [h10]; exact St.esc1 (x := 110) (by decide) (by decide)) (by decide)
          clear hak hvl hl hfb hcons hrg hch hvn hsm hg0 fing hlow ht1 h34 h92 h8 h12
          go_wp2_with (at_builtin; refine outT_row rfl (.tmp 53) (.tmp 54) rfl _ [92, 110] _ 2 2 rfl (by simp [go_sem]) rfl HO.out (Nat.le_trans (Nat.add_le_add_left (by decide) _) hl2) ?_; intro v2 w2 ho2; replace ho2 := Lib.hid ho2)
          go_roundg (s.size - (a + 1))
          case rel => exact Lib.hid (fin.out _ _ ho2.out)
          case measure => have := HK.out; omega
        by_cases h13 : ((s[a]'hlt).toNat : Int) = 13
        · have fin := fing [92, 114] (by rw [h13]; exact St.esc1 (x := 114) (by decide) (by decide)) (by decide)
          clear hak hvl hl hfb hcons hrg hch hvn hsm hg0 fing hlow ht1 h34 h92 h8 h12 h10
          go_wp2_with (at_builtin; refine outT_row rfl (.tmp 59) (.tmp 60) rfl _ [92, 114] _ 2 2 rfl (by simp [go_sem]) rfl HO.out (Nat.le_trans (Nat.add_le_add_left (by decide) _) hl2) ?_; intro v2 w2 ho2; replace ho2 := Lib.hid ho2)
          go_roundg (s.size - (a + 1))
          case rel => exact Lib.hid (fin.out _ _ ho2.out)
          case measure => have := HK.out; omega
        by_cases h9 : ((s[a]'hlt).toNat : Int) = 9
        · have fin := fing [92, 116] (by rw [h9]; exact St.esc1 (x := 116) (by decide) (by decide)) (by decide)
          clear hak hvl hl hfb hcons hrg hch hvn hsm hg0 fing hlow ht1 h34 h92 h8 h12 h10 h13
          go_wp2_with (at_builtin; refine outT_row rfl (.tmp 65) (.tmp 66) rfl _ [92, 116] _ 2 2 rfl (by simp [go_sem]) rfl HO.out (Nat.le_trans (Nat.add_le_add_left (by decide) _) hl2) ?_; intro v2 w2 ho2; replace ho2 := Lib.hid ho2)
          go_roundg (s.size - (a + 1))
          case rel => exact Lib.hid (fin.out _ _ ho2.out)
          case measure => have := HK.out; omega
        have b34 : (((s[a]'hlt).toNat : Int) == 34) = false := beq_eq_false_iff_ne.mpr h34
        have b92 : (((s[a]'hlt).toNat : Int) == 92) = false := beq_eq_false_iff_ne.mpr h92
        have b8 : (((s[a]'hlt).toNat : Int) == 8) = false := beq_eq_false_iff_ne.mpr h8
        have b12 : (((s[a]'hlt).toNat : Int) == 12) = false := beq_eq_false_iff_ne.mpr h12
        have b10 : (((s[a]'hlt).toNat : Int) == 10) = false := beq_eq_false_iff_ne.mpr h10
        have b13 : (((s[a]'hlt).toNat : Int) == 13) = false := beq_eq_false_iff_ne.mpr h13
        have b9 : (((s[a]'hlt).toNat : Int) == 9) = false := beq_eq_false_iff_ne.mpr h9
        by_cases hx : ((s[a]'hlt).toNat : Int) < 32 ∨ ((s[a]'hlt).toNat : Int) = 60 ∨ ((s[a]'hlt).toNat : Int) = 62 ∨ ((s[a]'hlt).toNat : Int) = 38
        · have fin := fing [92, 117, 48, 48, hx1 (((s[a]'hlt).toNat : Int) / 16), hx1 (((s[a]'hlt).toNat : Int) % 16)] (St.low (by omega) hlow) (by simp)
          have kx1 := hexIdx (((s[a]'hlt).toNat : Int) / 16) (by omega) (by omega)
          have kx2 : ∀ W : World, (Instr.index 9 (.string { data := #[48, 49, 50, 51, 52, 53, 54, 55, 56, 57, 97, 98, 99, 100, 101, 102] }) (.int .u8 (bits .and .u8 ((s[a]'hlt).toNat : Int) 15))).run Tryd.prog W = .ok (.int .u8 (hx1 (((s[a]'hlt).toNat : Int) % 16))) W := by
            intro W; rw [u8_and15 _ (by omega) (by omega)]; exact hexIdx _ (by omega) (by omega) W
          rcases Classical.em (((s[a]'hlt).toNat : Int) < 32) with q | q
          · have b1 : decide (((s[a]'hlt).toNat : Int) < 32) = true := decide_eq_true q
            clear hak hvl hl hfb hcons hrg hch hvn hsm hg0 fing hlow ht1 h34 h92 h8 h12 h10 h13 h9 hx
            go_wp2
            go_region_held3 (fun _ => True) (trivial) ((refine step_outT rfl (.tmp 83) (.tmp 90) rfl _ [92, 117, 48, 48, hx1 (((s[a]'hlt).toNat : Int) / 16), hx1 (((s[a]'hlt).toNat : Int) % 16)] _ 6 6 (by rfl) (by first | rfl | simp [go_sem]) rfl HO.out.drew hl2 ?_; intro v2 w2 ho2))
            all_goals (replace ho2 := Lib.hid ho2)
            all_goals go_wp2
            all_goals
              go_roundg (s.size - (a + 1))
              case rel => exact Lib.hid (fin.out _ _ ho2.out)
              case measure => have := HK.out; omega
          have b1 : decide (((s[a]'hlt).toNat : Int) < 32) = false := decide_eq_false q
          clear kx1 kx2
          rcases Classical.em (((s[a]'hlt).toNat : Int) = 60) with q2 | q2
          · rw [q2, show hx1 (60 / 16) = 51 by decide, show hx1 (60 % 16) = 99 by decide] at fin
            clear hak hvl hl hfb hcons hrg hch hvn hsm hg0 fing hlow ht1 h34 h92 h8 h12 h10 h13 h9 hx q
            go_wp2
            go_region_held3 (fun _ => True) (trivial) ((refine step_outT rfl (.tmp 83) (.tmp 90) rfl _ [92, 117, 48, 48, 51, 99] _ 6 6 (by rfl) (by first | rfl | simp [go_sem]) rfl HO.out.drew hl2 ?_; intro v2 w2 ho2))
            all_goals (replace ho2 := Lib.hid ho2)
            all_goals go_wp2
            all_goals
              go_roundg (s.size - (a + 1))
              case rel => exact Lib.hid (fin.out _ _ ho2.out)
              case measure => have := HK.out; omega
          have b2 : (((s[a]'hlt).toNat : Int) == 60) = false := beq_eq_false_iff_ne.mpr q2
          rcases Classical.em (((s[a]'hlt).toNat : Int) = 62) with q3 | q3
          · rw [q3, show hx1 (62 / 16) = 51 by decide, show hx1 (62 % 16) = 101 by decide] at fin
            clear hak hvl hl hfb hcons hrg hch hvn hsm hg0 fing hlow ht1 h34 h92 h8 h12 h10 h13 h9 hx q q2
            go_wp2
            go_region_held3 (fun _ => True) (trivial) ((refine step_outT rfl (.tmp 83) (.tmp 90) rfl _ [92, 117, 48, 48, 51, 101] _ 6 6 (by rfl) (by first | rfl | simp [go_sem]) rfl HO.out.drew hl2 ?_; intro v2 w2 ho2))
            all_goals (replace ho2 := Lib.hid ho2)
            all_goals go_wp2
            all_goals
              go_roundg (s.size - (a + 1))
              case rel => exact Lib.hid (fin.out _ _ ho2.out)
              case measure => have := HK.out; omega
          have b3 : (((s[a]'hlt).toNat : Int) == 62) = false := beq_eq_false_iff_ne.mpr q3
          have q4 : ((s[a]'hlt).toNat : Int) = 38 := by omega
          rw [q4, show hx1 (38 / 16) = 50 by decide, show hx1 (38 % 16) = 54 by decide] at fin
          clear hak hvl hl hfb hcons hrg hch hvn hsm hg0 fing hlow ht1 h34 h92 h8 h12 h10 h13 h9 hx q q2 q3
          go_wp2
          go_region_held3 (fun _ => True) (trivial) ((refine step_outT rfl (.tmp 83) (.tmp 90) rfl _ [92, 117, 48, 48, 50, 54] _ 6 6 (by rfl) (by first | rfl | simp [go_sem]) rfl HO.out.drew hl2 ?_; intro v2 w2 ho2))
          all_goals (replace ho2 := Lib.hid ho2)
          all_goals go_wp2
          all_goals
            go_roundg (s.size - (a + 1))
            case rel => exact Lib.hid (fin.out _ _ ho2.out)
            case measure => have := HK.out; omega
        · have fin := fing [((s[a]'hlt).toNat : Int)] (St.one (x := ((s[a]'hlt).toNat : Int)) (by unfold okB; omega)) (by simp)
          have d1 : decide (((s[a]'hlt).toNat : Int) < 32) = false := decide_eq_false (by omega)
          have d2 : (((s[a]'hlt).toNat : Int) == 60) = false := beq_eq_false_iff_ne.mpr (by omega)
          have d3 : (((s[a]'hlt).toNat : Int) == 62) = false := beq_eq_false_iff_ne.mpr (by omega)
          have d4 : (((s[a]'hlt).toNat : Int) == 38) = false := beq_eq_false_iff_ne.mpr (by omega)
          clear hak hvl hl hfb hcons hrg hch hvn hsm hg0 fing hlow ht1 h34 h92 h8 h12 h10 h13 h9 hx
          go_wp2_with (at_builtin; refine outT_row rfl (.tmp 23) (.tmp 25) rfl _ [((s[a]'hlt).toNat : Int)] _ 1 1 rfl (by simp [go_sem]) rfl HO.out (Nat.le_trans (Nat.add_le_add_left (show 1 ≤ 6 by decide) _) hl2) ?_; intro v2 w2 ho2; replace ho2 := Lib.hid ho2)
          go_roundg (s.size - (a + 1))
          case rel => exact Lib.hid (fin.out _ _ ho2.out)
          case measure => have := HK.out; omega
      · have bl : decide (((s[a]'hlt).toNat : Int) < 128) = false := decide_eq_false hlow
        obtain ⟨s1, hs1⟩ : ∃ s1, s1 = s.extract a s.size := ⟨_, rfl⟩
        have ks1 : ∀ W : World, (Instr.slice 9 (.string s) (some (.int .i64 (a : Int))) none none).run Tryd.prog W = .ok (.string s1) W := by rw [hs1]; exact slice_fromI s a (by omega)
        have hDc : Hid (∀ W, Lib.Utf8Tabs gF gA W → Calls Tryd.prog 57 #[.string s1] W fun e w' => e = .returned (.tuple #[.int .i32 c, .int .i64 (n : Nat)]) ∧ Below W.heap.size W w') := Lib.hid (fun W h => Decode_any s1 W (by rw [hs1, bytes_from]; exact hch) h)
        have HT2 := Lib.hid (tabs_below HT.out HO.out.1)
        have bn : ((n : Int) == 1) = false := beq_eq_false_iff_ne.mpr (by omega)
        have han : a + n ≤ s.size := by omega
        have hn2 : 2 ≤ n := by omega
        have hmes : s.size - (a + n) < s.size - a := by omega
        have hnn : n ≤ 4 := by omega
        by_cases h28 : c = 8232
        · have fin := fing [92, 117, 50, 48, 50, 56] (by have := St.line hfb hch (.inl h28); rw [h28] at this; exact this) (by decide)
          subst h28
          clear hak hvl hl hfb hcons hrg hch hvn hsm hg0 fing hlow hs1
          go_wp2_with (first | (go_at_call 57; refine (hDc.out _ HT2.out).mono ?_; rintro e w2 ⟨rfl, hb2⟩; replace HO := Lib.hid (HO.out.below hb2); clear hb2) | (at_builtin; refine outT_row rfl (.tmp 123) (.tmp 127) rfl _ [92, 117, 50, 48, 50, 56] _ 6 6 rfl (by simp [go_sem]) rfl HO.out (Nat.le_trans (Nat.add_le_add_left (by decide) _) hl2) ?_; intro v2 w3 ho2; replace ho2 := Lib.hid ho2))
          go_roundg (s.size - (a + n))
          case rel => exact Lib.hid (fin.out _ _ ho2.out)
          case measure => have := HK.out; omega
        by_cases h29 : c = 8233
        · have fin := fing [92, 117, 50, 48, 50, 57] (by have := St.line hfb hch (.inr h29); rw [h29] at this; exact this) (by decide)
          subst h29
          clear hak hvl hl hfb hcons hrg hch hvn hsm hg0 fing hlow hs1 h28
          go_wp2_with (first | (go_at_call 57; refine (hDc.out _ HT2.out).mono ?_; rintro e w2 ⟨rfl, hb2⟩; replace HO := Lib.hid (HO.out.below hb2); clear hb2) | (at_builtin; refine outT_row rfl (.tmp 123) (.tmp 127) rfl _ [92, 117, 50, 48, 50, 57] _ 6 6 rfl (by simp [go_sem]) rfl HO.out (Nat.le_trans (Nat.add_le_add_left (by decide) _) hl2) ?_; intro v2 w3 ho2; replace ho2 := Lib.hid ho2))
          go_roundg (s.size - (a + n))
          case rel => exact Lib.hid (fin.out _ _ ho2.out)
          case measure => have := HK.out; omega
        have c1 : (c == 8232) = false := beq_eq_false_iff_ne.mpr h28
        have c2 : (c == 8233) = false := beq_eq_false_iff_ne.mpr h29
        obtain ⟨s2, hs2⟩ : ∃ s2, s2 = s.extract a (a + n) := ⟨_, rfl⟩
        have hb2 : bytesOf s2 = (from_ s a).take n := by rw [hs2, bytesOf_extract, show a + n - a = n by omega]; rfl
        have hz2 : s2.size ≤ 6 := by rw [hs2, ByteArray.size_extract]; omega
        have ks2 : ∀ W : World, (Instr.slice 9 (.string s) (some (.int .i64 (a : Int))) (some (.int .i64 ((a : Int) + (n : Int)))) none).run Tryd.prog W = .ok (.string s2) W := by rw [hs2]; exact slice_strI2 s a (a + n) (by omega) han
        have fin := fing (bytesOf s2) (by rw [hb2]; exact St.wide hfb hch (by rw [hg0]; exact hlow)) (by rw [bytesOf_length]; exact hz2)
        clear hak hvl hl hfb hcons hrg hch hvn hsm hg0 fing hlow hs1 h28 h29 hb2 hs2
        go_wp2_with (first | (go_at_call 57; refine (hDc.out _ HT2.out).mono ?_; rintro e w2 ⟨rfl, hb2⟩; replace HO := Lib.hid (HO.out.below hb2); clear hb2) | (at_builtin; refine outT_str rfl (.tmp 99) (.tmp 105) rfl _ s2 _ rfl (by simp [go_sem]) HO.out (Nat.le_trans (Nat.add_le_add_left hz2 _) hl2) ?_; intro v2 w3 ho2; replace ho2 := Lib.hid ho2))
        all_goals
          go_roundg (s.size - (a + n))
          case rel => exact Lib.hid (fin.out _ _ ho2.out)
          case measure => have := HK.out; omega
    · obtain rfl : a = s.size := by omega
      have hfin : Hid (d = bytesOf s) := Lib.hid (by rw [← HD.out, from_end, List.append_nil])
      clear hak hvl hfb
      go_wp2_with (at_builtin; refine outT_row rfl (.tmp 132) (.tmp 133) rfl _ [34] _ 1 1 rfl (by simp [go_sem]) rfl HO.out (Nat.le_trans (Nat.add_le_add_left (by decide) _) hl2) ?_; intro v2 w2 ho2; replace ho2 := Lib.hid ho2)
      go_ret
      exact ⟨v2, acc, rfl, ho2.out, by rw [← hfin.out]; exact HS.out, hl⟩
end Go.Proofs.YtjpbjbcdobibbaaDoor.J

/- The walks of sjson's appendStringify, SjString. -/
set_option linter.unusedVariables false
set_option linter.unusedSimpArgs false
namespace Go.Proofs.YtjpbjbcdobibbaaDoor.J
open Go.RowKit Go.Proofs.YtjpbjbcdobibbaaDoorW.PrintWords Go.Proofs.YtjpbjbcdobibbaaDoorW.PrintLast Go.Proofs.YtjpbjbcdobibbaaDoorW.PrintMore Go.Proofs.YtjpbjbcdobibbaaDoor.Aid Go.Proofs.YtjpbjbcdobibbaaDoor.PFnSjStringText

def badB (x : Int) : Bool := decide (x < 32) || decide (127 < x) || x == 34 || x == 92
theorem mm_f (s : ByteArray) (hs : s.size ≤ 4096) : ∀ (n a : Nat), s.size - a ≤ n → a ≤ s.size → sjson_mustMarshalString.l0 (n + 1) s a = some ((from_ s a).any badB) := by
  intro n
  induction n with
  | zero =>
    intro a h1 h2
    obtain rfl : a = s.size := by omega
    simp only [sjson_mustMarshalString.l0]
    rw [if_neg (by omega), from_end]; rfl
  | succ n ih =>
    intro a h1 h2
    by_cases hlt : a < s.size
    · have hcons := from_cons s a hlt
      have e0 : bt s (a : Int) = ((s[a]'hlt).toNat : Int) := by have := bt_from s a 0; rw [hcons] at this; simpa using this
      rw [hcons, sjson_mustMarshalString.l0, e0]
      generalize ((s[a]'hlt).toNat : Int) = b at *
      have w1 : wrap64 ((a : Int) + 1) = ((a + 1 : Nat) : Int) := by rw [w64 (by omega) (by omega)]; rfl
      rw [if_pos (show (a : Int) < (s.size : Int) by omega), if_pos (show (0 : Int) ≤ (a : Int) by omega), w1, ih (a + 1) (by omega) (by omega), List.any_cons]
      unfold badB
      by_cases c1 : b < 32
      · rw [if_pos c1]; simp [c1]
      rw [if_neg c1]
      by_cases c2 : b > 127
      · rw [if_pos c2]; have : 127 < b := c2; simp [this]
      rw [if_neg c2]
      by_cases c3 : b = 34
      · rw [if_pos c3]; simp [c3]
      rw [if_neg c3]
      by_cases c4 : b = 92
      · rw [if_pos c4]; simp [c4]
      rw [if_neg c4]
      have h2 : ¬ (127 < b) := c2
      simp [c1, h2, c3, c4]
    · obtain rfl : a = s.size := by omega
      simp only [sjson_mustMarshalString.l0]
      rw [if_neg (by omega), from_end]; rfl
theorem mm_any (s : ByteArray) (w : World) (hs : s.size ≤ 4096) :
    Calls Tryd.prog 46 #[.string s] w fun e w' => e = .returned (.bool ((bytesOf s).any badB)) ∧ Drawn0 w w' := by
  refine sjson_mustMarshalString.calls (s.size + 1) s _ w ?_
  unfold sjson_mustMarshalString.f
  have := mm_f s hs s.size 0 (by omega) (by omega)
  simpa [from_] using this
theorem OutT.base {w0 w1 W : World} {v : Value} {xs : L} (hb : Below w0.heap.size w0 w1) (h : OutT w1 W v xs) : OutT w0 W v xs := by
  obtain ⟨hB, g, cap, cur, e, hg, r⟩ := h
  exact ⟨below_then hb hb.size hB, g, cap, cur, e, Nat.le_trans hb.size hg, r⟩
/-- What is written of a text. -/
def Wr (s : ByteArray) (acc : L) : Prop := St acc (bytesOf s) ∧ acc.length ≤ 6 * s.size ∧ ((bytesOf s).any badB = false → acc = bytesOf s)
set_option maxHeartbeats 8000000 in
set_option maxRecDepth 100000 in
theorem appendStringify_any (s : ByteArray) (w : World) (hs : s.size ≤ 4096) (hv : valid (bytesOf s) = true) (hT : Lib.Utf8Tabs gF gA w) :
    Calls Tryd.prog 36 #[.slice none 0 0, .string s] w fun e w' => ∃ v acc, e = .returned v ∧ OutT w w' v (34 :: (acc ++ [34])) ∧ Wr s acc := by
  have M := Lib.hid (mm_any s w hs)
  cases hb : (bytesOf s).any badB with
  | true =>
    rw [hb] at M
    have K := Lib.hid (fun W (h : Lib.Utf8Tabs gF gA W) => zzMarshal_any s W hs hv h)
    have HT := Lib.hid hT
    have hw : Hid (∀ acc, St acc (bytesOf s) → acc.length ≤ 6 * s.size → Wr s acc) := Lib.hid (fun acc h1 h2 => ⟨h1, h2, fun h => by rw [hb] at h; cases h⟩)
    clear hT hv hb
    go_enter Tryd.func36, Tryd.ntmps36
    go_wp2_with (first | (go_at_call 46; refine M.out.mono ?_; rintro e w1 ⟨rfl, hb1⟩; replace hb1 := Lib.hid hb1.below) | (go_at_call 47; refine (K.out _ (tabs_below HT.out hb1.out)).mono ?_; rintro e w2 ⟨v, acc, rfl, ho, hS, hl⟩; replace ho := Lib.hid ho; replace hS := Lib.hid hS))
    go_ret
    exact ⟨v, acc, rfl, OutT.base hb1.out ho.out, hw.out acc hS.out hl⟩
  | false =>
    rw [hb] at M
    have hw : Hid (Wr s (bytesOf s)) := Lib.hid ⟨St.all (fun x hx => by
      have h1 := List.any_eq_false.1 hb x hx
      unfold badB at h1
      simp at h1
      have := bytesOf_range s x hx
      unfold okB; omega), by rw [bytesOf_length]; omega, fun _ => rfl⟩
    have hl3 : (([] ++ [34]) ++ bytesOf s).length ≤ 4294967296 := by have := bytesOf_length s; simp; omega
    have O0 := Lib.hid (Outp.nil (Below.refl w.heap.size w))
    clear hT hv hb
    go_enter Tryd.func36, Tryd.ntmps36
    go_wp2_with (first | (go_at_call 46; refine M.out.mono ?_; rintro e w1 ⟨rfl, hb1⟩; replace O0 := Lib.hid (O0.out.below hb1.below)) | (at_builtin; refine out_num rfl (.tmp 10) (.tmp 11) rfl _ 34 [] rfl (by simp [go_sem]) O0.out (by decide) ?_; intro v1 w2 ho _; replace ho := Lib.hid ho) | (at_builtin; refine out_str rfl (.tmp 13) (.tmp 14) rfl _ s ([] ++ [34]) rfl (by simp [go_sem]) ho.out (by simp; omega) ?_; intro v2 w3 ho2 _; replace ho2 := Lib.hid ho2) | (at_builtin; refine out_num rfl (.tmp 16) (.tmp 17) rfl _ 34 (([] ++ [34]) ++ bytesOf s) rfl (by simp [go_sem]) ho2.out hl3 ?_; intro v3 w4 ho3 _; replace ho3 := Lib.hid (ho3.toT (by simp))))
    go_ret
    exact ⟨_, bytesOf s, rfl, by simpa using ho3.out, hw.out⟩

set_option maxHeartbeats 4000000 in
set_option maxRecDepth 100000 in
theorem DoorString_any (s : ByteArray) (w : World) (hs : s.size ≤ 4096) (hv : valid (bytesOf s) = true) (hT : Lib.Utf8Tabs gF gA w) :
    Calls Tryd.prog 23 #[.string s] w fun e w' => ∃ acc, e = .returned (.string (strOfNums (34 :: (acc ++ [34])))) ∧ Below w.heap.size w w' ∧ Wr s acc := by
  have K := Lib.hid (appendStringify_any s w hs hv hT)
  clear hv hT
  go_enter Tryd.func23, Tryd.ntmps23
  go_wp2_with fail
  refine K.out.mono ?_
  rintro e w1 ⟨v, acc, rfl, ho, hW⟩
  obtain ⟨xs, hxs⟩ : ∃ xs, xs = 34 :: (acc ++ [34]) := ⟨_, rfl⟩
  rw [← hxs] at ho
  have fin : Hid (∀ W', Below w.heap.size w W' → ∃ acc', Ending.returned (.string (strOfNums xs)) = .returned (.string (strOfNums (34 :: (acc' ++ [34])))) ∧ Below w.heap.size w W' ∧ Wr s acc') := Lib.hid (fun W' h => ⟨acc, by rw [hxs], h, hW⟩)
  clear hxs hW
  obtain ⟨g, cap, rfl, hI⟩ := ho.reads
  have HB := Lib.hid ho.1
  have ks := in_string (c := cap) hI
  clear ho hI
  go_wp2
  go_ret
  exact fin.out _ HB.out
set_option maxHeartbeats 4000000 in
set_option maxRecDepth 100000 in
theorem SjString_any (s : ByteArray) (w : World) (hs : s.size ≤ 4096) (hv : valid (bytesOf s) = true) (hT : Lib.Utf8Tabs gF gA w) :
    Calls Tryd.prog 9 #[.string s] w fun e w' => ∃ acc, e = .returned (.string (strOfNums (34 :: (acc ++ [34])))) ∧ Below w.heap.size w w' ∧ Wr s acc := by
  have K := Lib.hid (DoorString_any s w hs hv hT)
  clear hv hT
  go_enter Tryd.func9, Tryd.ntmps9
  go_wp2_with (go_at_call 23; refine K.out.mono ?_; rintro e w1 ⟨acc, rfl, hb, hW⟩; replace hb := Lib.hid hb; replace hW := Lib.hid hW)
  go_ret
  exact ⟨acc, rfl, hb.out, hW.out⟩
end Go.Proofs.YtjpbjbcdobibbaaDoor.J

