/- The walk of the reference's Unquote. -/
import Derived.Test.YtkmdcckiehbcmaaDoorQ2
import Derived.Deep.LoopGhost
set_option linter.unusedVariables false
set_option linter.unusedSimpArgs false
namespace Go.Proofs.YtkmdcckiehbcmaaDoor.J
open Go.RowKit Go.Proofs.YtkmdcckiehbcmaaDoorW.PrintWords Go.Proofs.YtkmdcckiehbcmaaDoorW.PrintLast Go.Proofs.YtkmdcckiehbcmaaDoorW.PrintMore Go.Proofs.YtkmdcckiehbcmaaDoor.Aid

theorem from_cons (s : ByteArray) (a : Nat) (h : a < s.size) : from_ s a = ((s[a]'h).toNat : Int) :: from_ s (a + 1) := by
  have hl : a < (bytesOf s).length := by rw [bytesOf_length]; exact h
  have e := from_at0 s a h
  unfold from_ at e ⊢
  rw [List.drop_eq_getElem_cons hl]
  congr 1
  rw [e, List.getD_eq_getElem?_getD, List.getElem?_drop, Nat.add_zero, List.getElem?_eq_getElem hl]; rfl
theorem from_end (s : ByteArray) : from_ s s.size = [] := List.eq_nil_of_length_eq_zero (by rw [from_len]; omega)
theorem str_outp {w0 W : World} {v : Value} {xs : L} (h : Outp w0 W v xs) : (convert 36 9 v).run Tryd.prog W = .ok (.string (strOfNums xs)) W :=
  own_string Tryd.underlying36 Tryd.underlying5 Tryd.underlying9 h.1
theorem slice_strI (s : ByteArray) (b e : Int) (h0 : 0 ≤ b) (h1 : b ≤ e) (h2 : e ≤ s.size) (W : World) :
    (Instr.slice 9 (.string s) (some (.int .i64 b)) (some (.int .i64 e)) none).run Tryd.prog W = .ok (.string (s.extract b.toNat e.toNat)) W := by
  have h3 : 0 ≤ e := by omega
  go_simp
/-- The inside of a text between its first byte and its last one. -/
theorem slice_in (s s1 : ByteArray) (h2 : 2 ≤ s.size) (e : s1 = s.extract 1 (s.size - 1)) (W : World) :
    (Instr.slice 9 (.string s) (some (.int .i64 1)) (some (.int .i64 ((s.size : Int) - 1))) none).run Tryd.prog W = .ok (.string s1) W := by
  have := slice_strI s 1 ((s.size : Int) - 1) (by omega) (by omega) (by omega) W
  rwa [show ((s.size : Int) - 1).toNat = s.size - 1 by omega, show (1 : Int).toNat = 1 from rfl, ← e] at this
def UQ (w W : World) (s1 : ByteArray) (kq : Nat) (v3 v5 : Value) : Prop :=
  ∃ a acc, v5 = .int .i64 ((a : Nat) : Int) ∧ a + kq = s1.size ∧ Outp w W v3 acc ∧ acc ++ unq (from_ s1 a) = unq (from_ s1 0) ∧ wellE (from_ s1 a) = true ∧ acc.length ≤ a
theorem utf8_len (c : Int) : (utf8 c).length ≤ 4 := by
  unfold utf8
  repeat' split
  all_goals simp
theorem utf8_len3 {c : Int} (h : c ≤ 65535) : (utf8 c).length ≤ 3 := by
  unfold utf8
  split
  · simp
  split
  · simp
  split
  · simp
  split
  · simp
  · omega
theorem unit_len {l : L} {n : Int} (h : unit l = some n) : 6 ≤ l.length := by
  unfold unit at h
  split at h
  · rename_i g; exact g.1
  · cases h
/-- A well-formed inside at a backslash: an escape of one letter, or a number. -/
theorem well_esc {t : L} (h : wellE (92 :: t) = true) : (unit (92 :: t) = none ∧ ∃ c r, t = c :: r ∧ wellE r = true) ∨ ∃ n, unit (92 :: t) = some n ∧ wellE (t.drop 5) = true := by
  cases t with
  | nil => rw [wellE_no rfl] at h; cases h
  | cons c r =>
    by_cases hp : plainEsc c = true
    · refine .inl ⟨unit_else (by simp only [List.getD_cons_succ, List.getD_cons_zero]; exact fun k => plainEsc_ne hp k.2), c, r, rfl, ?_⟩
      rwa [wellE_yes (esc_plain r hp)] at h
    by_cases hu : c = 117
    · subst hu
      cases e : unit (92 :: 117 :: r) with
      | none => rw [hexes4_no_u (unit_no e)] at h; cases h
      | some n =>
        obtain ⟨g1, g2⟩ := unit_yes e
        rw [wellE_yes (by rw [esc_u, g1])] at h
        exact .inr ⟨n, rfl, h⟩
    · rw [wellE_no (esc_else r hp hu)] at h; cases h
theorem well_u {l : L} {m : Int} (h : wellE l = true) (hu : unit l = some m) : wellE (l.drop 6) = true := by
  have hl := unit_len hu
  cases l with
  | nil => simp at hl
  | cons c t =>
    have hc : c = 92 := by
      unfold unit at hu
      split at hu
      · rename_i g; exact g.2.1
      · cases hu
    subst hc
    rcases well_esc h with ⟨e, _⟩ | ⟨n, e, hw⟩
    · rw [e] at hu; cases hu
    · exact hw

set_option maxHeartbeats 8000000 in
set_option maxRecDepth 100000 in
theorem Unquote_any (s : ByteArray) (w : World) (h2 : 2 ≤ s.size) (hs : s.size ≤ 2147483660) (hw : wellE (((bytesOf s).drop 1).take (s.size - 2)) = true) :
    Calls Tryd.prog 37 #[.string s] w fun e w' => e = .returned (.string (strOfNums (unq (((bytesOf s).drop 1).take (s.size - 2))))) ∧ Below w.heap.size w w' := by
  obtain ⟨s1, hs1⟩ : ∃ s1, s1 = s.extract 1 (s.size - 1) := ⟨_, rfl⟩
  have hb1 : ((bytesOf s).drop 1).take (s.size - 2) = from_ s1 0 := by unfold from_; rw [hs1, bytesOf_extract, List.drop_zero]; congr 1
  rw [hb1] at hw ⊢
  have hz : s1.size + 2 = s.size := by rw [hs1, ByteArray.size_extract]; omega
  have ksl := slice_in s s1 h2 hs1
  have hsz : s1.size ≤ 2147483660 := by omega
  have HW := Lib.hid hw
  replace hs1 := Lib.hid hs1
  replace hz := Lib.hid hz
  clear hb1 hw
  go_enter Tryd.func37, Tryd.ntmps37
  go_wp2
  clear ksl
  go_loopg [3, 5] s1.size (fun kq v3 v5 w' => Hid (UQ w w' s1 kq v3 v5))
  case atStart => exact Lib.hid ⟨0, [], rfl, by omega, Outp.nil (Below.refl _ _), rfl, HW.out, by simp⟩
  case round =>
    obtain ⟨a, acc, rfl, hak, hO, hq, hwl, hacc⟩ := hrel.out
    clear hrel HW
    have HO := Lib.hid hO
    have HQ := Lib.hid hq
    have HK := Lib.hid hak
    have hu1 : Hid (∀ W, Calls Tryd.prog 31 #[.string s1, .int .i64 (a : Int)] W fun e w' => e = .returned (unitR (from_ s1 a)) ∧ W = w') := Lib.hid (fun W => unit_any s1 a W hsz (by omega))
    clear hO hq
    rcases Nat.lt_or_ge a s1.size with hlt | hge
    · have hcons := from_cons s1 a hlt
      by_cases hc : ((s1[a]'hlt).toNat : Int) = 92
      · rw [hc] at hcons
        have b1 : (((s1[a]'hlt).toNat : Int) != 92) = false := by rw [hc]; rfl
        rw [hcons] at hwl
        rcases well_esc hwl with ⟨hun, x, r, hxr, hwr⟩ | ⟨n, hun, hwr⟩
        · rw [← hcons] at hun
          rw [unitR_none hun] at hu1
          have hlr : a + 1 < s1.size := by have := congrArg List.length hxr; rw [from_len] at this; simp at this; omega
          have hx1 := from_cons s1 (a + 1) hlr
          rw [hxr] at hx1
          injection hx1 with hx1 hr1
          have hxs : Hid (∀ W, Calls Tryd.prog 51 #[.int .u8 ((s1[a + 1]'hlr).toNat : Int)] W fun e w' => e = .returned (.int .u8 (short x)) ∧ W = w') := Lib.hid (fun W => by rw [← hx1]; exact short_any x W)
          have fin : Hid (∀ w1 v1, Outp w w1 v1 (acc ++ [short x]) → UQ w w1 s1 (s1.size - (a + 2)) v1 (.int .i64 ((a + 2 : Nat) : Int))) := Lib.hid (fun w1 v1 ho => ⟨a + 2, acc ++ [short x], rfl, by omega, ho, by
            rw [← HQ.out, hcons, unq_short (by rw [← hcons]; exact hun), hxr]
            rw [show a + 2 = a + 1 + 1 by omega, ← hr1]; simp, by rw [show a + 2 = a + 1 + 1 by omega, ← hr1]; exact hwr, by simp; omega⟩)
          clear hc hcons hwl hun hxr hwr hx1 hr1 hak
          go_wp2_with (first | (go_at_call 31; refine (hu1.out _).mono ?_; rintro e w' ⟨rfl, rfl⟩) | (go_at_call 51; refine (hxs.out _).mono ?_; rintro e w' ⟨rfl, rfl⟩) | (at_builtin; refine out_num rfl (.tmp 39) (.tmp 45) rfl _ (short x) acc rfl (by simp [go_sem]) HO.out (by omega) ?_; intro v1 w1 ho _; replace ho := Lib.hid ho))
          go_roundg (s1.size - (a + 2))
          case rel => exact Lib.hid (fin.out _ _ ho.out)
          case measure => have := HK.out; omega
        · rw [← hcons] at hun
          rw [unitR_some hun] at hu1
          obtain ⟨n0, n1⟩ := unit_range hun
          have hl6 := unit_len hun
          rw [from_len] at hl6
          have hwr' : wellE (from_ s1 (a + 6)) = true := by rw [from_drop] at hwr; exact hwr
          have hu2 : Hid (∀ W, Calls Tryd.prog 31 #[.string s1, .int .i64 ((a : Int) + 6)] W fun e w' => e = .returned (unitR (from_ s1 (a + 6))) ∧ W = w') := Lib.hid (fun W => unit_any s1 (a + 6) W hsz (by omega))
          have kh : Hid (∀ W, Calls Tryd.prog 32 #[.int .i64 n] W fun e w' => e = .returned (.bool (high n)) ∧ W = w') := Lib.hid (high_any n)
          have one : Hid ((∀ m, unit (from_ s1 (a + 6)) = some m → ¬ (high n = true ∧ low m = true)) → ∀ w1 v1, Outp w w1 v1 (acc ++ utf8 n) → UQ w w1 s1 (s1.size - (a + 6)) v1 (.int .i64 ((a + 6 : Nat) : Int))) := Lib.hid (fun hno w1 v1 ho => ⟨a + 6, acc ++ utf8 n, rfl, by omega, ho, by
            rw [← HQ.out, hcons, unq_one (by rw [← hcons]; exact hun) (by rw [from_drop]; exact hno), from_drop]; simp, hwr', by rw [List.length_append]; have := utf8_len3 n1; omega⟩)
          have hlen : acc.length ≤ 4294960000 := by omega
          have HA : Hid (∀ W v, Outp w W v acc → Calls Tryd.prog 34 #[v, .int .i64 n] W (OPost w (acc ++ utf8 n))) := Lib.hid (fun W v ho => appendUTF8_any w W v acc n n0 (by omega) hlen ho)
          cases hm : unit (from_ s1 (a + 6)) with
          | none =>
            rw [unitR_none hm] at hu2
            have fin := Lib.hid (one.out (fun m e => by rw [hm] at e; cases e))
            clear hc hcons hwl hun hwr hwr' hm hak one
            go_wp2_with (first | (go_at_call_of 31 (Value.int .i64 (a : Int)); refine (hu1.out _).mono ?_; rintro e w' ⟨rfl, rfl⟩) | (go_at_call 31; refine (hu2.out _).mono ?_; rintro e w' ⟨rfl, rfl⟩) | (go_at_call 34; refine (HA.out _ _ HO.out).mono ?_; rintro e w' ⟨v1, rfl, ho⟩; replace ho := Lib.hid ho))
            go_roundg (s1.size - (a + 6))
            case rel => exact Lib.hid (fin.out _ _ ho.out)
            case measure => have := HK.out; omega
          | some m =>
            rw [unitR_some hm] at hu2
            obtain ⟨m0, m1⟩ := unit_range hm
            have kl : Hid (∀ W, Calls Tryd.prog 33 #[.int .i64 m] W fun e w' => e = .returned (.bool (low m)) ∧ W = w') := Lib.hid (low_any m)
            by_cases hh : high n = true
            · rw [hh] at kh
              by_cases hl : low m = true
              · rw [hl] at kl
                have hl12 := unit_len hm
                rw [from_len] at hl12
                have hc0 : 0 ≤ comb n m ∧ comb n m ≤ 1114111 := by unfold high at hh; unfold low at hl; unfold comb; simp at hh hl ⊢; omega
                have HA2 : Hid (∀ W v, Outp w W v acc → Calls Tryd.prog 34 #[v, .int .i64 (65536 + (n - 55296) * 1024 + (m - 56320))] W (OPost w (acc ++ utf8 (comb n m)))) := Lib.hid (fun W v ho => appendUTF8_any w W v acc (comb n m) hc0.1 hc0.2 hlen ho)
                have hwr2 : wellE (from_ s1 (a + 6 + 6)) = true := by rw [← from_drop]; exact well_u hwr' hm
                have fin : Hid (∀ w1 v1, Outp w w1 v1 (acc ++ utf8 (comb n m)) → UQ w w1 s1 (s1.size - (a + 12)) v1 (.int .i64 ((a + 12 : Nat) : Int))) := Lib.hid (fun w1 v1 ho => ⟨a + 12, acc ++ utf8 (comb n m), rfl, by omega, ho, by
                  rw [← HQ.out, hcons, unq_pair (by rw [← hcons]; exact hun) (by rw [from_drop]; exact hm) ⟨hh, hl⟩, from_drop]; simp, hwr2, by rw [List.length_append]; have := utf8_len (comb n m); omega⟩)
                clear hc hcons hwl hun hwr hwr' hwr2 hm hak one hh hl HA
                go_wp2_with (first | (go_at_call_of 31 (Value.int .i64 (a : Int)); refine (hu1.out _).mono ?_; rintro e w' ⟨rfl, rfl⟩) | (go_at_call 31; refine (hu2.out _).mono ?_; rintro e w' ⟨rfl, rfl⟩) | (go_at_call 32; refine (kh.out _).mono ?_; rintro e w' ⟨rfl, rfl⟩) | (go_at_call 33; refine (kl.out _).mono ?_; rintro e w' ⟨rfl, rfl⟩) | (go_at_call 34; refine (HA2.out _ _ HO.out).mono ?_; rintro e w' ⟨v1, rfl, ho⟩; replace ho := Lib.hid ho))
                go_roundg (s1.size - (a + 12))
                case rel => exact Lib.hid (fin.out _ _ ho.out)
                case measure => have := HK.out; omega
              · have hl' : low m = false := by simpa using hl
                rw [hl'] at kl
                have fin := Lib.hid (one.out (fun m' e g => by rw [hm] at e; injection e with e; subst e; exact hl g.2))
                clear hc hcons hwl hun hwr hwr' hm hak one hl hl' hh
                go_wp2_with (first | (go_at_call_of 31 (Value.int .i64 (a : Int)); refine (hu1.out _).mono ?_; rintro e w' ⟨rfl, rfl⟩) | (go_at_call 31; refine (hu2.out _).mono ?_; rintro e w' ⟨rfl, rfl⟩) | (go_at_call 32; refine (kh.out _).mono ?_; rintro e w' ⟨rfl, rfl⟩) | (go_at_call 33; refine (kl.out _).mono ?_; rintro e w' ⟨rfl, rfl⟩) | (go_at_call 34; refine (HA.out _ _ HO.out).mono ?_; rintro e w' ⟨v1, rfl, ho⟩; replace ho := Lib.hid ho))
                go_roundg (s1.size - (a + 6))
                case rel => exact Lib.hid (fin.out _ _ ho.out)
                case measure => have := HK.out; omega
            · have hh' : high n = false := by simpa using hh
              rw [hh'] at kh
              have fin := Lib.hid (one.out (fun m' e g => hh g.1))
              clear hc hcons hwl hun hwr hwr' hm hak one hh hh'
              go_wp2_with (first | (go_at_call_of 31 (Value.int .i64 (a : Int)); refine (hu1.out _).mono ?_; rintro e w' ⟨rfl, rfl⟩) | (go_at_call 31; refine (hu2.out _).mono ?_; rintro e w' ⟨rfl, rfl⟩) | (go_at_call 32; refine (kh.out _).mono ?_; rintro e w' ⟨rfl, rfl⟩) | (go_at_call 33; refine (kl.out _).mono ?_; rintro e w' ⟨rfl, rfl⟩) | (go_at_call 34; refine (HA.out _ _ HO.out).mono ?_; rintro e w' ⟨v1, rfl, ho⟩; replace ho := Lib.hid ho))
              go_roundg (s1.size - (a + 6))
              case rel => exact Lib.hid (fin.out _ _ ho.out)
              case measure => have := HK.out; omega
      · have b1 : (((s1[a]'hlt).toNat : Int) != 92) = true := bne_iff_ne.mpr hc
        rw [hcons, wellE_plain _ hc] at hwl
        obtain ⟨x, hx⟩ : ∃ x, x = ((s1[a]'hlt).toNat : Int) := ⟨_, rfl⟩
        have fin : Hid (∀ w1 v1, Outp w w1 v1 (acc ++ [((s1[a]'hlt).toNat : Int)]) → UQ w w1 s1 (s1.size - (a + 1)) v1 (.int .i64 ((a + 1 : Nat) : Int))) := Lib.hid (fun w1 v1 ho => ⟨a + 1, acc ++ [((s1[a]'hlt).toNat : Int)], rfl, by omega, ho, by
          rw [← HQ.out, hcons, unq_plain _ hc]; simp, hwl, by simp; omega⟩)
        clear hc hcons hwl hak hx
        go_wp2_with (at_builtin; refine out_num rfl (.tmp 23) (.tmp 27) rfl _ ((s1[a]'hlt).toNat : Int) acc rfl (by simp [go_sem]) HO.out (by omega) ?_; intro v1 w1 ho _; replace ho := Lib.hid ho)
        go_roundg (s1.size - (a + 1))
        case rel => exact Lib.hid (fin.out _ _ ho.out)
        case measure => have := HK.out; omega
    · obtain rfl : a = s1.size := by omega
      have ks := str_outp HO.out
      have hfin : Hid (unq (from_ s1 0) = acc) := Lib.hid (by rw [← HQ.out, from_end, unq_nil, List.append_nil])
      clear hak hwl
      go_wp2
      go_ret
      exact ⟨by rw [hfin.out]; rfl, HO.out.2⟩
end Go.Proofs.YtkmdcckiehbcmaaDoor.J
