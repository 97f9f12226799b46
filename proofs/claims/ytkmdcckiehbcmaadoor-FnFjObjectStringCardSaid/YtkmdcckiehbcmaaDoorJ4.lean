/- The walks of the reader's escapes and strings. -/
import Derived.Test.YtkmdcckiehbcmaaDoorJ3
set_option linter.unusedVariables false
set_option linter.unusedSimpArgs false
namespace Go.Proofs.YtkmdcckiehbcmaaDoor.J
open Go.RowKit Go.Proofs.YtkmdcckiehbcmaaDoorW.PrintWords Go.Proofs.YtkmdcckiehbcmaaDoorW.PrintLast Go.Proofs.YtkmdcckiehbcmaaDoorW.PrintMore Go.Proofs.YtkmdcckiehbcmaaDoor.Aid

/-- What a hexadecimal digit stands for. -/
def hexV (c : Int) : Int := if dig c = true then c - 48 else if 97 ≤ c ∧ c ≤ 102 then c - 87 else if 65 ≤ c ∧ c ≤ 70 then c - 55 else 0

theorem hexDigit_any (c : Int) (h0 : 0 ≤ c) (h1 : c ≤ 255) (w : World) :
    Calls Tryd.prog 50 #[.int .u8 c] w fun e w' => e = .returned (.tuple #[.int .i64 (hexV c), .bool (hex c)]) ∧ w' = w := by
  by_cases d : 48 ≤ c ∧ c ≤ 57
  · obtain ⟨d1, d2⟩ := d
    have E : Hid (hexV c = c - 48 ∧ hex c = true) := Lib.hid (by
      have e : dig c = true := by simp [dig, d1, d2]
      exact ⟨by simp [hexV, e], by simp [hex, e]⟩)
    go_enter Tryd.func50, Tryd.ntmps50
    go_wp2
    go_ret2
    exact ⟨by rw [E.out.1, E.out.2]; rfl, rfl⟩
  by_cases d' : 97 ≤ c ∧ c ≤ 102
  · obtain ⟨d1, d2⟩ := d'
    have E : Hid (hexV c = c - 97 + 10 ∧ hex c = true) := Lib.hid (by
      have e : dig c = false := by simp [dig]; omega
      refine ⟨?_, by simp [hex, e, d1, d2]⟩
      unfold hexV
      rw [e, if_neg (by simp), if_pos ⟨d1, d2⟩]; omega)
    have q : ¬ c ≤ 57 := by omega
    clear d
    go_enter Tryd.func50, Tryd.ntmps50
    go_wp2
    go_ret2
    exact ⟨by rw [E.out.1, E.out.2]; rfl, rfl⟩
  by_cases d'' : 65 ≤ c ∧ c ≤ 70
  · obtain ⟨d1, d2⟩ := d''
    have E : Hid (hexV c = c - 65 + 10 ∧ hex c = true) := Lib.hid (by
      have e : dig c = false := by simp [dig]; omega
      refine ⟨?_, by simp [hex, e, d1, d2]⟩
      unfold hexV
      rw [e, if_neg (by simp), if_neg (by omega), if_pos ⟨d1, d2⟩]; omega)
    have q : ¬ c ≤ 57 := by omega
    have q' : ¬ 97 ≤ c := by omega
    clear d d'
    go_enter Tryd.func50, Tryd.ntmps50
    go_wp2
    go_ret2
    exact ⟨by rw [E.out.1, E.out.2]; rfl, rfl⟩
  have E : Hid (hexV c = 0 ∧ hex c = false) := Lib.hid (by
    have e : dig c = false := by simp [dig]; omega
    refine ⟨?_, by simp [hex, e]; omega⟩
    unfold hexV
    rw [e, if_neg (by simp), if_neg d', if_neg d''])
  by_cases e1 : 48 ≤ c <;> by_cases e2 : 97 ≤ c <;> by_cases e3 : 65 ≤ c
  all_goals first | (exfalso; omega) | skip
  all_goals
    have q1 : ¬ (48 ≤ c ∧ c ≤ 57) := d
    have q2 : ¬ (97 ≤ c ∧ c ≤ 102) := d'
    have q3 : ¬ (65 ≤ c ∧ c ≤ 70) := d''
    clear d d' d''
    go_enter Tryd.func50, Tryd.ntmps50
    go_wp2
    all_goals go_ret2
    all_goals exact ⟨by rw [E.out.1, E.out.2]; rfl, rfl⟩

def isB (c k : Int) : Bool := c == k
set_option maxHeartbeats 2000000 in
theorem escape_any (g : Nat) (s : ByteArray) (a : Nat) (l : L) (w : World) (hs : s.size ≤ 2147483647) (h : Rd w g s a l) :
    Calls Tryd.prog 36 #[.pointer (some ⟨g, 0, none⟩)] w (PostN g s w (esc l)) := by
  have H := Lib.hid h
  have HB := Lib.hid (But.refl g w)
  have c1 := h.cell1
  have f1 := h.frozen1
  clear h
  cases l with
  | nil =>
    go_enter Tryd.func36, Tryd.ntmps36
    go_wp2_with fail
    refine (here_any g s _ _ _ hs H.out).mono ?_
    rw [show hd ([] : L) = 0 from rfl]
    rintro e w' ⟨rfl, n0, rfl⟩
    go_wp2
    go_ret
    exact PostN.no (H.out.drew _) (HB.out.drewN _) rfl
  | cons c t =>
    have hr := H.out.range
    have hl := H.out.len
    simp only [List.length_cons] at hl
    by_cases hp : plainEsc c = true
    · have HE : Hid (esc (c :: t) = some t) := Lib.hid (by simp [esc, hp])
      simp only [plainEsc, Bool.or_eq_true, beq_iff_eq] at hp
      rcases hp with ((((((rfl | rfl) | rfl) | rfl) | rfl) | rfl) | rfl) | rfl
      all_goals
        go_enter Tryd.func36, Tryd.ntmps36
        go_wp2_with fail
        refine (here_any g s _ _ _ hs H.out).mono ?_
        rw [show ∀ c : Int, hd (c :: t) = c from fun _ => rfl]
        rintro e w' ⟨rfl, n0, rfl⟩
        go_wp2
        go_ret
        exact PostN.ok (H.out.drew n0).step ((HB.out.drewN n0).set 1 _) HE.out
    · have hp' := hp
      simp only [plainEsc, Bool.or_eq_true, beq_iff_eq, not_or] at hp'
      obtain ⟨⟨⟨⟨⟨⟨⟨p1, p2⟩, p3⟩, p4⟩, p5⟩, p6⟩, p7⟩, p8⟩ := hp'
      have b1 : (c == 34) = false := beq_eq_false_iff_ne.mpr p1
      have b2 : (c == 92) = false := beq_eq_false_iff_ne.mpr p2
      have b3 : (c == 47) = false := beq_eq_false_iff_ne.mpr p3
      have b4 : (c == 98) = false := beq_eq_false_iff_ne.mpr p4
      have b5 : (c == 102) = false := beq_eq_false_iff_ne.mpr p5
      have b6 : (c == 110) = false := beq_eq_false_iff_ne.mpr p6
      have b7 : (c == 114) = false := beq_eq_false_iff_ne.mpr p7
      have b8 : (c == 116) = false := beq_eq_false_iff_ne.mpr p8
      clear p1 p2 p3 p4 p5 p6 p7 p8
      by_cases hu : c = 117
      · have b9 : (c == 117) = true := beq_iff_eq.mpr hu
        have HE : Hid (esc (c :: t) = hexes 4 t) := Lib.hid (by simp only [esc]; rw [if_neg hp, if_pos hu])
        clear hp hu
        go_enter Tryd.func36, Tryd.ntmps36
        go_wp2_with fail
        refine (here_any g s _ _ _ hs H.out).mono ?_
        rw [show hd (c :: t) = c from rfl]
        rintro e w' ⟨rfl, n0, rfl⟩
        go_wp2
        have H1 := Lib.hid (H.out.drew n0).step
        have HB1 := Lib.hid ((HB.out.drewN n0).set 1 (.int .i64 ((a : Int) + 1)))
        clear H HB c1 f1 b1 b2 b3 b4 b5 b6 b7 b8 b9
        go_loopg [3] 4 (fun kq v w' => Hid (∃ k a' l', kq + k = 4 ∧ v = .int .i64 (k : Nat) ∧ Rd w' g s a' l' ∧ hexes kq l' = hexes 4 t ∧ But g w w'))
        case atStart => exact Lib.hid ⟨0, a + 1, t, rfl, rfl, H1.out, rfl, HB1.out⟩
        case round =>
          obtain ⟨k, a', l', hk, rfl, hr', he, hb'⟩ := hrel.out
          clear hrel
          have HK := Lib.hid hk
          have H := Lib.hid hr'
          have HB := Lib.hid hb'
          have HX := Lib.hid he
          have hk4 : k ≤ 4 := by omega
          clear hk hr' hb' he
          by_cases hlt : k < 4
          · obtain ⟨m, hm⟩ : ∃ m, gk = m + 1 := ⟨gk - 1, by have := HK.out; omega⟩
            cases l' with
            | nil =>
              have HN : Hid (esc (c :: t) = none) := Lib.hid (by rw [HE.out, ← HX.out, hm]; rfl)
              clear hm
              go_wp2_with (first | (go_at_call 52; refine (here_any g s _ _ _ hs H.out).mono ?_; rw [show hd ([] : L) = 0 from rfl]; rintro e w' ⟨rfl, n1, rfl⟩) | (go_at_call 50; refine (hexDigit_any 0 (by omega) (by omega) _).mono ?_; rw [show hexV 0 = 0 from rfl, show hex 0 = false from rfl]; rintro e w' ⟨rfl, rfl⟩))
              go_ret
              exact PostN.no (H.out.drew _) (HB.out.drewN _) HN.out
            | cons x r =>
              have hx := H.out.range
              have c1 := H.out.cell1
              have f1 := H.out.frozen1
              have hl2 := H.out.len
              simp only [List.length_cons] at hl2
              cases hh : hex x with
              | false =>
                have HN : Hid (esc (c :: t) = none) := Lib.hid (by rw [HE.out, ← HX.out, hm]; simp [hexes, hh])
                have HH := Lib.hid hh
                clear hm hh
                go_wp2_with (first | (go_at_call 52; refine (here_any g s _ _ _ hs H.out).mono ?_; rw [show hd (x :: r) = x from rfl]; rintro e w' ⟨rfl, n1, rfl⟩) | (go_at_call 50; refine (hexDigit_any x hx.1 hx.2 _).mono ?_; rw [HH.out]; rintro e w' ⟨rfl, rfl⟩))
                go_ret
                exact PostN.no (H.out.drew _) (HB.out.drewN _) HN.out
              | true =>
                have HH := Lib.hid hh
                have HY : Hid (hexes m r = hexes 4 t) := Lib.hid (by rw [← HX.out, hm]; simp [hexes, hh])
                have HM := Lib.hid hm
                clear hm hh
                go_wp2_with (first | (go_at_call 52; refine (here_any g s _ _ _ hs H.out).mono ?_; rw [show hd (x :: r) = x from rfl]; rintro e w' ⟨rfl, n1, rfl⟩) | (go_at_call 50; refine (hexDigit_any x hx.1 hx.2 _).mono ?_; rw [HH.out]; rintro e w' ⟨rfl, rfl⟩))
                go_roundg m
                case rel => exact Lib.hid ⟨k + 1, a' + 1, r, by have := HK.out; have := HM.out; omega, by go_num, (H.out.drew n1).step, HY.out, (HB.out.drewN n1).set 1 _⟩
                case measure => have := HM.out; omega
          · obtain rfl : k = 4 := by omega
            have HG : Hid (gk = 0) := Lib.hid (by have := HK.out; omega)
            have HS : Hid (esc (c :: t) = some l') := Lib.hid (by rw [HE.out, ← HX.out, HG.out]; rfl)
            go_wp2
            go_ret
            exact PostN.ok H.out HB.out HS.out
      · have b9 : (c == 117) = false := beq_eq_false_iff_ne.mpr hu
        have HE : Hid (esc (c :: t) = none) := Lib.hid (by simp [esc, hp, hu])
        clear hp hu
        go_enter Tryd.func36, Tryd.ntmps36
        go_wp2_with fail
        refine (here_any g s _ _ _ hs H.out).mono ?_
        rw [show hd (c :: t) = c from rfl]
        rintro e w' ⟨rfl, n0, rfl⟩
        go_wp2
        go_ret
        exact PostN.no (H.out.drew _) (HB.out.drewN _) HE.out

/-- quoted: the first mark stands here. -/
theorem quoted_any (g : Nat) (s : ByteArray) (a : Nat) (c : Int) (t : L) (w : World) (hs : s.size ≤ 2147483647) (h : Rd w g s a (c :: t)) :
    Calls Tryd.prog 61 #[.pointer (some ⟨g, 0, none⟩)] w (PostN g s w (str t)) := by
  have c1 := h.cell1
  have f1 := h.frozen1
  have hl := h.len
  simp only [List.length_cons] at hl
  have H1 := Lib.hid h.step
  have HB1 := Lib.hid ((But.refl g w).set 1 (.int .i64 ((a : Int) + 1)))
  clear h
  go_enter Tryd.func61, Tryd.ntmps61
  go_wp2
  clear c1 f1
  go_loopg [] t.length (fun kq w' => Hid (∃ a' l', l'.length = kq ∧ Rd w' g s a' l' ∧ str l' = str t ∧ But g w w'))
  case atStart => exact Lib.hid ⟨a + 1, t, rfl, H1.out, rfl, HB1.out⟩
  case round =>
    obtain ⟨a', l', hk, hr', he, hb'⟩ := hrel.out
    clear hrel H1 HB1
    have hl' := hr'.len
    have c0 := hr'.cell0
    have c1 := hr'.cell1
    have f1 := hr'.frozen1
    have HK := Lib.hid hk
    have H := Lib.hid hr'
    have HB := Lib.hid hb'
    have HX := Lib.hid he
    clear hk hr' hb' he
    cases l' with
    | nil =>
      obtain rfl : a' = s.size := by simpa using hl'
      clear hl'
      go_wp2
      go_quiet (fail)
      go_wp2
      go_ret
      exact PostN.no (H.out.drew _) (HB.out.drewN _) (by rw [← HX.out, str_nil])
    | cons x r =>
      simp only [List.length_cons] at hl'
      have hlt : a' < s.size := by omega
      have hb := H.out.byte hlt
      have hx := H.out.range
      have HX' := Lib.hid (HX.out.symm.trans (str_cons x r))
      by_cases q1 : x = 34
      · have b1 : (((s[a']'hlt).toNat : Int) == 34) = true := by rw [hb]; exact beq_iff_eq.mpr q1
        have HN : Hid (str t = some r) := Lib.hid (by rw [HX'.out, if_pos q1])
        clear hb hl' q1
        go_wp2
        go_quiet (fail)
        go_wp2
        go_quiet (fail)
        go_wp2
        go_ret
        exact PostN.ok (H.out.drew _).step ((HB.out.drewN _).set 1 _) HN.out
      have b1 : (((s[a']'hlt).toNat : Int) == 34) = false := by rw [hb]; exact beq_eq_false_iff_ne.mpr q1
      by_cases q2 : x < 32
      · have b2 : decide (((s[a']'hlt).toNat : Int) < 32) = true := by rw [hb]; exact decide_eq_true q2
        have HN : Hid (str t = none) := Lib.hid (by rw [HX'.out, if_neg q1, if_pos q2])
        clear hb hl' q1 q2
        go_wp2
        go_quiet (fail)
        go_wp2
        go_quiet (fail)
        go_wp2
        go_ret
        exact PostN.no (H.out.drew _).step ((HB.out.drewN _).set 1 _) HN.out
      have b2 : decide (((s[a']'hlt).toNat : Int) < 32) = false := by rw [hb]; exact decide_eq_false q2
      by_cases q3 : x = 92
      · have b3 : (((s[a']'hlt).toNat : Int) == 92) = true := by rw [hb]; exact beq_iff_eq.mpr q3
        have HN : Hid (str t = (esc r).bind str) := Lib.hid (by rw [HX'.out, if_neg q1, if_neg q2, if_pos q3])
        clear hb hl' q1 q2 q3
        cases he : esc r with
        | none =>
          have HE := Lib.hid he
          clear he
          go_wp2
          go_quiet (fail)
          go_wp2
          go_quiet (fail)
          go_wp2_with fail
          refine (escape_any g s _ r _ hs (H.out.drew _).step).mono ?_
          rw [HE.out]
          rintro e w' ⟨b, t', hr2, hb2, rfl, hu⟩
          have H2 := Lib.hid hr2
          have HB2 := Lib.hid (((HB.out.drewN _).set 1 _).trans hb2)
          clear hr2 hb2 hu
          go_wp2
          go_ret
          exact PostN.no H2.out HB2.out (by rw [HN.out, HE.out]; rfl)
        | some u =>
          have HE := Lib.hid he
          clear he
          go_wp2
          go_quiet (fail)
          go_wp2
          go_quiet (fail)
          go_wp2_with fail
          refine (escape_any g s _ r _ hs (H.out.drew _).step).mono ?_
          rw [HE.out]
          rintro e w' ⟨b, t', hr2, hb2, rfl, hu⟩
          obtain rfl := hu u rfl
          have H2 := Lib.hid hr2
          have HB2 := Lib.hid (((HB.out.drewN _).set 1 _).trans hb2)
          clear hr2 hb2 hu
          go_wp2
          go_roundg t'.length
          case rel => exact Lib.hid ⟨b, t', rfl, H2.out, by rw [HN.out, HE.out]; rfl, HB2.out⟩
          case measure => have := HK.out; have := esc_lt HE.out; simp only [List.length_cons] at *; omega
      · have b3 : (((s[a']'hlt).toNat : Int) == 92) = false := by rw [hb]; exact beq_eq_false_iff_ne.mpr q3
        have HN : Hid (str t = str r) := Lib.hid (by rw [HX'.out, if_neg q1, if_neg q2, if_neg q3])
        clear hb hl' q1 q2 q3
        go_wp2
        go_quiet (fail)
        go_wp2
        go_quiet (fail)
        go_wp2
        go_roundg r.length
        case rel => exact Lib.hid ⟨a' + 1, r, rfl, (H.out.drew _).step, HN.out.symm, (HB.out.drewN _).set 1 _⟩
        case measure => have := HK.out; simp only [List.length_cons] at *; omega
end Go.Proofs.YtkmdcckiehbcmaaDoor.J
