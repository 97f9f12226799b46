/- The walks of the reader's numbers, escapes and strings. -/
import Derived.Test.YtkmdcckiehbcmaaDoorJ2
set_option linter.unusedVariables false
set_option linter.unusedSimpArgs false
namespace Go.Proofs.YtkmdcckiehbcmaaDoor.J
open Go.RowKit Go.Proofs.YtkmdcckiehbcmaaDoorW.PrintWords Go.Proofs.YtkmdcckiehbcmaaDoorW.PrintLast Go.Proofs.YtkmdcckiehbcmaaDoorW.PrintMore Go.Proofs.YtkmdcckiehbcmaaDoor.Aid

/-- A reader's function hands back whether it read something; where it did not, the reader stands somewhere. -/
def PostN (g : Nat) (s : ByteArray) (w : World) (r : Option L) (e : Ending) (w' : World) : Prop := ∃ b t, Rd w' g s b t ∧ But g w w' ∧ e = .returned (.bool r.isSome) ∧ ∀ u, r = some u → t = u
theorem PostN.ok {g : Nat} {s : ByteArray} {w w' : World} {r : Option L} {b : Nat} {t : L} (hr : Rd w' g s b t) (hb : But g w w') (hn : r = some t) : PostN g s w r (.returned (.bool true)) w' := by
  subst hn; exact ⟨b, t, hr, hb, rfl, fun u hu => Option.some.inj hu⟩
theorem PostN.no {g : Nat} {s : ByteArray} {w w' : World} {r : Option L} {b : Nat} {t : L} (hr : Rd w' g s b t) (hb : But g w w') (hn : r = none) : PostN g s w r (.returned (.bool false)) w' := by
  subst hn; exact ⟨b, t, hr, hb, rfl, fun u hu => by cases hu⟩

set_option maxHeartbeats 4000000 in
theorem number_any (g : Nat) (s : ByteArray) (a : Nat) (l : L) (w : World) (hs : s.size ≤ 2147483647) (h : Rd w g s a l) :
    Calls Tryd.prog 62 #[.pointer (some ⟨g, 0, none⟩)] w (PostN g s w (num l)) := by
  have H := Lib.hid h
  have HB := Lib.hid (But.refl g w)
  clear h
  go_enter Tryd.func62, Tryd.ntmps62
  go_wp2_with fail
  refine (take_any g s _ (l) 45 _ hs H.out).mono ?_
  rintro e w' ⟨b, hr, hb, rfl⟩
  replace HB := Lib.hid (HB.out.trans hb)
  clear hb H
  have H := Lib.hid (show Rd _ g s b (opt 45 l) from hr)
  clear hr
  have EO := Lib.hid (show num l = (whole (opt 45 l)).bind frac from rfl)
  generalize opt 45 l = m at H EO
  go_wp2_with fail
  refine (take_any g s _ (m) 48 _ hs H.out).mono ?_
  rintro e w' ⟨b, hr, hb, rfl⟩
  replace HB := Lib.hid (HB.out.trans hb)
  clear hb H
  cases F1 : take 48 (m) with
  | some t1 =>
    rw [F1] at hr
    have H := Lib.hid (show Rd _ g s b t1 from hr)
    replace F1 := Lib.hid F1
    clear hr
    go_wp2_with fail
    refine (take_any g s _ (t1) 46 _ hs H.out).mono ?_
    rintro e w' ⟨b, hr, hb, rfl⟩
    replace HB := Lib.hid (HB.out.trans hb)
    clear hb H
    cases F2 : take 46 (t1) with
    | some t2 =>
      rw [F2] at hr
      have H := Lib.hid (show Rd _ g s b t2 from hr)
      replace F2 := Lib.hid F2
      clear hr
      go_wp2_with fail
      refine (digits_any g s _ (t2) _ hs H.out).mono ?_
      rintro e w' ⟨b, hr, hb, rfl⟩
      replace HB := Lib.hid (HB.out.trans hb)
      clear hb H
      cases F3 : digits (t2) with
      | some t3 =>
        rw [F3] at hr
        have H := Lib.hid (show Rd _ g s b t3 from hr)
        replace F3 := Lib.hid F3
        clear hr
        go_wp2_with fail
        refine (take_any g s _ (t3) 101 _ hs H.out).mono ?_
        rintro e w' ⟨b, hr, hb, rfl⟩
        replace HB := Lib.hid (HB.out.trans hb)
        clear hb H
        cases F4 : take 101 (t3) with
        | some t4 =>
          rw [F4] at hr
          have H := Lib.hid (show Rd _ g s b t4 from hr)
          replace F4 := Lib.hid F4
          clear hr
          go_wp2_with fail
          refine (take_any g s _ (t4) 43 _ hs H.out).mono ?_
          rintro e w' ⟨b, hr, hb, rfl⟩
          replace HB := Lib.hid (HB.out.trans hb)
          clear hb H
          cases F5 : take 43 (t4) with
          | some t5 =>
            rw [F5] at hr
            have H := Lib.hid (show Rd _ g s b t5 from hr)
            replace F5 := Lib.hid F5
            clear hr
            go_wp2_with fail
            refine (digits_any g s _ (t5) _ hs H.out).mono ?_
            rintro e w' ⟨b, hr, hb, rfl⟩
            replace HB := Lib.hid (HB.out.trans hb)
            clear hb H
            cases F6 : digits (t5) with
            | some t6 =>
              rw [F6] at hr
              have H := Lib.hid (show Rd _ g s b t6 from hr)
              replace F6 := Lib.hid F6
              clear hr
              go_wp2
              go_ret
              have eEO := EO.out
              have eF1 := F1.out
              have eF2 := F2.out
              have eF3 := F3.out
              have eF4 := F4.out
              have eF5 := F5.out
              have eF6 := F6.out
              exact PostN.ok H.out HB.out (by rw [eEO]; simp [whole, frac, expo, expTail, opt, eF1, eF2, eF3, eF4, eF5, eF6])
            | none =>
              rw [F6] at hr
              have H := Lib.hid (show Rd _ g s b (t5) from hr)
              replace F6 := Lib.hid F6
              clear hr
              go_wp2
              go_ret
              have eEO := EO.out
              have eF1 := F1.out
              have eF2 := F2.out
              have eF3 := F3.out
              have eF4 := F4.out
              have eF5 := F5.out
              have eF6 := F6.out
              exact PostN.no H.out HB.out (by rw [eEO]; simp [whole, frac, expo, expTail, opt, eF1, eF2, eF3, eF4, eF5, eF6])
          | none =>
            rw [F5] at hr
            have H := Lib.hid (show Rd _ g s b (t4) from hr)
            replace F5 := Lib.hid F5
            clear hr
            go_wp2_with fail
            refine (take_any g s _ (t4) 45 _ hs H.out).mono ?_
            rintro e w' ⟨b, hr, hb, rfl⟩
            replace HB := Lib.hid (HB.out.trans hb)
            clear hb H
            cases F7 : take 45 (t4) with
            | some t7 =>
              rw [F7] at hr
              have H := Lib.hid (show Rd _ g s b t7 from hr)
              replace F7 := Lib.hid F7
              clear hr
              go_wp2_with fail
              refine (digits_any g s _ (t7) _ hs H.out).mono ?_
              rintro e w' ⟨b, hr, hb, rfl⟩
              replace HB := Lib.hid (HB.out.trans hb)
              clear hb H
              cases F8 : digits (t7) with
              | some t8 =>
                rw [F8] at hr
                have H := Lib.hid (show Rd _ g s b t8 from hr)
                replace F8 := Lib.hid F8
                clear hr
                go_wp2
                go_ret
                have eEO := EO.out
                have eF1 := F1.out
                have eF2 := F2.out
                have eF3 := F3.out
                have eF4 := F4.out
                have eF5 := F5.out
                have eF7 := F7.out
                have eF8 := F8.out
                exact PostN.ok H.out HB.out (by rw [eEO]; simp [whole, frac, expo, expTail, opt, eF1, eF2, eF3, eF4, eF5, eF7, eF8])
              | none =>
                rw [F8] at hr
                have H := Lib.hid (show Rd _ g s b (t7) from hr)
                replace F8 := Lib.hid F8
                clear hr
                go_wp2
                go_ret
                have eEO := EO.out
                have eF1 := F1.out
                have eF2 := F2.out
                have eF3 := F3.out
                have eF4 := F4.out
                have eF5 := F5.out
                have eF7 := F7.out
                have eF8 := F8.out
                exact PostN.no H.out HB.out (by rw [eEO]; simp [whole, frac, expo, expTail, opt, eF1, eF2, eF3, eF4, eF5, eF7, eF8])
            | none =>
              rw [F7] at hr
              have H := Lib.hid (show Rd _ g s b (t4) from hr)
              replace F7 := Lib.hid F7
              clear hr
              go_wp2_with fail
              refine (digits_any g s _ (t4) _ hs H.out).mono ?_
              rintro e w' ⟨b, hr, hb, rfl⟩
              replace HB := Lib.hid (HB.out.trans hb)
              clear hb H
              cases F9 : digits (t4) with
              | some t9 =>
                rw [F9] at hr
                have H := Lib.hid (show Rd _ g s b t9 from hr)
                replace F9 := Lib.hid F9
                clear hr
                go_wp2
                go_ret
                have eEO := EO.out
                have eF1 := F1.out
                have eF2 := F2.out
                have eF3 := F3.out
                have eF4 := F4.out
                have eF5 := F5.out
                have eF7 := F7.out
                have eF9 := F9.out
                exact PostN.ok H.out HB.out (by rw [eEO]; simp [whole, frac, expo, expTail, opt, eF1, eF2, eF3, eF4, eF5, eF7, eF9])
              | none =>
                rw [F9] at hr
                have H := Lib.hid (show Rd _ g s b (t4) from hr)
                replace F9 := Lib.hid F9
                clear hr
                go_wp2
                go_ret
                have eEO := EO.out
                have eF1 := F1.out
                have eF2 := F2.out
                have eF3 := F3.out
                have eF4 := F4.out
                have eF5 := F5.out
                have eF7 := F7.out
                have eF9 := F9.out
                exact PostN.no H.out HB.out (by rw [eEO]; simp [whole, frac, expo, expTail, opt, eF1, eF2, eF3, eF4, eF5, eF7, eF9])
        | none =>
          rw [F4] at hr
          have H := Lib.hid (show Rd _ g s b (t3) from hr)
          replace F4 := Lib.hid F4
          clear hr
          go_wp2_with fail
          refine (take_any g s _ (t3) 69 _ hs H.out).mono ?_
          rintro e w' ⟨b, hr, hb, rfl⟩
          replace HB := Lib.hid (HB.out.trans hb)
          clear hb H
          cases F10 : take 69 (t3) with
          | some t10 =>
            rw [F10] at hr
            have H := Lib.hid (show Rd _ g s b t10 from hr)
            replace F10 := Lib.hid F10
            clear hr
            go_wp2_with fail
            refine (take_any g s _ (t10) 43 _ hs H.out).mono ?_
            rintro e w' ⟨b, hr, hb, rfl⟩
            replace HB := Lib.hid (HB.out.trans hb)
            clear hb H
            cases F11 : take 43 (t10) with
            | some t11 =>
              rw [F11] at hr
              have H := Lib.hid (show Rd _ g s b t11 from hr)
              replace F11 := Lib.hid F11
              clear hr
              go_wp2_with fail
              refine (digits_any g s _ (t11) _ hs H.out).mono ?_
              rintro e w' ⟨b, hr, hb, rfl⟩
              replace HB := Lib.hid (HB.out.trans hb)
              clear hb H
              cases F12 : digits (t11) with
              | some t12 =>
                rw [F12] at hr
                have H := Lib.hid (show Rd _ g s b t12 from hr)
                replace F12 := Lib.hid F12
                clear hr
                go_wp2
                go_ret
                have eEO := EO.out
                have eF1 := F1.out
                have eF2 := F2.out
                have eF3 := F3.out
                have eF4 := F4.out
                have eF10 := F10.out
                have eF11 := F11.out
                have eF12 := F12.out
                exact PostN.ok H.out HB.out (by rw [eEO]; simp [whole, frac, expo, expTail, opt, eF1, eF2, eF3, eF4, eF10, eF11, eF12])
              | none =>
                rw [F12] at hr
                have H := Lib.hid (show Rd _ g s b (t11) from hr)
                replace F12 := Lib.hid F12
                clear hr
                go_wp2
                go_ret
                have eEO := EO.out
                have eF1 := F1.out
                have eF2 := F2.out
                have eF3 := F3.out
                have eF4 := F4.out
                have eF10 := F10.out
                have eF11 := F11.out
                have eF12 := F12.out
                exact PostN.no H.out HB.out (by rw [eEO]; simp [whole, frac, expo, expTail, opt, eF1, eF2, eF3, eF4, eF10, eF11, eF12])
            | none =>
              rw [F11] at hr
              have H := Lib.hid (show Rd _ g s b (t10) from hr)
              replace F11 := Lib.hid F11
              clear hr
              go_wp2_with fail
              refine (take_any g s _ (t10) 45 _ hs H.out).mono ?_
              rintro e w' ⟨b, hr, hb, rfl⟩
              replace HB := Lib.hid (HB.out.trans hb)
              clear hb H
              cases F13 : take 45 (t10) with
              | some t13 =>
                rw [F13] at hr
                have H := Lib.hid (show Rd _ g s b t13 from hr)
                replace F13 := Lib.hid F13
                clear hr
                go_wp2_with fail
                refine (digits_any g s _ (t13) _ hs H.out).mono ?_
                rintro e w' ⟨b, hr, hb, rfl⟩
                replace HB := Lib.hid (HB.out.trans hb)
                clear hb H
                cases F14 : digits (t13) with
                | some t14 =>
                  rw [F14] at hr
                  have H := Lib.hid (show Rd _ g s b t14 from hr)
                  replace F14 := Lib.hid F14
                  clear hr
                  go_wp2
                  go_ret
                  have eEO := EO.out
                  have eF1 := F1.out
                  have eF2 := F2.out
                  have eF3 := F3.out
                  have eF4 := F4.out
                  have eF10 := F10.out
                  have eF11 := F11.out
                  have eF13 := F13.out
                  have eF14 := F14.out
                  exact PostN.ok H.out HB.out (by rw [eEO]; simp [whole, frac, expo, expTail, opt, eF1, eF2, eF3, eF4, eF10, eF11, eF13, eF14])
                | none =>
                  rw [F14] at hr
                  have H := Lib.hid (show Rd _ g s b (t13) from hr)
                  replace F14 := Lib.hid F14
                  clear hr
                  go_wp2
                  go_ret
                  have eEO := EO.out
                  have eF1 := F1.out
                  have eF2 := F2.out
                  have eF3 := F3.out
                  have eF4 := F4.out
                  have eF10 := F10.out
                  have eF11 := F11.out
                  have eF13 := F13.out
                  have eF14 := F14.out
                  exact PostN.no H.out HB.out (by rw [eEO]; simp [whole, frac, expo, expTail, opt, eF1, eF2, eF3, eF4, eF10, eF11, eF13, eF14])
              | none =>
                rw [F13] at hr
                have H := Lib.hid (show Rd _ g s b (t10) from hr)
                replace F13 := Lib.hid F13
                clear hr
                go_wp2_with fail
                refine (digits_any g s _ (t10) _ hs H.out).mono ?_
                rintro e w' ⟨b, hr, hb, rfl⟩
                replace HB := Lib.hid (HB.out.trans hb)
                clear hb H
                cases F15 : digits (t10) with
                | some t15 =>
                  rw [F15] at hr
                  have H := Lib.hid (show Rd _ g s b t15 from hr)
                  replace F15 := Lib.hid F15
                  clear hr
                  go_wp2
                  go_ret
                  have eEO := EO.out
                  have eF1 := F1.out
                  have eF2 := F2.out
                  have eF3 := F3.out
                  have eF4 := F4.out
                  have eF10 := F10.out
                  have eF11 := F11.out
                  have eF13 := F13.out
                  have eF15 := F15.out
                  exact PostN.ok H.out HB.out (by rw [eEO]; simp [whole, frac, expo, expTail, opt, eF1, eF2, eF3, eF4, eF10, eF11, eF13, eF15])
                | none =>
                  rw [F15] at hr
                  have H := Lib.hid (show Rd _ g s b (t10) from hr)
                  replace F15 := Lib.hid F15
                  clear hr
                  go_wp2
                  go_ret
                  have eEO := EO.out
                  have eF1 := F1.out
                  have eF2 := F2.out
                  have eF3 := F3.out
                  have eF4 := F4.out
                  have eF10 := F10.out
                  have eF11 := F11.out
                  have eF13 := F13.out
                  have eF15 := F15.out
                  exact PostN.no H.out HB.out (by rw [eEO]; simp [whole, frac, expo, expTail, opt, eF1, eF2, eF3, eF4, eF10, eF11, eF13, eF15])
          | none =>
            rw [F10] at hr
            have H := Lib.hid (show Rd _ g s b (t3) from hr)
            replace F10 := Lib.hid F10
            clear hr
            go_wp2
            go_ret
            have eEO := EO.out
            have eF1 := F1.out
            have eF2 := F2.out
            have eF3 := F3.out
            have eF4 := F4.out
            have eF10 := F10.out
            exact PostN.ok H.out HB.out (by rw [eEO]; simp [whole, frac, expo, expTail, opt, eF1, eF2, eF3, eF4, eF10])
      | none =>
        rw [F3] at hr
        have H := Lib.hid (show Rd _ g s b (t2) from hr)
        replace F3 := Lib.hid F3
        clear hr
        go_wp2
        go_ret
        have eEO := EO.out
        have eF1 := F1.out
        have eF2 := F2.out
        have eF3 := F3.out
        exact PostN.no H.out HB.out (by rw [eEO]; simp [whole, frac, expo, expTail, opt, eF1, eF2, eF3])
    | none =>
      rw [F2] at hr
      have H := Lib.hid (show Rd _ g s b (t1) from hr)
      replace F2 := Lib.hid F2
      clear hr
      go_wp2_with fail
      refine (take_any g s _ (t1) 101 _ hs H.out).mono ?_
      rintro e w' ⟨b, hr, hb, rfl⟩
      replace HB := Lib.hid (HB.out.trans hb)
      clear hb H
      cases F16 : take 101 (t1) with
      | some t16 =>
        rw [F16] at hr
        have H := Lib.hid (show Rd _ g s b t16 from hr)
        replace F16 := Lib.hid F16
        clear hr
        go_wp2_with fail
        refine (take_any g s _ (t16) 43 _ hs H.out).mono ?_
        rintro e w' ⟨b, hr, hb, rfl⟩
        replace HB := Lib.hid (HB.out.trans hb)
        clear hb H
        cases F17 : take 43 (t16) with
        | some t17 =>
          rw [F17] at hr
          have H := Lib.hid (show Rd _ g s b t17 from hr)
          replace F17 := Lib.hid F17
          clear hr
          go_wp2_with fail
          refine (digits_any g s _ (t17) _ hs H.out).mono ?_
          rintro e w' ⟨b, hr, hb, rfl⟩
          replace HB := Lib.hid (HB.out.trans hb)
          clear hb H
          cases F18 : digits (t17) with
          | some t18 =>
            rw [F18] at hr
            have H := Lib.hid (show Rd _ g s b t18 from hr)
            replace F18 := Lib.hid F18
            clear hr
            go_wp2
            go_ret
            have eEO := EO.out
            have eF1 := F1.out
            have eF2 := F2.out
            have eF16 := F16.out
            have eF17 := F17.out
            have eF18 := F18.out
            exact PostN.ok H.out HB.out (by rw [eEO]; simp [whole, frac, expo, expTail, opt, eF1, eF2, eF16, eF17, eF18])
          | none =>
            rw [F18] at hr
            have H := Lib.hid (show Rd _ g s b (t17) from hr)
            replace F18 := Lib.hid F18
            clear hr
            go_wp2
            go_ret
            have eEO := EO.out
            have eF1 := F1.out
            have eF2 := F2.out
            have eF16 := F16.out
            have eF17 := F17.out
            have eF18 := F18.out
            exact PostN.no H.out HB.out (by rw [eEO]; simp [whole, frac, expo, expTail, opt, eF1, eF2, eF16, eF17, eF18])
        | none =>
          rw [F17] at hr
          have H := Lib.hid (show Rd _ g s b (t16) from hr)
          replace F17 := Lib.hid F17
          clear hr
          go_wp2_with fail
          refine (take_any g s _ (t16) 45 _ hs H.out).mono ?_
          rintro e w' ⟨b, hr, hb, rfl⟩
          replace HB := Lib.hid (HB.out.trans hb)
          clear hb H
          cases F19 : take 45 (t16) with
          | some t19 =>
            rw [F19] at hr
            have H := Lib.hid (show Rd _ g s b t19 from hr)
            replace F19 := Lib.hid F19
            clear hr
            go_wp2_with fail
            refine (digits_any g s _ (t19) _ hs H.out).mono ?_
            rintro e w' ⟨b, hr, hb, rfl⟩
            replace HB := Lib.hid (HB.out.trans hb)
            clear hb H
            cases F20 : digits (t19) with
            | some t20 =>
              rw [F20] at hr
              have H := Lib.hid (show Rd _ g s b t20 from hr)
              replace F20 := Lib.hid F20
              clear hr
              go_wp2
              go_ret
              have eEO := EO.out
              have eF1 := F1.out
              have eF2 := F2.out
              have eF16 := F16.out
              have eF17 := F17.out
              have eF19 := F19.out
              have eF20 := F20.out
              exact PostN.ok H.out HB.out (by rw [eEO]; simp [whole, frac, expo, expTail, opt, eF1, eF2, eF16, eF17, eF19, eF20])
            | none =>
              rw [F20] at hr
              have H := Lib.hid (show Rd _ g s b (t19) from hr)
              replace F20 := Lib.hid F20
              clear hr
              go_wp2
              go_ret
              have eEO := EO.out
              have eF1 := F1.out
              have eF2 := F2.out
              have eF16 := F16.out
              have eF17 := F17.out
              have eF19 := F19.out
              have eF20 := F20.out
              exact PostN.no H.out HB.out (by rw [eEO]; simp [whole, frac, expo, expTail, opt, eF1, eF2, eF16, eF17, eF19, eF20])
          | none =>
            rw [F19] at hr
            have H := Lib.hid (show Rd _ g s b (t16) from hr)
            replace F19 := Lib.hid F19
            clear hr
            go_wp2_with fail
            refine (digits_any g s _ (t16) _ hs H.out).mono ?_
            rintro e w' ⟨b, hr, hb, rfl⟩
            replace HB := Lib.hid (HB.out.trans hb)
            clear hb H
            cases F21 : digits (t16) with
            | some t21 =>
              rw [F21] at hr
              have H := Lib.hid (show Rd _ g s b t21 from hr)
              replace F21 := Lib.hid F21
              clear hr
              go_wp2
              go_ret
              have eEO := EO.out
              have eF1 := F1.out
              have eF2 := F2.out
              have eF16 := F16.out
              have eF17 := F17.out
              have eF19 := F19.out
              have eF21 := F21.out
              exact PostN.ok H.out HB.out (by rw [eEO]; simp [whole, frac, expo, expTail, opt, eF1, eF2, eF16, eF17, eF19, eF21])
            | none =>
              rw [F21] at hr
              have H := Lib.hid (show Rd _ g s b (t16) from hr)
              replace F21 := Lib.hid F21
              clear hr
              go_wp2
              go_ret
              have eEO := EO.out
              have eF1 := F1.out
              have eF2 := F2.out
              have eF16 := F16.out
              have eF17 := F17.out
              have eF19 := F19.out
              have eF21 := F21.out
              exact PostN.no H.out HB.out (by rw [eEO]; simp [whole, frac, expo, expTail, opt, eF1, eF2, eF16, eF17, eF19, eF21])
      | none =>
        rw [F16] at hr
        have H := Lib.hid (show Rd _ g s b (t1) from hr)
        replace F16 := Lib.hid F16
        clear hr
        go_wp2_with fail
        refine (take_any g s _ (t1) 69 _ hs H.out).mono ?_
        rintro e w' ⟨b, hr, hb, rfl⟩
        replace HB := Lib.hid (HB.out.trans hb)
        clear hb H
        cases F22 : take 69 (t1) with
        | some t22 =>
          rw [F22] at hr
          have H := Lib.hid (show Rd _ g s b t22 from hr)
          replace F22 := Lib.hid F22
          clear hr
          go_wp2_with fail
          refine (take_any g s _ (t22) 43 _ hs H.out).mono ?_
          rintro e w' ⟨b, hr, hb, rfl⟩
          replace HB := Lib.hid (HB.out.trans hb)
          clear hb H
          cases F23 : take 43 (t22) with
          | some t23 =>
            rw [F23] at hr
            have H := Lib.hid (show Rd _ g s b t23 from hr)
            replace F23 := Lib.hid F23
            clear hr
            go_wp2_with fail
            refine (digits_any g s _ (t23) _ hs H.out).mono ?_
            rintro e w' ⟨b, hr, hb, rfl⟩
            replace HB := Lib.hid (HB.out.trans hb)
            clear hb H
            cases F24 : digits (t23) with
            | some t24 =>
              rw [F24] at hr
              have H := Lib.hid (show Rd _ g s b t24 from hr)
              replace F24 := Lib.hid F24
              clear hr
              go_wp2
              go_ret
              have eEO := EO.out
              have eF1 := F1.out
              have eF2 := F2.out
              have eF16 := F16.out
              have eF22 := F22.out
              have eF23 := F23.out
              have eF24 := F24.out
              exact PostN.ok H.out HB.out (by rw [eEO]; simp [whole, frac, expo, expTail, opt, eF1, eF2, eF16, eF22, eF23, eF24])
            | none =>
              rw [F24] at hr
              have H := Lib.hid (show Rd _ g s b (t23) from hr)
              replace F24 := Lib.hid F24
              clear hr
              go_wp2
              go_ret
              have eEO := EO.out
              have eF1 := F1.out
              have eF2 := F2.out
              have eF16 := F16.out
              have eF22 := F22.out
              have eF23 := F23.out
              have eF24 := F24.out
              exact PostN.no H.out HB.out (by rw [eEO]; simp [whole, frac, expo, expTail, opt, eF1, eF2, eF16, eF22, eF23, eF24])
          | none =>
            rw [F23] at hr
            have H := Lib.hid (show Rd _ g s b (t22) from hr)
            replace F23 := Lib.hid F23
            clear hr
            go_wp2_with fail
            refine (take_any g s _ (t22) 45 _ hs H.out).mono ?_
            rintro e w' ⟨b, hr, hb, rfl⟩
            replace HB := Lib.hid (HB.out.trans hb)
            clear hb H
            cases F25 : take 45 (t22) with
            | some t25 =>
              rw [F25] at hr
              have H := Lib.hid (show Rd _ g s b t25 from hr)
              replace F25 := Lib.hid F25
              clear hr
              go_wp2_with fail
              refine (digits_any g s _ (t25) _ hs H.out).mono ?_
              rintro e w' ⟨b, hr, hb, rfl⟩
              replace HB := Lib.hid (HB.out.trans hb)
              clear hb H
              cases F26 : digits (t25) with
              | some t26 =>
                rw [F26] at hr
                have H := Lib.hid (show Rd _ g s b t26 from hr)
                replace F26 := Lib.hid F26
                clear hr
                go_wp2
                go_ret
                have eEO := EO.out
                have eF1 := F1.out
                have eF2 := F2.out
                have eF16 := F16.out
                have eF22 := F22.out
                have eF23 := F23.out
                have eF25 := F25.out
                have eF26 := F26.out
                exact PostN.ok H.out HB.out (by rw [eEO]; simp [whole, frac, expo, expTail, opt, eF1, eF2, eF16, eF22, eF23, eF25, eF26])
              | none =>
                rw [F26] at hr
                have H := Lib.hid (show Rd _ g s b (t25) from hr)
                replace F26 := Lib.hid F26
                clear hr
                go_wp2
                go_ret
                have eEO := EO.out
                have eF1 := F1.out
                have eF2 := F2.out
                have eF16 := F16.out
                have eF22 := F22.out
                have eF23 := F23.out
                have eF25 := F25.out
                have eF26 := F26.out
                exact PostN.no H.out HB.out (by rw [eEO]; simp [whole, frac, expo, expTail, opt, eF1, eF2, eF16, eF22, eF23, eF25, eF26])
            | none =>
              rw [F25] at hr
              have H := Lib.hid (show Rd _ g s b (t22) from hr)
              replace F25 := Lib.hid F25
              clear hr
              go_wp2_with fail
              refine (digits_any g s _ (t22) _ hs H.out).mono ?_
              rintro e w' ⟨b, hr, hb, rfl⟩
              replace HB := Lib.hid (HB.out.trans hb)
              clear hb H
              cases F27 : digits (t22) with
              | some t27 =>
                rw [F27] at hr
                have H := Lib.hid (show Rd _ g s b t27 from hr)
                replace F27 := Lib.hid F27
                clear hr
                go_wp2
                go_ret
                have eEO := EO.out
                have eF1 := F1.out
                have eF2 := F2.out
                have eF16 := F16.out
                have eF22 := F22.out
                have eF23 := F23.out
                have eF25 := F25.out
                have eF27 := F27.out
                exact PostN.ok H.out HB.out (by rw [eEO]; simp [whole, frac, expo, expTail, opt, eF1, eF2, eF16, eF22, eF23, eF25, eF27])
              | none =>
                rw [F27] at hr
                have H := Lib.hid (show Rd _ g s b (t22) from hr)
                replace F27 := Lib.hid F27
                clear hr
                go_wp2
                go_ret
                have eEO := EO.out
                have eF1 := F1.out
                have eF2 := F2.out
                have eF16 := F16.out
                have eF22 := F22.out
                have eF23 := F23.out
                have eF25 := F25.out
                have eF27 := F27.out
                exact PostN.no H.out HB.out (by rw [eEO]; simp [whole, frac, expo, expTail, opt, eF1, eF2, eF16, eF22, eF23, eF25, eF27])
        | none =>
          rw [F22] at hr
          have H := Lib.hid (show Rd _ g s b (t1) from hr)
          replace F22 := Lib.hid F22
          clear hr
          go_wp2
          go_ret
          have eEO := EO.out
          have eF1 := F1.out
          have eF2 := F2.out
          have eF16 := F16.out
          have eF22 := F22.out
          exact PostN.ok H.out HB.out (by rw [eEO]; simp [whole, frac, expo, expTail, opt, eF1, eF2, eF16, eF22])
  | none =>
    rw [F1] at hr
    have H := Lib.hid (show Rd _ g s b (m) from hr)
    replace F1 := Lib.hid F1
    clear hr
    go_wp2_with fail
    refine (digits_any g s _ (m) _ hs H.out).mono ?_
    rintro e w' ⟨b, hr, hb, rfl⟩
    replace HB := Lib.hid (HB.out.trans hb)
    clear hb H
    cases F28 : digits (m) with
    | some t28 =>
      rw [F28] at hr
      have H := Lib.hid (show Rd _ g s b t28 from hr)
      replace F28 := Lib.hid F28
      clear hr
      go_wp2_with fail
      refine (take_any g s _ (t28) 46 _ hs H.out).mono ?_
      rintro e w' ⟨b, hr, hb, rfl⟩
      replace HB := Lib.hid (HB.out.trans hb)
      clear hb H
      cases F29 : take 46 (t28) with
      | some t29 =>
        rw [F29] at hr
        have H := Lib.hid (show Rd _ g s b t29 from hr)
        replace F29 := Lib.hid F29
        clear hr
        go_wp2_with fail
        refine (digits_any g s _ (t29) _ hs H.out).mono ?_
        rintro e w' ⟨b, hr, hb, rfl⟩
        replace HB := Lib.hid (HB.out.trans hb)
        clear hb H
        cases F30 : digits (t29) with
        | some t30 =>
          rw [F30] at hr
          have H := Lib.hid (show Rd _ g s b t30 from hr)
          replace F30 := Lib.hid F30
          clear hr
          go_wp2_with fail
          refine (take_any g s _ (t30) 101 _ hs H.out).mono ?_
          rintro e w' ⟨b, hr, hb, rfl⟩
          replace HB := Lib.hid (HB.out.trans hb)
          clear hb H
          cases F31 : take 101 (t30) with
          | some t31 =>
            rw [F31] at hr
            have H := Lib.hid (show Rd _ g s b t31 from hr)
            replace F31 := Lib.hid F31
            clear hr
            go_wp2_with fail
            refine (take_any g s _ (t31) 43 _ hs H.out).mono ?_
            rintro e w' ⟨b, hr, hb, rfl⟩
            replace HB := Lib.hid (HB.out.trans hb)
            clear hb H
            cases F32 : take 43 (t31) with
            | some t32 =>
              rw [F32] at hr
              have H := Lib.hid (show Rd _ g s b t32 from hr)
              replace F32 := Lib.hid F32
              clear hr
              go_wp2_with fail
              refine (digits_any g s _ (t32) _ hs H.out).mono ?_
              rintro e w' ⟨b, hr, hb, rfl⟩
              replace HB := Lib.hid (HB.out.trans hb)
              clear hb H
              cases F33 : digits (t32) with
              | some t33 =>
                rw [F33] at hr
                have H := Lib.hid (show Rd _ g s b t33 from hr)
                replace F33 := Lib.hid F33
                clear hr
                go_wp2
                go_ret
                have eEO := EO.out
                have eF1 := F1.out
                have eF28 := F28.out
                have eF29 := F29.out
                have eF30 := F30.out
                have eF31 := F31.out
                have eF32 := F32.out
                have eF33 := F33.out
                exact PostN.ok H.out HB.out (by rw [eEO]; simp [whole, frac, expo, expTail, opt, eF1, eF28, eF29, eF30, eF31, eF32, eF33])
              | none =>
                rw [F33] at hr
                have H := Lib.hid (show Rd _ g s b (t32) from hr)
                replace F33 := Lib.hid F33
                clear hr
                go_wp2
                go_ret
                have eEO := EO.out
                have eF1 := F1.out
                have eF28 := F28.out
                have eF29 := F29.out
                have eF30 := F30.out
                have eF31 := F31.out
                have eF32 := F32.out
                have eF33 := F33.out
                exact PostN.no H.out HB.out (by rw [eEO]; simp [whole, frac, expo, expTail, opt, eF1, eF28, eF29, eF30, eF31, eF32, eF33])
            | none =>
              rw [F32] at hr
              have H := Lib.hid (show Rd _ g s b (t31) from hr)
              replace F32 := Lib.hid F32
              clear hr
              go_wp2_with fail
              refine (take_any g s _ (t31) 45 _ hs H.out).mono ?_
              rintro e w' ⟨b, hr, hb, rfl⟩
              replace HB := Lib.hid (HB.out.trans hb)
              clear hb H
              cases F34 : take 45 (t31) with
              | some t34 =>
                rw [F34] at hr
                have H := Lib.hid (show Rd _ g s b t34 from hr)
                replace F34 := Lib.hid F34
                clear hr
                go_wp2_with fail
                refine (digits_any g s _ (t34) _ hs H.out).mono ?_
                rintro e w' ⟨b, hr, hb, rfl⟩
                replace HB := Lib.hid (HB.out.trans hb)
                clear hb H
                cases F35 : digits (t34) with
                | some t35 =>
                  rw [F35] at hr
                  have H := Lib.hid (show Rd _ g s b t35 from hr)
                  replace F35 := Lib.hid F35
                  clear hr
                  go_wp2
                  go_ret
                  have eEO := EO.out
                  have eF1 := F1.out
                  have eF28 := F28.out
                  have eF29 := F29.out
                  have eF30 := F30.out
                  have eF31 := F31.out
                  have eF32 := F32.out
                  have eF34 := F34.out
                  have eF35 := F35.out
                  exact PostN.ok H.out HB.out (by rw [eEO]; simp [whole, frac, expo, expTail, opt, eF1, eF28, eF29, eF30, eF31, eF32, eF34, eF35])
                | none =>
                  rw [F35] at hr
                  have H := Lib.hid (show Rd _ g s b (t34) from hr)
                  replace F35 := Lib.hid F35
                  clear hr
                  go_wp2
                  go_ret
                  have eEO := EO.out
                  have eF1 := F1.out
                  have eF28 := F28.out
                  have eF29 := F29.out
                  have eF30 := F30.out
                  have eF31 := F31.out
                  have eF32 := F32.out
                  have eF34 := F34.out
                  have eF35 := F35.out
                  exact PostN.no H.out HB.out (by rw [eEO]; simp [whole, frac, expo, expTail, opt, eF1, eF28, eF29, eF30, eF31, eF32, eF34, eF35])
              | none =>
                rw [F34] at hr
                have H := Lib.hid (show Rd _ g s b (t31) from hr)
                replace F34 := Lib.hid F34
                clear hr
                go_wp2_with fail
                refine (digits_any g s _ (t31) _ hs H.out).mono ?_
                rintro e w' ⟨b, hr, hb, rfl⟩
                replace HB := Lib.hid (HB.out.trans hb)
                clear hb H
                cases F36 : digits (t31) with
                | some t36 =>
                  rw [F36] at hr
                  have H := Lib.hid (show Rd _ g s b t36 from hr)
                  replace F36 := Lib.hid F36
                  clear hr
                  go_wp2
                  go_ret
                  have eEO := EO.out
                  have eF1 := F1.out
                  have eF28 := F28.out
                  have eF29 := F29.out
                  have eF30 := F30.out
                  have eF31 := F31.out
                  have eF32 := F32.out
                  have eF34 := F34.out
                  have eF36 := F36.out
                  exact PostN.ok H.out HB.out (by rw [eEO]; simp [whole, frac, expo, expTail, opt, eF1, eF28, eF29, eF30, eF31, eF32, eF34, eF36])
                | none =>
                  rw [F36] at hr
                  have H := Lib.hid (show Rd _ g s b (t31) from hr)
                  replace F36 := Lib.hid F36
                  clear hr
                  go_wp2
                  go_ret
                  have eEO := EO.out
                  have eF1 := F1.out
                  have eF28 := F28.out
                  have eF29 := F29.out
                  have eF30 := F30.out
                  have eF31 := F31.out
                  have eF32 := F32.out
                  have eF34 := F34.out
                  have eF36 := F36.out
                  exact PostN.no H.out HB.out (by rw [eEO]; simp [whole, frac, expo, expTail, opt, eF1, eF28, eF29, eF30, eF31, eF32, eF34, eF36])
          | none =>
            rw [F31] at hr
            have H := Lib.hid (show Rd _ g s b (t30) from hr)
            replace F31 := Lib.hid F31
            clear hr
            go_wp2_with fail
            refine (take_any g s _ (t30) 69 _ hs H.out).mono ?_
            rintro e w' ⟨b, hr, hb, rfl⟩
            replace HB := Lib.hid (HB.out.trans hb)
            clear hb H
            cases F37 : take 69 (t30) with
            | some t37 =>
              rw [F37] at hr
              have H := Lib.hid (show Rd _ g s b t37 from hr)
              replace F37 := Lib.hid F37
              clear hr
              go_wp2_with fail
              refine (take_any g s _ (t37) 43 _ hs H.out).mono ?_
              rintro e w' ⟨b, hr, hb, rfl⟩
              replace HB := Lib.hid (HB.out.trans hb)
              clear hb H
              cases F38 : take 43 (t37) with
              | some t38 =>
                rw [F38] at hr
                have H := Lib.hid (show Rd _ g s b t38 from hr)
                replace F38 := Lib.hid F38
                clear hr
                go_wp2_with fail
                refine (digits_any g s _ (t38) _ hs H.out).mono ?_
                rintro e w' ⟨b, hr, hb, rfl⟩
                replace HB := Lib.hid (HB.out.trans hb)
                clear hb H
                cases F39 : digits (t38) with
                | some t39 =>
                  rw [F39] at hr
                  have H := Lib.hid (show Rd _ g s b t39 from hr)
                  replace F39 := Lib.hid F39
                  clear hr
                  go_wp2
                  go_ret
                  have eEO := EO.out
                  have eF1 := F1.out
                  have eF28 := F28.out
                  have eF29 := F29.out
                  have eF30 := F30.out
                  have eF31 := F31.out
                  have eF37 := F37.out
                  have eF38 := F38.out
                  have eF39 := F39.out
                  exact PostN.ok H.out HB.out (by rw [eEO]; simp [whole, frac, expo, expTail, opt, eF1, eF28, eF29, eF30, eF31, eF37, eF38, eF39])
                | none =>
                  rw [F39] at hr
                  have H := Lib.hid (show Rd _ g s b (t38) from hr)
                  replace F39 := Lib.hid F39
                  clear hr
                  go_wp2
                  go_ret
                  have eEO := EO.out
                  have eF1 := F1.out
                  have eF28 := F28.out
                  have eF29 := F29.out
                  have eF30 := F30.out
                  have eF31 := F31.out
                  have eF37 := F37.out
                  have eF38 := F38.out
                  have eF39 := F39.out
                  exact PostN.no H.out HB.out (by rw [eEO]; simp [whole, frac, expo, expTail, opt, eF1, eF28, eF29, eF30, eF31, eF37, eF38, eF39])
              | none =>
                rw [F38] at hr
                have H := Lib.hid (show Rd _ g s b (t37) from hr)
                replace F38 := Lib.hid F38
                clear hr
                go_wp2_with fail
                refine (take_any g s _ (t37) 45 _ hs H.out).mono ?_
                rintro e w' ⟨b, hr, hb, rfl⟩
                replace HB := Lib.hid (HB.out.trans hb)
                clear hb H
                cases F40 : take 45 (t37) with
                | some t40 =>
                  rw [F40] at hr
                  have H := Lib.hid (show Rd _ g s b t40 from hr)
                  replace F40 := Lib.hid F40
                  clear hr
                  go_wp2_with fail
                  refine (digits_any g s _ (t40) _ hs H.out).mono ?_
                  rintro e w' ⟨b, hr, hb, rfl⟩
                  replace HB := Lib.hid (HB.out.trans hb)
                  clear hb H
                  cases F41 : digits (t40) with
                  | some t41 =>
                    rw [F41] at hr
                    have H := Lib.hid (show Rd _ g s b t41 from hr)
                    replace F41 := Lib.hid F41
                    clear hr
                    go_wp2
                    go_ret
                    have eEO := EO.out
                    have eF1 := F1.out
                    have eF28 := F28.out
                    have eF29 := F29.out
                    have eF30 := F30.out
                    have eF31 := F31.out
                    have eF37 := F37.out
                    have eF38 := F38.out
                    have eF40 := F40.out
                    have eF41 := F41.out
                    exact PostN.ok H.out HB.out (by rw [eEO]; simp [whole, frac, expo, expTail, opt, eF1, eF28, eF29, eF30, eF31, eF37, eF38, eF40, eF41])
                  | none =>
                    rw [F41] at hr
                    have H := Lib.hid (show Rd _ g s b (t40) from hr)
                    replace F41 := Lib.hid F41
                    clear hr
                    go_wp2
                    go_ret
                    have eEO := EO.out
                    have eF1 := F1.out
                    have eF28 := F28.out
                    have eF29 := F29.out
                    have eF30 := F30.out
                    have eF31 := F31.out
                    have eF37 := F37.out
                    have eF38 := F38.out
                    have eF40 := F40.out
                    have eF41 := F41.out
                    exact PostN.no H.out HB.out (by rw [eEO]; simp [whole, frac, expo, expTail, opt, eF1, eF28, eF29, eF30, eF31, eF37, eF38, eF40, eF41])
                | none =>
                  rw [F40] at hr
                  have H := Lib.hid (show Rd _ g s b (t37) from hr)
                  replace F40 := Lib.hid F40
                  clear hr
                  go_wp2_with fail
                  refine (digits_any g s _ (t37) _ hs H.out).mono ?_
                  rintro e w' ⟨b, hr, hb, rfl⟩
                  replace HB := Lib.hid (HB.out.trans hb)
                  clear hb H
                  cases F42 : digits (t37) with
                  | some t42 =>
                    rw [F42] at hr
                    have H := Lib.hid (show Rd _ g s b t42 from hr)
                    replace F42 := Lib.hid F42
                    clear hr
                    go_wp2
                    go_ret
                    have eEO := EO.out
                    have eF1 := F1.out
                    have eF28 := F28.out
                    have eF29 := F29.out
                    have eF30 := F30.out
                    have eF31 := F31.out
                    have eF37 := F37.out
                    have eF38 := F38.out
                    have eF40 := F40.out
                    have eF42 := F42.out
                    exact PostN.ok H.out HB.out (by rw [eEO]; simp [whole, frac, expo, expTail, opt, eF1, eF28, eF29, eF30, eF31, eF37, eF38, eF40, eF42])
                  | none =>
                    rw [F42] at hr
                    have H := Lib.hid (show Rd _ g s b (t37) from hr)
                    replace F42 := Lib.hid F42
                    clear hr
                    go_wp2
                    go_ret
                    have eEO := EO.out
                    have eF1 := F1.out
                    have eF28 := F28.out
                    have eF29 := F29.out
                    have eF30 := F30.out
                    have eF31 := F31.out
                    have eF37 := F37.out
                    have eF38 := F38.out
                    have eF40 := F40.out
                    have eF42 := F42.out
                    exact PostN.no H.out HB.out (by rw [eEO]; simp [whole, frac, expo, expTail, opt, eF1, eF28, eF29, eF30, eF31, eF37, eF38, eF40, eF42])
            | none =>
              rw [F37] at hr
              have H := Lib.hid (show Rd _ g s b (t30) from hr)
              replace F37 := Lib.hid F37
              clear hr
              go_wp2
              go_ret
              have eEO := EO.out
              have eF1 := F1.out
              have eF28 := F28.out
              have eF29 := F29.out
              have eF30 := F30.out
              have eF31 := F31.out
              have eF37 := F37.out
              exact PostN.ok H.out HB.out (by rw [eEO]; simp [whole, frac, expo, expTail, opt, eF1, eF28, eF29, eF30, eF31, eF37])
        | none =>
          rw [F30] at hr
          have H := Lib.hid (show Rd _ g s b (t29) from hr)
          replace F30 := Lib.hid F30
          clear hr
          go_wp2
          go_ret
          have eEO := EO.out
          have eF1 := F1.out
          have eF28 := F28.out
          have eF29 := F29.out
          have eF30 := F30.out
          exact PostN.no H.out HB.out (by rw [eEO]; simp [whole, frac, expo, expTail, opt, eF1, eF28, eF29, eF30])
      | none =>
        rw [F29] at hr
        have H := Lib.hid (show Rd _ g s b (t28) from hr)
        replace F29 := Lib.hid F29
        clear hr
        go_wp2_with fail
        refine (take_any g s _ (t28) 101 _ hs H.out).mono ?_
        rintro e w' ⟨b, hr, hb, rfl⟩
        replace HB := Lib.hid (HB.out.trans hb)
        clear hb H
        cases F43 : take 101 (t28) with
        | some t43 =>
          rw [F43] at hr
          have H := Lib.hid (show Rd _ g s b t43 from hr)
          replace F43 := Lib.hid F43
          clear hr
          go_wp2_with fail
          refine (take_any g s _ (t43) 43 _ hs H.out).mono ?_
          rintro e w' ⟨b, hr, hb, rfl⟩
          replace HB := Lib.hid (HB.out.trans hb)
          clear hb H
          cases F44 : take 43 (t43) with
          | some t44 =>
            rw [F44] at hr
            have H := Lib.hid (show Rd _ g s b t44 from hr)
            replace F44 := Lib.hid F44
            clear hr
            go_wp2_with fail
            refine (digits_any g s _ (t44) _ hs H.out).mono ?_
            rintro e w' ⟨b, hr, hb, rfl⟩
            replace HB := Lib.hid (HB.out.trans hb)
            clear hb H
            cases F45 : digits (t44) with
            | some t45 =>
              rw [F45] at hr
              have H := Lib.hid (show Rd _ g s b t45 from hr)
              replace F45 := Lib.hid F45
              clear hr
              go_wp2
              go_ret
              have eEO := EO.out
              have eF1 := F1.out
              have eF28 := F28.out
              have eF29 := F29.out
              have eF43 := F43.out
              have eF44 := F44.out
              have eF45 := F45.out
              exact PostN.ok H.out HB.out (by rw [eEO]; simp [whole, frac, expo, expTail, opt, eF1, eF28, eF29, eF43, eF44, eF45])
            | none =>
              rw [F45] at hr
              have H := Lib.hid (show Rd _ g s b (t44) from hr)
              replace F45 := Lib.hid F45
              clear hr
              go_wp2
              go_ret
              have eEO := EO.out
              have eF1 := F1.out
              have eF28 := F28.out
              have eF29 := F29.out
              have eF43 := F43.out
              have eF44 := F44.out
              have eF45 := F45.out
              exact PostN.no H.out HB.out (by rw [eEO]; simp [whole, frac, expo, expTail, opt, eF1, eF28, eF29, eF43, eF44, eF45])
          | none =>
            rw [F44] at hr
            have H := Lib.hid (show Rd _ g s b (t43) from hr)
            replace F44 := Lib.hid F44
            clear hr
            go_wp2_with fail
            refine (take_any g s _ (t43) 45 _ hs H.out).mono ?_
            rintro e w' ⟨b, hr, hb, rfl⟩
            replace HB := Lib.hid (HB.out.trans hb)
            clear hb H
            cases F46 : take 45 (t43) with
            | some t46 =>
              rw [F46] at hr
              have H := Lib.hid (show Rd _ g s b t46 from hr)
              replace F46 := Lib.hid F46
              clear hr
              go_wp2_with fail
              refine (digits_any g s _ (t46) _ hs H.out).mono ?_
              rintro e w' ⟨b, hr, hb, rfl⟩
              replace HB := Lib.hid (HB.out.trans hb)
              clear hb H
              cases F47 : digits (t46) with
              | some t47 =>
                rw [F47] at hr
                have H := Lib.hid (show Rd _ g s b t47 from hr)
                replace F47 := Lib.hid F47
                clear hr
                go_wp2
                go_ret
                have eEO := EO.out
                have eF1 := F1.out
                have eF28 := F28.out
                have eF29 := F29.out
                have eF43 := F43.out
                have eF44 := F44.out
                have eF46 := F46.out
                have eF47 := F47.out
                exact PostN.ok H.out HB.out (by rw [eEO]; simp [whole, frac, expo, expTail, opt, eF1, eF28, eF29, eF43, eF44, eF46, eF47])
              | none =>
                rw [F47] at hr
                have H := Lib.hid (show Rd _ g s b (t46) from hr)
                replace F47 := Lib.hid F47
                clear hr
                go_wp2
                go_ret
                have eEO := EO.out
                have eF1 := F1.out
                have eF28 := F28.out
                have eF29 := F29.out
                have eF43 := F43.out
                have eF44 := F44.out
                have eF46 := F46.out
                have eF47 := F47.out
                exact PostN.no H.out HB.out (by rw [eEO]; simp [whole, frac, expo, expTail, opt, eF1, eF28, eF29, eF43, eF44, eF46, eF47])
            | none =>
              rw [F46] at hr
              have H := Lib.hid (show Rd _ g s b (t43) from hr)
              replace F46 := Lib.hid F46
              clear hr
              go_wp2_with fail
              refine (digits_any g s _ (t43) _ hs H.out).mono ?_
              rintro e w' ⟨b, hr, hb, rfl⟩
              replace HB := Lib.hid (HB.out.trans hb)
              clear hb H
              cases F48 : digits (t43) with
              | some t48 =>
                rw [F48] at hr
                have H := Lib.hid (show Rd _ g s b t48 from hr)
                replace F48 := Lib.hid F48
                clear hr
                go_wp2
                go_ret
                have eEO := EO.out
                have eF1 := F1.out
                have eF28 := F28.out
                have eF29 := F29.out
                have eF43 := F43.out
                have eF44 := F44.out
                have eF46 := F46.out
                have eF48 := F48.out
                exact PostN.ok H.out HB.out (by rw [eEO]; simp [whole, frac, expo, expTail, opt, eF1, eF28, eF29, eF43, eF44, eF46, eF48])
              | none =>
                rw [F48] at hr
                have H := Lib.hid (show Rd _ g s b (t43) from hr)
                replace F48 := Lib.hid F48
                clear hr
                go_wp2
                go_ret
                have eEO := EO.out
                have eF1 := F1.out
                have eF28 := F28.out
                have eF29 := F29.out
                have eF43 := F43.out
                have eF44 := F44.out
                have eF46 := F46.out
                have eF48 := F48.out
                exact PostN.no H.out HB.out (by rw [eEO]; simp [whole, frac, expo, expTail, opt, eF1, eF28, eF29, eF43, eF44, eF46, eF48])
        | none =>
          rw [F43] at hr
          have H := Lib.hid (show Rd _ g s b (t28) from hr)
          replace F43 := Lib.hid F43
          clear hr
          go_wp2_with fail
          refine (take_any g s _ (t28) 69 _ hs H.out).mono ?_
          rintro e w' ⟨b, hr, hb, rfl⟩
          replace HB := Lib.hid (HB.out.trans hb)
          clear hb H
          cases F49 : take 69 (t28) with
          | some t49 =>
            rw [F49] at hr
            have H := Lib.hid (show Rd _ g s b t49 from hr)
            replace F49 := Lib.hid F49
            clear hr
            go_wp2_with fail
            refine (take_any g s _ (t49) 43 _ hs H.out).mono ?_
            rintro e w' ⟨b, hr, hb, rfl⟩
            replace HB := Lib.hid (HB.out.trans hb)
            clear hb H
            cases F50 : take 43 (t49) with
            | some t50 =>
              rw [F50] at hr
              have H := Lib.hid (show Rd _ g s b t50 from hr)
              replace F50 := Lib.hid F50
              clear hr
              go_wp2_with fail
              refine (digits_any g s _ (t50) _ hs H.out).mono ?_
              rintro e w' ⟨b, hr, hb, rfl⟩
              replace HB := Lib.hid (HB.out.trans hb)
              clear hb H
              cases F51 : digits (t50) with
              | some t51 =>
                rw [F51] at hr
                have H := Lib.hid (show Rd _ g s b t51 from hr)
                replace F51 := Lib.hid F51
                clear hr
                go_wp2
                go_ret
                have eEO := EO.out
                have eF1 := F1.out
                have eF28 := F28.out
                have eF29 := F29.out
                have eF43 := F43.out
                have eF49 := F49.out
                have eF50 := F50.out
                have eF51 := F51.out
                exact PostN.ok H.out HB.out (by rw [eEO]; simp [whole, frac, expo, expTail, opt, eF1, eF28, eF29, eF43, eF49, eF50, eF51])
              | none =>
                rw [F51] at hr
                have H := Lib.hid (show Rd _ g s b (t50) from hr)
                replace F51 := Lib.hid F51
                clear hr
                go_wp2
                go_ret
                have eEO := EO.out
                have eF1 := F1.out
                have eF28 := F28.out
                have eF29 := F29.out
                have eF43 := F43.out
                have eF49 := F49.out
                have eF50 := F50.out
                have eF51 := F51.out
                exact PostN.no H.out HB.out (by rw [eEO]; simp [whole, frac, expo, expTail, opt, eF1, eF28, eF29, eF43, eF49, eF50, eF51])
            | none =>
              rw [F50] at hr
              have H := Lib.hid (show Rd _ g s b (t49) from hr)
              replace F50 := Lib.hid F50
              clear hr
              go_wp2_with fail
              refine (take_any g s _ (t49) 45 _ hs H.out).mono ?_
              rintro e w' ⟨b, hr, hb, rfl⟩
              replace HB := Lib.hid (HB.out.trans hb)
              clear hb H
              cases F52 : take 45 (t49) with
              | some t52 =>
                rw [F52] at hr
                have H := Lib.hid (show Rd _ g s b t52 from hr)
                replace F52 := Lib.hid F52
                clear hr
                go_wp2_with fail
                refine (digits_any g s _ (t52) _ hs H.out).mono ?_
                rintro e w' ⟨b, hr, hb, rfl⟩
                replace HB := Lib.hid (HB.out.trans hb)
                clear hb H
                cases F53 : digits (t52) with
                | some t53 =>
                  rw [F53] at hr
                  have H := Lib.hid (show Rd _ g s b t53 from hr)
                  replace F53 := Lib.hid F53
                  clear hr
                  go_wp2
                  go_ret
                  have eEO := EO.out
                  have eF1 := F1.out
                  have eF28 := F28.out
                  have eF29 := F29.out
                  have eF43 := F43.out
                  have eF49 := F49.out
                  have eF50 := F50.out
                  have eF52 := F52.out
                  have eF53 := F53.out
                  exact PostN.ok H.out HB.out (by rw [eEO]; simp [whole, frac, expo, expTail, opt, eF1, eF28, eF29, eF43, eF49, eF50, eF52, eF53])
                | none =>
                  rw [F53] at hr
                  have H := Lib.hid (show Rd _ g s b (t52) from hr)
                  replace F53 := Lib.hid F53
                  clear hr
                  go_wp2
                  go_ret
                  have eEO := EO.out
                  have eF1 := F1.out
                  have eF28 := F28.out
                  have eF29 := F29.out
                  have eF43 := F43.out
                  have eF49 := F49.out
                  have eF50 := F50.out
                  have eF52 := F52.out
                  have eF53 := F53.out
                  exact PostN.no H.out HB.out (by rw [eEO]; simp [whole, frac, expo, expTail, opt, eF1, eF28, eF29, eF43, eF49, eF50, eF52, eF53])
              | none =>
                rw [F52] at hr
                have H := Lib.hid (show Rd _ g s b (t49) from hr)
                replace F52 := Lib.hid F52
                clear hr
                go_wp2_with fail
                refine (digits_any g s _ (t49) _ hs H.out).mono ?_
                rintro e w' ⟨b, hr, hb, rfl⟩
                replace HB := Lib.hid (HB.out.trans hb)
                clear hb H
                cases F54 : digits (t49) with
                | some t54 =>
                  rw [F54] at hr
                  have H := Lib.hid (show Rd _ g s b t54 from hr)
                  replace F54 := Lib.hid F54
                  clear hr
                  go_wp2
                  go_ret
                  have eEO := EO.out
                  have eF1 := F1.out
                  have eF28 := F28.out
                  have eF29 := F29.out
                  have eF43 := F43.out
                  have eF49 := F49.out
                  have eF50 := F50.out
                  have eF52 := F52.out
                  have eF54 := F54.out
                  exact PostN.ok H.out HB.out (by rw [eEO]; simp [whole, frac, expo, expTail, opt, eF1, eF28, eF29, eF43, eF49, eF50, eF52, eF54])
                | none =>
                  rw [F54] at hr
                  have H := Lib.hid (show Rd _ g s b (t49) from hr)
                  replace F54 := Lib.hid F54
                  clear hr
                  go_wp2
                  go_ret
                  have eEO := EO.out
                  have eF1 := F1.out
                  have eF28 := F28.out
                  have eF29 := F29.out
                  have eF43 := F43.out
                  have eF49 := F49.out
                  have eF50 := F50.out
                  have eF52 := F52.out
                  have eF54 := F54.out
                  exact PostN.no H.out HB.out (by rw [eEO]; simp [whole, frac, expo, expTail, opt, eF1, eF28, eF29, eF43, eF49, eF50, eF52, eF54])
          | none =>
            rw [F49] at hr
            have H := Lib.hid (show Rd _ g s b (t28) from hr)
            replace F49 := Lib.hid F49
            clear hr
            go_wp2
            go_ret
            have eEO := EO.out
            have eF1 := F1.out
            have eF28 := F28.out
            have eF29 := F29.out
            have eF43 := F43.out
            have eF49 := F49.out
            exact PostN.ok H.out HB.out (by rw [eEO]; simp [whole, frac, expo, expTail, opt, eF1, eF28, eF29, eF43, eF49])
    | none =>
      rw [F28] at hr
      have H := Lib.hid (show Rd _ g s b (m) from hr)
      replace F28 := Lib.hid F28
      clear hr
      go_wp2
      go_ret
      have eEO := EO.out
      have eF1 := F1.out
      have eF28 := F28.out
      exact PostN.no H.out HB.out (by rw [eEO]; simp [whole, frac, expo, expTail, opt, eF1, eF28])
end Go.Proofs.YtkmdcckiehbcmaaDoor.J
