/- FjUnescape of the thin package. -/
import Derived.Test.YtkmdcckiehbcmaaDoorFuB
set_option linter.unusedVariables false
set_option linter.unusedSimpArgs false
namespace Go.Proofs.YtkmdcckiehbcmaaDoor.J
open Go.RowKit Go.Proofs.YtkmdcckiehbcmaaDoorW.PrintWords Go.Proofs.YtkmdcckiehbcmaaDoorW.PrintLast Go.Proofs.YtkmdcckiehbcmaaDoorW.PrintMore Go.Proofs.YtkmdcckiehbcmaaDoor.Aid

theorem FjUnescape_any (s : ByteArray) (w : World) (hs : s.size ≤ 100000) (hl : lone (bytesOf s) = false) (hE : ErrV w) :
    Calls Tryd.prog 15 #[.string s] w fun e w' => e = .returned (.string (strOfNums (kp (bytesOf s)))) ∧ Below w.heap.size w w' := by
  have K := Lib.hid (kept_walk s w hs hl hE)
  obtain ⟨r, hr⟩ : ∃ r, r = strOfNums (kp (bytesOf s)) := ⟨_, rfl⟩
  rw [← hr] at K ⊢
  clear hr hE hl
  have K2 : Hid (Calls Tryd.prog 30 #[.string s] w fun e w' => e = .returned (.string r) ∧ Below w.heap.size w w') := Lib.hid (by
    go_enter Tryd.func30, Tryd.ntmps30
    go_wp2_with (go_at_call 49; refine K.out.mono ?_; rintro e w1 ⟨rfl, hb⟩; replace hb := Lib.hid hb)
    go_ret
    exact ⟨rfl, hb.out⟩)
  go_enter Tryd.func15, Tryd.ntmps15
  go_wp2_with (go_at_call 30; refine K2.out.mono ?_; rintro e w1 ⟨rfl, hb⟩; replace hb := Lib.hid hb)
  go_ret
  exact ⟨rfl, hb.out⟩
theorem nl_kp : kp [92, 110] = [10] ∧ lone [92, 110] = false := by
  have he : ke [92, 110] = (2, [10]) := ke_short (c := 110) (t := []) rfl
  constructor
  · rw [kp_esc (by simp), he]
    show [10] ++ kp [] = _
    rw [kp_nil]; rfl
  · rw [lone_esc (by simp), he]
    show lone [] = _
    exact lone_nil
theorem nl_any (w : World) (hE : ErrV w) : Calls Tryd.prog 15 #[.string ⟨#[92, 110]⟩] w fun e w' => e = .returned (.string ⟨#[10]⟩) ∧ Below w.heap.size w w' := by
  have hb : bytesOf ⟨#[92, 110]⟩ = [92, 110] := rfl
  have := FjUnescape_any ⟨#[92, 110]⟩ w (by decide) (by rw [hb]; exact nl_kp.2) hE
  rw [hb, nl_kp.1] at this
  exact this
end Go.Proofs.YtkmdcckiehbcmaaDoor.J
