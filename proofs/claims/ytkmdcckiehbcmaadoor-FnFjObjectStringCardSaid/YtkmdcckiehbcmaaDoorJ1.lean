/- The walks of the reader's small functions. -/
import Derived.Test.YtkmdcckiehbcmaaDoorJMem
import Derived.BigQuiet
import Derived.Deep.LoopGhost
import Derived.Deep.DeepCutAuto
set_option linter.unusedVariables false
set_option linter.unusedSimpArgs false
namespace Go.Proofs.YtkmdcckiehbcmaaDoor.J
open Go.RowKit Go.Proofs.YtkmdcckiehbcmaaDoorW.PrintWords Go.Proofs.YtkmdcckiehbcmaaDoorW.PrintLast Go.Proofs.YtkmdcckiehbcmaaDoorW.PrintMore Go.Proofs.YtkmdcckiehbcmaaDoor.Aid

/-- A reader's function hands back a bool: what it read, if it did. -/
def PostB (g : Nat) (s : ByteArray) (w : World) (l : L) (r : Option L) (e : Ending) (w' : World) : Prop := ∃ b, Rd w' g s b (r.getD l) ∧ But g w w' ∧ e = .returned (.bool r.isSome)
/-- It hands back nothing. -/
def PostU (g : Nat) (s : ByteArray) (w : World) (l : L) (e : Ending) (w' : World) : Prop := ∃ b, Rd w' g s b l ∧ But g w w' ∧ e = .returned (.tuple #[])
theorem Blank_any (c : Int) (w : World) : Calls Tryd.prog 58 #[.int .u8 c] w fun e w' => e = .returned (.bool (blank c)) ∧ w' = w := by
  by_cases h1 : c = 32
  · subst h1
    go_enter Tryd.func58, Tryd.ntmps58
    go_wp2
    go_ret
    exact ⟨rfl, rfl⟩
  by_cases h2 : c = 9
  · subst h2
    go_enter Tryd.func58, Tryd.ntmps58
    go_wp2
    go_ret
    exact ⟨rfl, rfl⟩
  by_cases h3 : c = 10
  · subst h3
    go_enter Tryd.func58, Tryd.ntmps58
    go_wp2
    go_ret
    exact ⟨rfl, rfl⟩
  have b1 : (c == 32) = false := beq_eq_false_iff_ne.mpr h1
  have b2 : (c == 9) = false := beq_eq_false_iff_ne.mpr h2
  have b3 : (c == 10) = false := beq_eq_false_iff_ne.mpr h3
  have e : Hid (blank c = (c == 13)) := Lib.hid (by unfold blank; rw [b1, b2, b3]; simp)
  clear h1 h2 h3
  go_enter Tryd.func58, Tryd.ntmps58
  go_wp2
  go_ret
  exact ⟨by rw [e.out]; rfl, rfl⟩

set_option maxHeartbeats 1000000 in
theorem here_any (g : Nat) (s : ByteArray) (a : Nat) (l : L) (w : World) (hs : s.size ≤ 2147483647) (h : Rd w g s a l) :
    Calls Tryd.prog 52 #[.pointer (some ⟨g, 0, none⟩)] w fun e w' => e = .returned (.int .u8 (hd l)) ∧ ∃ n, w' = w.drewN n := by
  have hl := h.len
  have c0 := h.cell0
  have c1 := h.cell1
  cases l with
  | nil =>
    obtain rfl : a = s.size := by simpa using hl
    clear hl h
    go_enter Tryd.func52, Tryd.ntmps52
    go_wp2
    go_quiet (fail)
    go_wp2
    go_ret
    exact ⟨rfl, _, rfl⟩
  | cons c t =>
    simp only [List.length_cons] at hl
    have hlt : a < s.size := by omega
    have hb := Lib.hid (h.byte hlt)
    clear hl h
    go_enter Tryd.func52, Tryd.ntmps52
    go_wp2
    go_quiet (fail)
    go_wp2
    go_quiet (fail)
    go_wp2
    go_ret
    exact ⟨ret_int hb.out, _, World.drewN_drewN ..⟩

set_option maxHeartbeats 1000000 in
theorem take_any (g : Nat) (s : ByteArray) (a : Nat) (l : L) (c : Int) (w : World) (hs : s.size ≤ 2147483647) (h : Rd w g s a l) :
    Calls Tryd.prog 77 #[.pointer (some ⟨g, 0, none⟩), .int .u8 c] w (PostB g s w l (take c l)) := by
  have hl := h.len
  have c0 := h.cell0
  have c1 := h.cell1
  have f1 := h.frozen1
  have H := Lib.hid h
  clear h
  cases l with
  | nil =>
    obtain rfl : a = s.size := by simpa using hl
    clear hl
    go_enter Tryd.func77, Tryd.ntmps77
    go_wp2
    go_quiet (fail)
    go_wp2
    go_ret
    exact ⟨_, H.out.drew _, ⟨rfl, rfl, rfl, Nat.le_refl _, fun _ _ _ => rfl⟩, rfl⟩
  | cons d t =>
    simp only [List.length_cons] at hl
    have hlt : a < s.size := by omega
    have hb := H.out.byte hlt
    by_cases e : d = c
    · have b1 : (((s[a]'hlt).toNat : Int) == c) = true := by rw [hb, e]; exact beq_self_eq_true _
      have E := Lib.hid e
      clear hl hb e
      go_enter Tryd.func77, Tryd.ntmps77
      go_wp2
      go_quiet (fail)
      go_wp2
      go_ret
      refine ⟨a + 1, ?_, ((But.refl g w).drewN nq).set 1 _, ?_⟩
      · have := (H.out.drew nq).step
        simpa [take, E.out] using this
      · simp [take, E.out]
    · have b1 : (((s[a]'hlt).toNat : Int) == c) = false := by rw [hb]; exact beq_eq_false_iff_ne.mpr e
      have E := Lib.hid e
      clear hl hb e
      go_enter Tryd.func77, Tryd.ntmps77
      go_wp2
      go_quiet (fail)
      go_wp2
      go_ret
      refine ⟨a, ?_, (But.refl g w).drewN nq, ?_⟩
      · have := H.out.drew nq
        simpa [take, E.out] using this
      · simp [take, E.out]

def headBlank (l : L) : Bool := match l with
  | [] => false
  | c :: _ => blank c
set_option maxHeartbeats 1000000 in
theorem blanks_any (g : Nat) (s : ByteArray) (a : Nat) (l : L) (w : World) (hs : s.size ≤ 2147483647) (h : Rd w g s a l) :
    Calls Tryd.prog 47 #[.pointer (some ⟨g, 0, none⟩)] w (PostU g s w (skip l)) := by
  have H := Lib.hid h
  clear h
  go_enter Tryd.func47, Tryd.ntmps47
  go_wp2
  go_loopg [] l.length (fun kq w' => Hid (∃ a' l', Rd w' g s a' l' ∧ l'.length = kq ∧ skip l' = skip l ∧ But g w w'))
  case atStart => exact Lib.hid ⟨a, l, H.out, rfl, rfl, But.refl g w⟩
  case round =>
    obtain ⟨a', l', hr, hk, hsk, hbut⟩ := hrel.out
    clear hrel H
    have hl := hr.len
    have c0 := hr.cell0
    have c1 := hr.cell1
    have f1 := hr.frozen1
    have HR := Lib.hid hr
    have HB := Lib.hid hbut
    have HS := Lib.hid hsk
    have HK := Lib.hid hk
    clear hr hbut hsk hk
    cases l' with
    | nil =>
      obtain rfl : a' = s.size := by simpa using hl
      clear hl
      go_wp2
      go_quiet (fail)
      go_wp2
      go_end0
      exact ⟨_, by have := HR.out.drew nq; rwa [← HS.out], HB.out.drewN _, rfl⟩
    | cons c t =>
      simp only [List.length_cons] at hl
      have hlt : a' < s.size := by omega
      have hb := HR.out.byte hlt
      by_cases e : blank c = true
      · have HBl : Hid (∀ w, Calls Tryd.prog 58 #[.int .u8 (((s[a']'hlt).toNat : Int))] w fun e w' => e = .returned (.bool true) ∧ w' = w) := Lib.hid (by rw [hb, ← e]; exact fun w => Blank_any c w)
        have E := Lib.hid e
        clear hl hb e
        go_wp2
        go_quiet ((go_at_call 58; exact Calls.quiet_of_same (HBl.out _)))
        go_wp2
        go_roundg t.length
        case rel => exact Lib.hid ⟨a' + 1, t, (HR.out.drew nq).step, rfl, by rw [← HS.out]; simp [skip, E.out], (HB.out.drewN nq).set 1 _⟩
        case measure => have := HK.out; simp only [List.length_cons] at this; omega
      · have HBl : Hid (∀ w, Calls Tryd.prog 58 #[.int .u8 (((s[a']'hlt).toNat : Int))] w fun e w' => e = .returned (.bool false) ∧ w' = w) := Lib.hid (by rw [hb, ← (show blank c = false by simpa using e)]; exact fun w => Blank_any c w)
        have E := Lib.hid e
        clear hl hb e
        go_wp2
        go_quiet ((go_at_call 58; exact Calls.quiet_of_same (HBl.out _)))
        go_wp2
        go_end0
        exact ⟨_, by have := HR.out.drew nq; rw [← HS.out]; simpa [skip, E.out] using this, HB.out.drewN _, rfl⟩
end Go.Proofs.YtkmdcckiehbcmaaDoor.J
