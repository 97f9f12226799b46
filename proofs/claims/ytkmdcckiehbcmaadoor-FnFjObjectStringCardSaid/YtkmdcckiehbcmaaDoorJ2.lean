/- The walks of the reader's words, digits and numbers. -/
import Derived.Test.YtkmdcckiehbcmaaDoorJ1
import Derived.IntWalk
set_option linter.unusedVariables false
set_option linter.unusedSimpArgs false
namespace Go.Proofs.YtkmdcckiehbcmaaDoor.J
open Go.RowKit Go.Proofs.YtkmdcckiehbcmaaDoorW.PrintWords Go.Proofs.YtkmdcckiehbcmaaDoorW.PrintLast Go.Proofs.YtkmdcckiehbcmaaDoorW.PrintMore Go.Proofs.YtkmdcckiehbcmaaDoor.Aid

theorem toList_bytes (s : ByteArray) : bytesOf s = s.toList.map fun b => (b.toNat : Int) := by rw [bytesOf, ByteArray.toList_eq]
theorem toList_eq_iff (x y : ByteArray) : (x.toList == y.toList) = decide (bytesOf x = bytesOf y) := by
  rw [Bool.eq_iff_iff]
  simp only [beq_iff_eq, decide_eq_true_eq, toList_bytes]
  constructor
  · intro h; rw [h]
  · intro h
    exact (List.map_inj_right (fun x y hxy => by
      have : x.toNat = y.toNat := by omega
      exact UInt8.toNat_inj.1 this)).1 h
theorem word_eq (s wd : ByteArray) (a : Nat) (l : L) (h : (bytesOf s).drop a = l) (hlen : wd.size ≤ l.length) :
    ((s.extract a (a + wd.size)).toList == wd.toList) = (word (bytesOf wd) l).isSome := by
  rw [toList_eq_iff, bytesOf_extract, h, Nat.add_sub_cancel_left]
  unfold word
  by_cases c : (bytesOf wd).isPrefixOf l = true
  · rw [if_pos c]
    simp only [Option.isSome_some, decide_eq_true_eq]
    have := List.isPrefixOf_iff_prefix.1 c
    have := List.prefix_iff_eq_take.1 this
    rw [bytesOf_length] at this
    exact this.symm
  · rw [if_neg c]
    simp only [Option.isSome_none, decide_eq_false_iff_not]
    intro e
    apply c
    apply List.isPrefixOf_iff_prefix.2
    rw [← e]
    exact List.take_prefix _ _
theorem word_short (wd l : L) (h : l.length < wd.length) : word wd l = none := by
  unfold word
  rw [if_neg]
  intro c
  have := (List.isPrefixOf_iff_prefix.1 c).length_le
  omega

theorem slice_str (s : ByteArray) (a n : Nat) (h : a + n ≤ s.size) (W : World) :
    (Instr.slice 9 (.string s) (some (.int .i64 (a : Int))) (some (.int .i64 ((a : Int) + n))) none).run Tryd.prog W = .ok (.string (s.extract a (a + n))) W := by
  have h1 : (0 : Int) ≤ (a : Int) + n := by omega
  have h2 : (a : Int) ≤ (a : Int) + n := by omega
  have h3 : (a : Int) + n ≤ s.size := by omega
  have h4 : ((a : Int) + n).toNat = a + n := by omega
  go_simp
set_option maxHeartbeats 1000000 in
theorem word_any (g : Nat) (s wd : ByteArray) (a : Nat) (l : L) (w : World) (hs : s.size ≤ 2147483647) (hw : wd.size ≤ 1000) (h : Rd w g s a l) :
    Calls Tryd.prog 63 #[.pointer (some ⟨g, 0, none⟩), .string wd] w (PostB g s w l (word (bytesOf wd) l)) := by
  have hl := h.len
  have c0 := h.cell0
  have c1 := h.cell1
  have f1 := h.frozen1
  have H := Lib.hid h
  clear h
  by_cases hsz : l.length < wd.size
  · have E := Lib.hid (word_short (bytesOf wd) l (by rw [bytesOf_length]; exact hsz))
    have q0 : IntKind.i64.wrap ((s.size : Int) - a) = (s.size : Int) - a := IntWalk.i64_in _ (by omega)
    have q : decide ((s.size : Int) - a < wd.size) = true := decide_eq_true (by omega)
    clear hl hsz
    go_enter Tryd.func63, Tryd.ntmps63
    go_wp2
    go_quiet (fail)
    go_wp2
    go_ret
    refine ⟨a, ?_, (But.refl g w).drewN nq, ?_⟩
    · have := H.out.drew nq
      rw [E.out]; exact this
    · rw [E.out]; rfl
  · have E := word_eq s wd a l H.out.rest (by omega)
    have q2 : a + wd.size ≤ s.size := by omega
    have q0 : IntKind.i64.wrap ((s.size : Int) - a) = (s.size : Int) - a := IntWalk.i64_in _ (by omega)
    have q : decide ((s.size : Int) - a < wd.size) = false := decide_eq_false (by omega)
    have q3 : IntKind.i64.wrap ((a : Int) + wd.size) = (a : Int) + wd.size := IntWalk.i64_in _ (by omega)
    cases e : word (bytesOf wd) l with
    | none =>
      rw [e] at E
      have b1 : ((s.extract a (a + wd.size)).toList == wd.toList) = false := E
      have ks := slice_str s a wd.size q2
      have EE := Lib.hid e
      clear hl hsz E e
      go_enter Tryd.func63, Tryd.ntmps63
      go_wp2
      go_quiet (fail)
      go_wp2
      go_ret
      refine ⟨a, ?_, (But.refl g w).drewN nq, rfl⟩
      exact H.out.drew nq
    | some r =>
      rw [e] at E
      have b1 : ((s.extract a (a + wd.size)).toList == wd.toList) = true := E
      have ks := slice_str s a wd.size q2
      have EE := Lib.hid e
      clear hl hsz E e
      go_enter Tryd.func63, Tryd.ntmps63
      go_wp2
      go_quiet (fail)
      clear q3 q0 q ks
      go_wp2
      go_ret
      refine ⟨a + wd.size, ?_, ((But.refl g w).drewN nq).set 1 _, rfl⟩
      have h1 := (H.out.drew nq).set (a + wd.size) q2
      have h2 : (bytesOf s).drop (a + wd.size) = r := by
        have e := EE.out
        unfold word at e
        split at e
        · injection e with e
          rw [← e, ← H.out.rest, List.drop_drop, bytesOf_length]
        · cases e
      rw [h2] at h1
      simpa using h1

set_option maxHeartbeats 1000000 in
theorem digits_any (g : Nat) (s : ByteArray) (a : Nat) (l : L) (w : World) (hs : s.size ≤ 2147483647) (h : Rd w g s a l) :
    Calls Tryd.prog 78 #[.pointer (some ⟨g, 0, none⟩)] w (PostB g s w l (digits l)) := by
  have hl := h.len
  have c1 := h.cell1
  have H := Lib.hid h
  clear h
  go_enter Tryd.func78, Tryd.ntmps78
  go_wp2_with (go_at_call 52; refine (here_any g s a l _ hs H.out).mono ?_; rintro e w' ⟨rfl, ⟨n0, rfl⟩⟩)
  go_loopg [4] l.length (fun kq v w' => Hid (∃ a' l', Rd w' g s a' l' ∧ l'.length = kq ∧ digs l' = digs l ∧ a ≤ a' ∧ But g w w' ∧ v = .int .u8 (hd l')))
  case atStart => exact Lib.hid ⟨a, l, H.out.drew _, rfl, rfl, Nat.le_refl _, (But.refl g w).drewN _, rfl⟩
  case round =>
    obtain ⟨a', l', hr, hk, hsk, hle, hbut, rfl⟩ := hrel.out
    clear hrel c1
    have hl' := hr.len
    have c1 := hr.cell1
    have f1 := hr.frozen1
    have HR := Lib.hid hr
    have HB := Lib.hid hbut
    have HS := Lib.hid hsk
    have HK := Lib.hid hk
    clear hr hbut hsk hk
    have step : ∀ c t, l' = c :: t → dig c = true → hd l' = c ∧ 48 ≤ c ∧ c ≤ 57 := by
      intro c t e hd'
      simp only [dig, Bool.and_eq_true, decide_eq_true_eq] at hd'
      exact ⟨by rw [e]; rfl, hd'.1, hd'.2⟩
    by_cases hdg : ∃ c t, l' = c :: t ∧ dig c = true
    · obtain ⟨c, t, rfl, hc⟩ := hdg
      obtain ⟨e, e1, e2⟩ := step c t rfl hc
      rw [e]
      have E := Lib.hid hc
      clear step e hc
      simp only [List.length_cons] at hl'
      go_wp2_with (go_at_call 52; refine (here_any g s (a' + 1) t _ hs HR.out.step).mono ?_; rintro e w' ⟨rfl, ⟨n1, rfl⟩⟩)
      go_roundg t.length
      case rel => exact Lib.hid ⟨a' + 1, t, HR.out.step.drew _, rfl, by rw [← HS.out]; simp [digs, E.out], by omega, (HB.out.set 1 _).drewN _, rfl⟩
      case measure => have := HK.out; simp only [List.length_cons] at this; omega
    · have b1 : (decide (48 ≤ hd l') && decide (hd l' ≤ 57)) = false := by
        cases l' with
        | nil => rfl
        | cons c t =>
          cases e : dig c with
          | true => exact absurd ⟨c, t, rfl, e⟩ hdg
          | false => exact e
      have E : Hid (digs l' = l') := Lib.hid (by
        cases l' with
        | nil => rfl
        | cons c t =>
          have : dig c = false := b1
          simp [digs, this])
      have fin : Hid (decide (a < a') = (digits l).isSome ∧ (digits l).getD l = l') := Lib.hid (by
        have h1 := H.out.len
        have h2 : l' = digs l := by rw [← HS.out, E.out]
        cases l with
        | nil =>
          have : l' = [] := by rw [h2]; rfl
          subst this
          simp only [List.length_nil] at h1 hl'
          exact ⟨by simp [digits]; omega, rfl⟩
        | cons c t =>
          cases e : dig c with
          | true =>
            have h3 : l' = digs t := by rw [h2]; simp [digs, e]
            have h4 := digs_le t
            simp only [List.length_cons] at h1
            rw [h3] at hl'
            exact ⟨by simp [digits, e]; omega, by simp [digits, e, h3]⟩
          | false =>
            have h3 : l' = c :: t := by rw [h2]; simp [digs, e]
            subst h3
            simp only [List.length_cons] at h1 hl'
            exact ⟨by simp [digits, e] <;> omega, by simp [digits, e]⟩)
      generalize hd l' = x at b1 ⊢
      clear step hdg
      by_cases x1 : 48 ≤ x
      · have b2 : decide (x ≤ 57) = false := by simpa [x1] using b1
        clear b1
        go_wp2
        go_ret
        exact ⟨a', by rw [fin.out.2]; exact HR.out, HB.out, ret_bool fin.out.1⟩
      · clear b1
        go_wp2
        go_ret
        exact ⟨a', by rw [fin.out.2]; exact HR.out, HB.out, ret_bool fin.out.1⟩
end Go.Proofs.YtkmdcckiehbcmaaDoor.J
