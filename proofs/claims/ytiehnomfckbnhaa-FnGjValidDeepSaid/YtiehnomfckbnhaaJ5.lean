/- The walks of the reader's arrays, objects and values. -/
import Derived.Test.YtiehnomfckbnhaaJ4
import Derived.Test.YtiehnomfckbnhaaJLen
set_option linter.unusedVariables false
set_option linter.unusedSimpArgs false
namespace Go.Proofs.Ytiehnomfckbnhaa.J
open Go.RowKit Go.Proofs.YtiehnomfckbnhaaW.PrintWords Go.Proofs.YtiehnomfckbnhaaW.PrintLast Go.Proofs.YtiehnomfckbnhaaW.PrintMore Go.Proofs.Ytiehnomfckbnhaa.Aid

section
variable {α : Type} {d : Kd α} {e : Nat} {W W' : World} {base : Nat} {ok : Nat → Prop} {v : Value} {xs : List α}
theorem R_from (h : d.R e W base ok v xs) (hb : ∀ k, base ≤ k → k < W.heap.size → W'.heap[k]? = W.heap[k]?) : d.R e W' base ok v xs :=
  Kd.R_mono (Kd.R_step (Kd.R_bound h) (fun k hk hlt => hb k hk.2.1 hlt)) (fun k hk => hk.1)
theorem R_but {g : Nat} (h : d.R e W base ok v xs) (hb : But g W W') (hg : g < base) : d.R e W' base ok v xs :=
  R_from h fun k hk hlt => hb.block k hlt (by omega)
end

def VPost (g : Nat) (s : ByteArray) (w : World) : Option (Pl × L) → Ending → World → Prop
  | some (p, t), e, w' => ∃ b A3 c3 A4 c4, Rd w' g s b t ∧ But g w w' ∧ kSp.R tSp w' w.heap.size (fun _ => True) (.slice A3 p.names.length c3) p.names ∧ kPl.R tPl w' w.heap.size (fun _ => True) (.slice A4 p.kids.length c4) p.kids ∧
      e = .returned (.tuple #[.agg #[.int .i64 p.kind, .int .i64 p.b, .int .i64 p.e, .slice A3 p.names.length c3, .slice A4 p.kids.length c4], .bool true])
  | none, e, w' => ∃ b t k b0 e0, Rd w' g s b t ∧ But g w w' ∧ e = .returned (.tuple #[.agg #[.int .i64 k, .int .i64 b0, .int .i64 e0, .slice none 0 0, .slice none 0 0], .bool false])
def EPost (g : Nat) (s : ByteArray) (w : World) : Option (List Pl × L) → Ending → World → Prop
  | some (ks, t), e, w' => ∃ b A4 c4, Rd w' g s b t ∧ But g w w' ∧ kPl.R tPl w' w.heap.size (fun _ => True) (.slice A4 ks.length c4) ks ∧ e = .returned (.tuple #[.slice A4 ks.length c4, .bool true])
  | none, e, w' => ∃ b t, Rd w' g s b t ∧ But g w w' ∧ e = .returned (.tuple #[.slice none 0 0, .bool false])
def MPost (g : Nat) (s : ByteArray) (w : World) : Option ((List Sp × List Pl) × L) → Ending → World → Prop
  | some ((ns, ks), t), e, w' => ∃ b A3 c3 A4 c4, Rd w' g s b t ∧ But g w w' ∧ kSp.R tSp w' w.heap.size (fun _ => True) (.slice A3 ns.length c3) ns ∧ kPl.R tPl w' w.heap.size (fun _ => True) (.slice A4 ks.length c4) ks ∧ e = .returned (.tuple #[.slice A3 ns.length c3, .slice A4 ks.length c4, .bool true])
  | none, e, w' => ∃ b t, Rd w' g s b t ∧ But g w w' ∧ e = .returned (.tuple #[.slice none 0 0, .slice none 0 0, .bool false])

/-- value's contract for rests shorter than n. -/
def ValC (s : ByteArray) (n : Nat) : Prop := ∀ (g a : Nat) (l : L) (w : World), l.length < n → Rd w g s a l → Calls Try.prog 9 #[.pointer (some ⟨g, 0, none⟩)] w (VPost g s w (val s.size n l))

theorem infoPl : (Try.prog.info? tPl).map (fun i => (i.zero, i.size, i.bytes)) = some (some (.agg #[.int .i64 0, .int .i64 0, .int .i64 0, .slice none 0 0, .slice none 0 0]), 5, 72) := by kernel_rfl
theorem infoSp : (Try.prog.info? tSp).map (fun i => (i.zero, i.size, i.bytes)) = some (some (.agg #[.int .i64 0, .int .i64 0]), 2, 16) := by kernel_rfl

set_option maxHeartbeats 4000000 in
set_option maxRecDepth 100000 in
theorem elements_any (s : ByteArray) (hs : s.size ≤ 2147483647) (n : Nat) (hv : ValC s n) (g a : Nat) (c : Int) (t : L) (w : World) (hn : t.length < n) (h : Rd w g s a (c :: t)) :
    Calls Try.prog 15 #[.pointer (some ⟨g, 0, none⟩)] w (EPost g s w (arr (val s.size n) t)) := by
  have c1 := h.cell1
  have f1 := h.frozen1
  have hl := h.len
  have hg := h.lt
  simp only [List.length_cons] at hl
  have H := Lib.hid h.step
  have HB := Lib.hid ((But.refl g w).set 1 (.int .i64 ((a : Int) + 1)))
  have HV := Lib.hid hv
  clear h hv
  go_enter Try.func15, Try.ntmps15
  go_wp2_with fail
  clear c1 f1
  refine (blanks_any g s _ t _ hs H.out).mono ?_
  rintro e w' ⟨b, hr, hb, rfl⟩
  replace HB := Lib.hid (HB.out.trans hb)
  replace H := Lib.hid hr
  clear hr hb
  have hsk := skip_le t
  go_wp2_with fail
  refine (take_any g s _ (skip t) 93 _ hs H.out).mono ?_
  rintro e w' ⟨b, hr, hb, rfl⟩
  replace HB := Lib.hid (HB.out.trans hb)
  clear hb H
  cases F1 : take 93 (skip t) with
  | some t1 =>
    rw [F1] at hr
    have H := Lib.hid (show Rd _ g s b t1 from hr)
    have E := Lib.hid (show arr (val s.size n) t = some ([], t1) by simp [arr, F1])
    clear hr F1
    go_wp2
    go_ret2
    rw [E.out]
    exact ⟨b, none, 0, H.out, HB.out, Kd.R_nil _ _ _ _ _, rfl⟩
  | none =>
    rw [F1] at hr
    have H := Lib.hid (show Rd _ g s b (skip t) from hr)
    have E := Lib.hid (show arr (val s.size n) t = elems (val s.size n) (t.length + 1) (skip t) [] by simp [arr, F1])
    clear hr F1
    go_wp2
    go_loopg [4] (t.length + 1) (fun kq v w' => Hid (∃ a' l' acc A4 c4, v = .slice A4 (acc : List Pl).length c4 ∧ Rd w' g s a' l' ∧ l'.length < kq ∧ l'.length ≤ t.length ∧ acc.length + l'.length ≤ s.size ∧
        elems (val s.size n) kq l' acc = elems (val s.size n) (t.length + 1) (skip t) [] ∧ kPl.R tPl w' w.heap.size (fun _ => True) (.slice A4 acc.length c4) acc ∧ But g w w'))
    case atStart => exact Lib.hid ⟨b, skip t, [], none, 0, rfl, H.out, by omega, hsk, by simp only [List.length_nil]; omega, rfl, Kd.R_nil _ _ _ _ _, HB.out⟩
    case round =>
      obtain ⟨a', l', acc, A4, c4, rfl, hr, hk, hlt, hsz, he, hR, hb⟩ := hrel.out
      clear hrel
      obtain ⟨m, rfl⟩ : ∃ m, gk = m + 1 := ⟨gk - 1, by omega⟩
      have H := Lib.hid hr
      have HB := Lib.hid hb
      have HR := Lib.hid hR
      have HX := Lib.hid he
      clear hr hb hR he
      go_wp2_with fail
      refine (HV.out g a' l' _ (by omega) H.out).mono ?_
      cases F2 : val s.size n l' with
      | none =>
        rintro e w' ⟨b, t2, k, b0, e0, hr, hb, rfl⟩
        replace HB := Lib.hid (HB.out.trans hb)
        replace H := Lib.hid hr
        have HN := Lib.hid (show arr (val s.size n) t = none by rw [E.out, ← HX.out]; simp [elems, F2])
        clear hr hb F2
        go_wp2
        go_ret2
        rw [HN.out]
        exact ⟨b, t2, H.out.alloc _, HB.out.alloc _, rfl⟩
      | some x =>
        obtain ⟨p, t2⟩ := x
        rintro e w' ⟨b, A5, c5, A6, c6, hr, hb, h5, h6, rfl⟩
        have hown : ∀ k, wr.heap.size ≤ k → some k ≠ (Value.slice A4 acc.length c4).ownBlock := by
          intro k hk he
          obtain ⟨inner, ho⟩ := Kd.R_own HR.out
          have := own_lt ho k he.symm
          omega
        have hwr := HB.out.size
        have hwr0 : w.heap.size ≤ w.heap.size := Nat.le_refl _
        have hsz2 := hb.size
        replace HR := Lib.hid (R_but HR.out hb hg)
        have HP := Lib.hid (kPl.M_lower hwr (Kd.M_mono kPl (fun k hk => hk.2.1) (kPl.M_bound (kPl_mkM _ _ _ p h5 h6))))
        replace HB := Lib.hid (HB.out.trans hb)
        replace H := Lib.hid hr
        have HF := Lib.hid F2
        clear hr hb F2 h5 h6
        go_wp2_with (at_builtin; refine Kd.R_append kPl (w0 := _) w.heap.size rfl (.tmp 25) (.tmp 27) 23 tPl _ 72 rfl Try.underlying23 infoPl rfl (by decide) (by decide) _ acc p [.int .i64 p.kind, .int .i64 p.b, .int .i64 p.e, .slice A5 p.names.length c5, .slice A6 p.kids.length c6] (fun _ => True) (fun k => wr.heap.size ≤ k) rfl (by simp [go_sem]) (Kd.M_below HP.out (below_alloc (Below.refl _ _) _)) (fun k hk => ⟨trivial, hown k hk⟩) (fun _ _ => trivial) (Kd.R_below HR.out (below_alloc (Below.refl _ _) _)) (Below.refl _ _) (by simp; omega) (by omega) ?_; intro v1 w1 hR1 hB1 hg1 hat1)
        replace HB := Lib.hid ((HB.out.alloc (.cells #[.int .i64 p.kind, .int .i64 p.b, .int .i64 p.e, .slice A5 p.names.length c5, .slice A6 p.kids.length c6] tPl)).below hwr0 hB1)
        replace H := Lib.hid ((H.out.alloc (.cells #[.int .i64 p.kind, .int .i64 p.b, .int .i64 p.e, .slice A5 p.names.length c5, .slice A6 p.kids.length c6] tPl)).below hg hB1)
        obtain ⟨acc1, hA⟩ : ∃ z, z = acc ++ [p] := ⟨_, rfl⟩
        rw [← hA] at hR1
        have hAl : acc1.length = acc.length + 1 := by rw [hA]; simp
        replace hAl := Lib.hid hAl
        replace hA := Lib.hid hA
        obtain ⟨A7, c7, rfl⟩ := Kd.R_slice hR1
        replace HR := Lib.hid hR1
        clear hR1 hB1 hg1 hat1 HP
        refine (blanks_any g s _ t2 _ hs H.out).mono ?_
        rintro e w' ⟨b, hr, hb, rfl⟩
        replace HB := Lib.hid (HB.out.trans hb)
        replace H := Lib.hid hr
        replace HR := Lib.hid (R_but HR.out hb hg)
        clear hr hb
        have hsk2 := skip_le t2
        have hlt2 := val_lt HF.out
        go_wp2_with fail
        refine (take_any g s _ (skip t2) 93 _ hs H.out).mono ?_
        rintro e w' ⟨b, hr, hb, rfl⟩
        replace HB := Lib.hid (HB.out.trans hb)
        replace HR := Lib.hid (R_but HR.out hb hg)
        clear hb H
        cases F3 : take 93 (skip t2) with
        | some t3 =>
          rw [F3] at hr
          have H := Lib.hid (show Rd _ g s b t3 from hr)
          have HN := Lib.hid (show arr (val s.size n) t = some (acc1, t3) by rw [E.out, ← HX.out, hA.out]; simp [elems, HF.out, F3])
          clear hr F3
          go_wp2
          go_ret2
          rw [HN.out]
          exact ⟨b, A7, c7, H.out, HB.out, HR.out, rfl⟩
        | none =>
          rw [F3] at hr
          have H := Lib.hid (show Rd _ g s b (skip t2) from hr)
          replace F3 := Lib.hid F3
          clear hr
          go_wp2_with fail
          refine (take_any g s _ (skip t2) 44 _ hs H.out).mono ?_
          rintro e w' ⟨b, hr, hb, rfl⟩
          replace HB := Lib.hid (HB.out.trans hb)
          replace HR := Lib.hid (R_but HR.out hb hg)
          clear hb H
          cases F4 : take 44 (skip t2) with
          | none =>
            rw [F4] at hr
            have H := Lib.hid (show Rd _ g s b (skip t2) from hr)
            have HN := Lib.hid (show arr (val s.size n) t = none by rw [E.out, ← HX.out]; simp [elems, HF.out, F3.out, F4])
            clear hr F4
            go_wp2
            go_ret2
            rw [HN.out]
            exact ⟨b, _, H.out, HB.out, rfl⟩
          | some t4 =>
            rw [F4] at hr
            have H := Lib.hid (show Rd _ g s b t4 from hr)
            have HN := Lib.hid (show elems (val s.size n) m (skip t4) acc1 = elems (val s.size n) (t.length + 1) (skip t) [] by rw [← HX.out, hA.out]; simp [elems, HF.out, F3.out, F4])
            have hsk4 := skip_le t4
            have hlt4 := take_lt F4
            clear hr F4
            go_wp2_with fail
            refine (blanks_any g s _ t4 _ hs H.out).mono ?_
            rintro e w' ⟨b, hr, hb, rfl⟩
            replace HB := Lib.hid (HB.out.trans hb)
            replace H := Lib.hid hr
            replace HR := Lib.hid (R_but HR.out hb hg)
            clear hr hb
            go_wp2
            go_roundg m
            case rel => exact Lib.hid ⟨b, skip t4, acc1, A7, c7, rfl, H.out, by omega, by omega, by have := hAl.out; omega, HN.out, HR.out, HB.out⟩
            case measure => omega
end Go.Proofs.Ytiehnomfckbnhaa.J
