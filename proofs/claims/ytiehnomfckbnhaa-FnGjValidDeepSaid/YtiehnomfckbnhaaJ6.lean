/- The walk of the reader's objects. -/
import Derived.Test.YtiehnomfckbnhaaJ5
set_option linter.unusedVariables false
set_option linter.unusedSimpArgs false
namespace Go.Proofs.Ytiehnomfckbnhaa.J
open Go.RowKit Go.Proofs.YtiehnomfckbnhaaW.PrintWords Go.Proofs.YtiehnomfckbnhaaW.PrintLast Go.Proofs.YtiehnomfckbnhaaW.PrintMore Go.Proofs.Ytiehnomfckbnhaa.Aid

theorem kSp_E : ∀ q, q ∈ tSp :: kSp.E → q ≠ tPl := by
  intro q hq
  have : q = tSp := by simpa [kSp, Kd.iso, Kd.pair, Kd.int, Kd.scalar] using hq
  subst this; decide
theorem getD_tmps {a : Act} {i : Nat} {v : Value} (h : a.tmps.getD i undef = v) : a.tmps.getD i undef = v := h

set_option maxHeartbeats 8000000 in
set_option maxRecDepth 100000 in
theorem members_any (s : ByteArray) (hs : s.size ≤ 2147483647) (n : Nat) (hv : ValC s n) (g a : Nat) (c : Int) (t : L) (w : World) (hn : t.length < n) (h : Rd w g s a (c :: t)) :
    Calls Try.prog 14 #[.pointer (some ⟨g, 0, none⟩)] w (MPost g s w (obj s.size (val s.size n) t)) := by
  have c1 := h.cell1
  have f1 := h.frozen1
  have hl := h.len
  have hg := h.lt
  simp only [List.length_cons] at hl
  have H := Lib.hid h.step
  have HB := Lib.hid ((But.refl g w).set 1 (.int .i64 ((a : Int) + 1)))
  have HV := Lib.hid hv
  clear h hv
  go_enter Try.func14, Try.ntmps14
  go_wp2_with fail
  clear c1 f1
  refine (blanks_any g s _ t _ hs H.out).mono ?_
  rintro e w' ⟨b, hr, hb, rfl⟩
  replace HB := Lib.hid (HB.out.trans hb)
  replace H := Lib.hid hr
  clear hr hb
  have hsk := skip_le t
  go_wp2_with fail
  refine (take_any g s _ (skip t) 125 _ hs H.out).mono ?_
  rintro e w' ⟨b, hr, hb, rfl⟩
  replace HB := Lib.hid (HB.out.trans hb)
  clear hb H
  cases F1 : take 125 (skip t) with
  | some t1 =>
    rw [F1] at hr
    have H := Lib.hid (show Rd _ g s b t1 from hr)
    have E := Lib.hid (show obj s.size (val s.size n) t = some (([], []), t1) by simp [obj, F1])
    clear hr F1
    go_wp2
    go_ret3
    rw [E.out]
    exact ⟨b, none, 0, none, 0, H.out, HB.out, Kd.R_nil _ _ _ _ _, Kd.R_nil _ _ _ _ _, rfl⟩
  | none =>
    rw [F1] at hr
    have H := Lib.hid (show Rd _ g s b (skip t) from hr)
    have E := Lib.hid (show obj s.size (val s.size n) t = mems s.size (val s.size n) (t.length + 1) (skip t) [] [] by simp [obj, F1])
    clear hr F1
    go_wp2
    go_loopg [5, 6] (t.length + 1) (fun kq v5 v6 w' => Hid (∃ a' l' ns ks A3 c3 A4 c4, v5 = .slice A3 (ns : List Sp).length c3 ∧ v6 = .slice A4 (ks : List Pl).length c4 ∧ Rd w' g s a' l' ∧ l'.length < kq ∧ l'.length ≤ t.length ∧ ns.length + l'.length ≤ s.size ∧ ks.length + l'.length ≤ s.size ∧
        mems s.size (val s.size n) kq l' ns ks = mems s.size (val s.size n) (t.length + 1) (skip t) [] [] ∧ kSp.R tSp w' w.heap.size (fun _ => True) (.slice A3 ns.length c3) ns ∧
        kPl.R tPl w' w.heap.size (fun k => True ∧ some k ≠ (Value.slice A3 ns.length c3).ownBlock) (.slice A4 ks.length c4) ks ∧ But g w w'))
    case atStart => exact Lib.hid ⟨b, skip t, [], [], none, 0, none, 0, rfl, rfl, H.out, by omega, hsk, by simp only [List.length_nil]; omega, by simp only [List.length_nil]; omega, rfl, Kd.R_nil _ _ _ _ _, Kd.R_nil _ _ _ _ _, HB.out⟩
    case round =>
      obtain ⟨a', l', ns, ks, A3, c3, A4, c4, rfl, rfl, hr, hk, hlt, hsz, hsz', he, hN, hR, hb⟩ := hrel.out
      clear hrel
      obtain ⟨m, rfl⟩ : ∃ m, gk = m + 1 := ⟨gk - 1, by omega⟩
      have H := Lib.hid hr
      have HB := Lib.hid hb
      have HN := Lib.hid hN
      have HR := Lib.hid hR
      have HX := Lib.hid he
      have c1 := hr.cell1
      clear hr hb hR hN he
      cases l' with
      | nil =>
        have HZ := Lib.hid (show obj s.size (val s.size n) t = none by rw [E.out, ← HX.out]; simp [mems, take])
        go_wp2_with fail
        refine (here_any g s _ _ _ hs H.out).mono ?_
        rw [show hd ([] : L) = 0 from rfl]
        rintro e w' ⟨rfl, n0, rfl⟩
        go_wp2
        go_ret3
        rw [HZ.out]
        exact ⟨_, _, H.out.drew _, HB.out.drewN _, rfl⟩
      | cons x r =>
      by_cases q : x ≠ 34
      · have b1 : (x != 34) = true := bne_iff_ne.mpr q
        have HZ := Lib.hid (show obj s.size (val s.size n) t = none by rw [E.out, ← HX.out]; simp [mems, take, q])
        clear q
        go_wp2_with fail
        refine (here_any g s _ _ _ hs H.out).mono ?_
        rw [show hd (x :: r) = x from rfl]
        rintro e w' ⟨rfl, n0, rfl⟩
        go_wp2
        go_ret3
        rw [HZ.out]
        exact ⟨_, _, H.out.drew _, HB.out.drewN _, rfl⟩
      have q' : x = 34 := Decidable.not_not.1 q
      subst q'
      clear q
      have HT := Lib.hid (show take 34 (34 :: r) = some r from rfl)
      simp only [List.length_cons] at hk hlt hsz hsz'
      have HP0 := Lib.hid H.out.pos
      go_wp2_with fail
      refine (here_any g s _ _ _ hs H.out).mono ?_
      rw [show hd ((34 : Int) :: r) = 34 from rfl]
      rintro e w' ⟨rfl, n0, rfl⟩
      replace HB := Lib.hid (HB.out.drewN n0)
      replace H := Lib.hid (H.out.drew n0)
      replace HN := Lib.hid (Kd.R_below HN.out (pw_below_drewN (Below.refl _ _) n0))
      replace HR := Lib.hid (Kd.R_below HR.out (pw_below_drewN (Below.refl _ _) n0))
      go_wp2_with fail
      clear c1
      refine (quoted_any g s _ 34 r _ hs H.out).mono ?_
      rintro e w' ⟨b, l1, hr, hb, rfl, hu⟩
      replace HB := Lib.hid (HB.out.trans hb)
      replace HN := Lib.hid (R_but HN.out hb hg)
      replace HR := Lib.hid (R_but HR.out hb hg)
      replace H := Lib.hid hr
      have c1 := hr.cell1
      clear hr hb
      cases F2 : str r with
      | none =>
        have HZ := Lib.hid (show obj s.size (val s.size n) t = none by rw [E.out, ← HX.out]; simp [mems, HT.out, F2])
        clear hu F2
        go_wp2
        go_ret3
        rw [HZ.out]
        exact ⟨_, _, H.out, HB.out, rfl⟩
      | some l1' =>
      obtain rfl := hu l1' F2
      clear hu
      have hlt1 := str_lt' F2
      have HP1 := Lib.hid H.out.pos
      replace F2 := Lib.hid F2
      have hwr := HB.out.size
      go_wp2_with (at_builtin; refine Kd.R_append kSp (w0 := _) w.heap.size rfl (.tmp 33) (.tmp 40) 22 tSp _ 16 rfl Try.underlying22 infoSp rfl (by decide) (by decide) _ ns ⟨(a' : Int), (b : Int)⟩ [.int .i64 (a' : Int), .int .i64 (b : Int)] (fun _ => True) (fun _ => False) rfl (by simp [go_sem]) (kSp_mkM _ _ _ ⟨(a' : Int), (b : Int)⟩) (fun k hk => hk.elim) (fun _ _ => trivial) HN.out (Below.refl _ _) hwr (by omega) ?_; intro v1 w1 hN1 hB1 hg1 hat1)
      replace HR := Lib.hid (Kd.R_after HR.out hg1 hat1)
      replace HB := Lib.hid (HB.out.below (Nat.le_refl _) hB1)
      replace H := Lib.hid (H.out.below hg hB1)
      obtain ⟨ns1, hA⟩ : ∃ z, z = ns ++ [⟨(a' : Int), (b : Int)⟩] := ⟨_, rfl⟩
      rw [← hA] at hN1
      have hAl := Lib.hid (show ns1.length = ns.length + 1 by rw [hA]; simp)
      replace hA := Lib.hid (show ns1 = ns ++ [⟨pos s.size (34 :: r), pos s.size l1⟩] by rw [hA, HP0.out, HP1.out])
      obtain ⟨A7, c7, rfl⟩ := Kd.R_slice hN1
      replace HN := Lib.hid hN1
      clear hN1 hB1 hg1 hat1 c1 HP0 HP1
      refine (blanks_any g s _ l1 _ hs H.out).mono ?_
      rintro e w' ⟨b2, hr, hb, rfl⟩
      replace HB := Lib.hid (HB.out.trans hb)
      replace HN := Lib.hid (R_but HN.out hb hg)
      replace HR := Lib.hid (R_but HR.out hb hg)
      replace H := Lib.hid hr
      clear hr hb
      have hsk1 := skip_le l1
      go_wp2_with fail
      refine (take_any g s _ (skip l1) 58 _ hs H.out).mono ?_
      rintro e w' ⟨b3, hr, hb, rfl⟩
      replace HB := Lib.hid (HB.out.trans hb)
      replace HN := Lib.hid (R_but HN.out hb hg)
      replace HR := Lib.hid (R_but HR.out hb hg)
      clear hb H
      cases F3 : take 58 (skip l1) with
      | none =>
        rw [F3] at hr
        have H := Lib.hid (show Rd _ g s b3 (skip l1) from hr)
        have HZ := Lib.hid (show obj s.size (val s.size n) t = none by rw [E.out, ← HX.out]; simp [mems, HT.out, F2.out, F3])
        clear hr F3
        go_wp2
        go_ret3
        rw [HZ.out]
        exact ⟨_, _, H.out, HB.out, rfl⟩
      | some l2 =>
      rw [F3] at hr
      have H := Lib.hid (show Rd _ g s b3 l2 from hr)
      have hlt3 := take_lt F3
      replace F3 := Lib.hid F3
      clear hr
      go_wp2_with fail
      refine (blanks_any g s _ l2 _ hs H.out).mono ?_
      rintro e w' ⟨b4, hr, hb, rfl⟩
      replace HB := Lib.hid (HB.out.trans hb)
      replace HN := Lib.hid (R_but HN.out hb hg)
      replace HR := Lib.hid (R_but HR.out hb hg)
      replace H := Lib.hid hr
      clear hr hb
      have hsk2 := skip_le l2
      go_wp2_with fail
      have hown1 : ∀ k, w'.heap.size ≤ k → some k ≠ (Value.slice A7 ns1.length c7).ownBlock := by
        intro k hk he
        obtain ⟨inner, ho⟩ := Kd.R_own HN.out
        have := own_lt ho k he.symm
        omega
      have hown2 : ∀ k, w'.heap.size ≤ k → some k ≠ (Value.slice A4 ks.length c4).ownBlock := by
        intro k hk he
        obtain ⟨inner, ho⟩ := Kd.R_own HR.out
        have := own_lt ho k he.symm
        omega
      have hwr2 := HB.out.size
      refine (HV.out g _ (skip l2) _ (by omega) H.out).mono ?_
      cases F4 : val s.size n (skip l2) with
      | none =>
        rintro e w2 ⟨b, t2, k, b0, e0, hr, hb, rfl⟩
        replace HB := Lib.hid (HB.out.trans hb)
        replace H := Lib.hid hr
        have HZ := Lib.hid (show obj s.size (val s.size n) t = none by rw [E.out, ← HX.out]; simp [mems, HT.out, F2.out, F3.out, F4])
        clear hr hb F4
        go_wp2
        go_ret3
        rw [HZ.out]
        exact ⟨_, _, H.out.alloc _, HB.out.alloc _, rfl⟩
      | some x =>
      obtain ⟨p, t2⟩ := x
      rintro e w2 ⟨b5, A5, c5, A6, c6, hr, hb, h5, h6, rfl⟩
      have hsz2 := hb.size
      replace HN := Lib.hid (R_but HN.out hb hg)
      replace HR := Lib.hid (R_but HR.out hb hg)
      have HP := Lib.hid (kPl.M_lower hwr2 (Kd.M_mono kPl (fun k hk => hk.2.1) (kPl.M_bound (kPl_mkM _ _ _ p h5 h6))))
      replace HB := Lib.hid (HB.out.trans hb)
      replace H := Lib.hid hr
      have hlt4 := val_lt F4
      replace F4 := Lib.hid F4
      clear hr hb h5 h6
      go_wp2_with (at_builtin; refine Kd.R_append kPl (w0 := _) w.heap.size rfl (.tmp 56) (.tmp 58) 23 tPl _ 72 rfl Try.underlying23 infoPl rfl (by decide) (by decide) _ ks p [.int .i64 p.kind, .int .i64 p.b, .int .i64 p.e, .slice A5 p.names.length c5, .slice A6 p.kids.length c6] (fun k => True ∧ some k ≠ (Value.slice A7 ns1.length c7).ownBlock) (fun k => w'.heap.size ≤ k) rfl (by simp [go_sem]) (Kd.M_below HP.out (below_alloc (Below.refl _ _) _)) (fun k hk => ⟨⟨trivial, hown1 k hk⟩, hown2 k hk⟩) (fun k hk => ⟨trivial, hown1 k (by simp at hk; omega)⟩) (Kd.R_below HR.out (below_alloc (Below.refl _ _) _)) (Below.refl _ _) (by simp; omega) (by omega) ?_; intro v1 w1 hR1 hB1 hg1 hat1)
      replace HN := Lib.hid (Kd.R_over' (Kd.R_below HN.out (below_alloc (Below.refl _ _) (.cells #[.int .i64 p.kind, .int .i64 p.b, .int .i64 p.e, .slice A5 p.names.length c5, .slice A6 p.kids.length c6] tPl))) (Kd.R_typed (Kd.R_below HR.out (below_alloc (Below.refl _ _) _))) kSp_E hg1)
      replace HB := Lib.hid ((HB.out.alloc (.cells #[.int .i64 p.kind, .int .i64 p.b, .int .i64 p.e, .slice A5 p.names.length c5, .slice A6 p.kids.length c6] tPl)).below (Nat.le_refl _) hB1)
      replace H := Lib.hid ((H.out.alloc (.cells #[.int .i64 p.kind, .int .i64 p.b, .int .i64 p.e, .slice A5 p.names.length c5, .slice A6 p.kids.length c6] tPl)).below hg hB1)
      obtain ⟨ks1, hA2⟩ : ∃ z, z = ks ++ [p] := ⟨_, rfl⟩
      rw [← hA2] at hR1
      have hAl2 := Lib.hid (show ks1.length = ks.length + 1 by rw [hA2]; simp)
      replace hA2 := Lib.hid hA2
      obtain ⟨A8, c8, rfl⟩ := Kd.R_slice hR1
      replace HR := Lib.hid hR1
      clear hR1 hB1 hg1 hat1 HP hown1 hown2
      refine (blanks_any g s _ t2 _ hs H.out).mono ?_
      rintro e w' ⟨b6, hr, hb, rfl⟩
      replace HB := Lib.hid (HB.out.trans hb)
      replace HN := Lib.hid (R_but HN.out hb hg)
      replace HR := Lib.hid (R_but HR.out hb hg)
      replace H := Lib.hid hr
      clear hr hb
      have hsk4 := skip_le t2
      go_wp2_with fail
      refine (take_any g s _ (skip t2) 125 _ hs H.out).mono ?_
      rintro e w' ⟨b7, hr, hb, rfl⟩
      replace HB := Lib.hid (HB.out.trans hb)
      replace HN := Lib.hid (R_but HN.out hb hg)
      replace HR := Lib.hid (R_but HR.out hb hg)
      clear hb H
      cases F5 : take 125 (skip t2) with
      | some t5 =>
        rw [F5] at hr
        have H := Lib.hid (show Rd _ g s b7 t5 from hr)
        have HZ := Lib.hid (show obj s.size (val s.size n) t = some ((ns1, ks1), t5) by rw [E.out, ← HX.out, hA.out, hA2.out]; simp [mems, HT.out, F2.out, F3.out, F4.out, F5])
        clear hr F5
        go_wp2
        go_ret3
        rw [HZ.out]
        exact ⟨b7, A7, c7, A8, c8, H.out, HB.out, HN.out, Kd.R_drop HR.out |> fun h => Kd.R_mono h (fun _ _ => trivial), rfl⟩
      | none =>
      rw [F5] at hr
      have H := Lib.hid (show Rd _ g s b7 (skip t2) from hr)
      replace F5 := Lib.hid F5
      clear hr
      go_wp2_with fail
      refine (take_any g s _ (skip t2) 44 _ hs H.out).mono ?_
      rintro e w' ⟨b8, hr, hb, rfl⟩
      replace HB := Lib.hid (HB.out.trans hb)
      replace HN := Lib.hid (R_but HN.out hb hg)
      replace HR := Lib.hid (R_but HR.out hb hg)
      clear hb H
      cases F6 : take 44 (skip t2) with
      | none =>
        rw [F6] at hr
        have H := Lib.hid (show Rd _ g s b8 (skip t2) from hr)
        have HZ := Lib.hid (show obj s.size (val s.size n) t = none by rw [E.out, ← HX.out]; simp [mems, HT.out, F2.out, F3.out, F4.out, F5.out, F6])
        clear hr F6
        go_wp2
        go_ret3
        rw [HZ.out]
        exact ⟨_, _, H.out, HB.out, rfl⟩
      | some t6 =>
      rw [F6] at hr
      have H := Lib.hid (show Rd _ g s b8 t6 from hr)
      have HZ := Lib.hid (show mems s.size (val s.size n) m (skip t6) ns1 ks1 = mems s.size (val s.size n) (t.length + 1) (skip t) [] [] by rw [← HX.out, hA.out, hA2.out]; simp [mems, HT.out, F2.out, F3.out, F4.out, F5.out, F6])
      have hsk6 := skip_le t6
      have hlt6 := take_lt F6
      clear hr F6
      go_wp2_with fail
      refine (blanks_any g s _ t6 _ hs H.out).mono ?_
      rintro e w' ⟨b9, hr, hb, rfl⟩
      replace HB := Lib.hid (HB.out.trans hb)
      replace HN := Lib.hid (R_but HN.out hb hg)
      replace HR := Lib.hid (R_but HR.out hb hg)
      replace H := Lib.hid hr
      clear hr hb
      go_wp2
      go_roundg m
      case rel => exact Lib.hid ⟨b9, skip t6, ns1, ks1, A7, c7, A8, c8, rfl, rfl, H.out, by omega, by omega, by have := hAl.out; omega, by have := hAl2.out; omega, HZ.out, HN.out, HR.out, HB.out⟩
      case measure => omega
end Go.Proofs.Ytiehnomfckbnhaa.J
