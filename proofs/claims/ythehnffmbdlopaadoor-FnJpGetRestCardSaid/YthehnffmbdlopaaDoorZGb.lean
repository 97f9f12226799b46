/- Several texts in one. -/
import Derived.Test.YthehnffmbdlopaaDoorZGa
set_option linter.unusedVariables false
namespace Go.Proofs.YthehnffmbdlopaaDoor.J

theorem opt_le (c : Int) (l : L) : (opt c l).length ≤ l.length := by
  unfold opt
  cases h : take c l with
  | none => exact Nat.le_refl _
  | some t => have := take_lt h; show t.length ≤ _; omega
theorem expTail_lt {l r : L} (h : expTail l = some r) : r.length < l.length := by
  unfold expTail at h
  split at h
  · rename_i u hu; have := take_lt hu; have := digits_lt h; omega
  · have := digits_lt h; have := opt_le 45 l; omega
theorem expo_le {l r : L} (h : expo l = some r) : r.length ≤ l.length := by
  unfold expo at h
  split at h
  · rename_i t ht; have := take_lt ht; have := expTail_lt h; omega
  · split at h
    · rename_i t ht; have := take_lt ht; have := expTail_lt h; omega
    · injection h with h; subst h; exact Nat.le_refl _
theorem frac_le {l r : L} (h : frac l = some r) : r.length ≤ l.length := by
  unfold frac at h
  split at h
  · rename_i t ht
    obtain ⟨u, hu, h⟩ := Option.bind_eq_some_iff.1 h
    have := take_lt ht; have := digits_lt hu; have := expo_le h; omega
  · exact expo_le h
theorem whole_lt {l r : L} (h : whole l = some r) : r.length < l.length := by
  unfold whole at h
  split at h
  · rename_i t ht; injection h with h; subst h; have := take_lt ht; omega
  · exact digits_lt h
theorem num_lt {l r : L} (h : num l = some r) : r.length < l.length := by
  unfold num at h
  obtain ⟨u, hu, h⟩ := Option.bind_eq_some_iff.1 h
  have := whole_lt hu; have := frac_le h; have := opt_le 45 l; omega
theorem word_lt {wd l r : L} (hw : 0 < wd.length) (h : word wd l = some r) : r.length < l.length := by
  unfold word at h
  split at h
  · rename_i hp
    injection h with h; subst h
    have := (List.isPrefixOf_iff_prefix.1 hp).length_le
    rw [List.length_drop]; omega
  · cases h
def Short (v : L → Option (Pl × L)) : Prop := ∀ l x, v l = some x → x.2.length < l.length
theorem elems_lt {v : L → Option (Pl × L)} (hv : Short v) : ∀ (m : Nat) (l : L) (acc : List Pl) (x : List Pl × L), elems v m l acc = some x → x.2.length < l.length
  | 0, _, _, _, h => by simp [elems] at h
  | m + 1, l, acc, x, h => by
    simp only [elems] at h
    obtain ⟨y, hy, h⟩ := Option.bind_eq_some_iff.1 h
    have h1 := hv l y hy
    have h2 := skip_le y.2
    split at h
    · rename_i t ht; injection h with h; subst h; have := take_lt ht; show t.length < _; omega
    · obtain ⟨t, ht, h⟩ := Option.bind_eq_some_iff.1 h
      have := take_lt ht; have := skip_le t; have := elems_lt hv m _ _ _ h; omega
theorem mems_lt {N : Nat} {v : L → Option (Pl × L)} (hv : Short v) : ∀ (m : Nat) (l : L) (ns : List Sp) (ks : List Pl) (x : (List Sp × List Pl) × L), mems N v m l ns ks = some x → x.2.length < l.length
  | 0, _, _, _, _, h => by simp [mems] at h
  | m + 1, l, ns, ks, x, h => by
    simp only [mems] at h
    obtain ⟨t, ht, h⟩ := Option.bind_eq_some_iff.1 h
    obtain ⟨l1, h1, h⟩ := Option.bind_eq_some_iff.1 h
    obtain ⟨l2, h2, h⟩ := Option.bind_eq_some_iff.1 h
    obtain ⟨y, hy, h⟩ := Option.bind_eq_some_iff.1 h
    have := take_lt ht; have := str_lt' h1; have := skip_le l1; have := take_lt h2; have := skip_le l2; have := hv _ y hy; have := skip_le y.2
    split at h
    · rename_i u hu; injection h with h; subst h; have := take_lt hu; show u.length < _; omega
    · obtain ⟨u, hu, h⟩ := Option.bind_eq_some_iff.1 h
      have := take_lt hu; have := skip_le u; have := mems_lt hv m _ _ _ _ h; omega
theorem arr_le {v : L → Option (Pl × L)} (hv : Short v) {t : L} {x : List Pl × L} (h : arr v t = some x) : x.2.length ≤ t.length := by
  unfold arr at h
  have := skip_le t
  split at h
  · rename_i u hu; injection h with h; subst h; have := take_lt hu; show u.length ≤ _; omega
  · have := elems_lt hv _ _ _ _ h; omega
theorem obj_le {N : Nat} {v : L → Option (Pl × L)} (hv : Short v) {t : L} {x : (List Sp × List Pl) × L} (h : obj N v t = some x) : x.2.length ≤ t.length := by
  unfold obj at h
  have := skip_le t
  split at h
  · rename_i u hu; injection h with h; subst h; have := take_lt hu; show u.length ≤ _; omega
  · have := mems_lt hv _ _ _ _ _ h; omega
theorem val_short (N : Nat) : ∀ n, Short (val N n)
  | 0 => fun l x h => by simp [val] at h
  | n + 1 => fun l x h => by
    cases l with
    | nil => simp [val] at h
    | cons c t =>
      simp only [val] at h
      simp only [List.length_cons]
      split at h
      · obtain ⟨y, hy, rfl⟩ := Option.map_eq_some_iff.1 h
        have := obj_le (val_short N n) hy; show y.2.length < _; omega
      split at h
      · obtain ⟨y, hy, rfl⟩ := Option.map_eq_some_iff.1 h
        have := arr_le (val_short N n) hy; show y.2.length < _; omega
      split at h
      · obtain ⟨y, hy, rfl⟩ := Option.map_eq_some_iff.1 h
        have := str_lt' hy; show y.length < _; omega
      split at h
      · obtain ⟨y, hy, rfl⟩ := Option.map_eq_some_iff.1 h
        have := num_lt hy; simp only [List.length_cons] at this; show y.length < _; omega
      split at h
      · rename_i r hr; injection h with h; subst h; have := word_lt (by decide) hr; simp only [List.length_cons] at this; exact this
      split at h
      · rename_i r hr; injection h with h; subst h; have := word_lt (by decide) hr; simp only [List.length_cons] at this; exact this
      split at h
      · rename_i r hr; injection h with h; subst h; have := word_lt (by decide) hr; simp only [List.length_cons] at this; exact this
      · cases h
theorem val_lt {N n : Nat} {l : L} {p : Pl} {t : L} (h : val N n l = some (p, t)) : t.length < l.length := val_short N n l (p, t) h
end Go.Proofs.YthehnffmbdlopaaDoor.J

set_option linter.unusedVariables false
set_option linter.unusedSimpArgs false
namespace Go.Proofs.YthehnffmbdlopaaDoor.J
open Go.RowKit Go.Proofs.YthehnffmbdlopaaDoorW.PrintWords Go.Proofs.YthehnffmbdlopaaDoorW.PrintLast Go.Proofs.YthehnffmbdlopaaDoorW.PrintMore Go.Proofs.YthehnffmbdlopaaDoor.Aid

section
variable {α : Type} {d : Kd α} {e : Nat} {W W' : World} {base : Nat} {ok : Nat → Prop} {v : Value} {xs : List α}
theorem R_from (h : d.R e W base ok v xs) (hb : ∀ k, base ≤ k → k < W.heap.size → W'.heap[k]? = W.heap[k]?) : d.R e W' base ok v xs :=
  Kd.R_mono (Kd.R_step (Kd.R_bound h) (fun k hk hlt => hb k hk.2.1 hlt)) (fun k hk => hk.1)
theorem R_but {g : Nat} (h : d.R e W base ok v xs) (hb : But g W W') (hg : g < base) : d.R e W' base ok v xs :=
  R_from h fun k hk hlt => hb.block k hlt (by omega)
end

def VPost (g : Nat) (s : ByteArray) (w : World) : Option (Pl × L) → Ending → World → Prop
  | some (p, t), e, w' => ∃ b A3 c3 A4 c4, Rd w' g s b t ∧ But g w w' ∧ kSp.R tSp w' w.heap.size (fun _ => True) (.slice A3 p.names.length c3) p.names ∧ kPl.R tPl w' w.heap.size (fun _ => True) (.slice A4 p.kids.length c4) p.kids ∧
      e = .returned (.tuple #[.agg #[.int .i64 p.kind, .int .i64 p.b, .int .i64 p.e, .slice A3 p.names.length c3, .slice A4 p.kids.length c4], .bool true])
  | none, e, w' => ∃ b t k b0 e0, Rd w' g s b t ∧ But g w w' ∧ e = .returned (.tuple #[.agg #[.int .i64 k, .int .i64 b0, .int .i64 e0, .slice none 0 0, .slice none 0 0], .bool false])
def EPost (g : Nat) (s : ByteArray) (w : World) : Option (List Pl × L) → Ending → World → Prop
  | some (ks, t), e, w' => ∃ b A4 c4, Rd w' g s b t ∧ But g w w' ∧ kPl.R tPl w' w.heap.size (fun _ => True) (.slice A4 ks.length c4) ks ∧ e = .returned (.tuple #[.slice A4 ks.length c4, .bool true])
  | none, e, w' => ∃ b t, Rd w' g s b t ∧ But g w w' ∧ e = .returned (.tuple #[.slice none 0 0, .bool false])
def MPost (g : Nat) (s : ByteArray) (w : World) : Option ((List Sp × List Pl) × L) → Ending → World → Prop
  | some ((ns, ks), t), e, w' => ∃ b A3 c3 A4 c4, Rd w' g s b t ∧ But g w w' ∧ kSp.R tSp w' w.heap.size (fun _ => True) (.slice A3 ns.length c3) ns ∧ kPl.R tPl w' w.heap.size (fun _ => True) (.slice A4 ks.length c4) ks ∧ e = .returned (.tuple #[.slice A3 ns.length c3, .slice A4 ks.length c4, .bool true])
  | none, e, w' => ∃ b t, Rd w' g s b t ∧ But g w w' ∧ e = .returned (.tuple #[.slice none 0 0, .slice none 0 0, .bool false])

/-- value's contract for rests shorter than n. -/
def ValC (s : ByteArray) (n : Nat) : Prop := ∀ (g a : Nat) (l : L) (w : World), l.length < n → Rd w g s a l → Calls Tryd.prog 47 #[.pointer (some ⟨g, 0, none⟩)] w (VPost g s w (val s.size n l))

theorem infoPl : (Tryd.prog.info? tPl).map (fun i => (i.zero, i.size, i.bytes)) = some (some (.agg #[.int .i64 0, .int .i64 0, .int .i64 0, .slice none 0 0, .slice none 0 0]), 5, 72) := by kernel_rfl
theorem infoSp : (Tryd.prog.info? tSp).map (fun i => (i.zero, i.size, i.bytes)) = some (some (.agg #[.int .i64 0, .int .i64 0]), 2, 16) := by kernel_rfl

set_option maxHeartbeats 4000000 in
set_option maxRecDepth 100000 in
theorem elements_any (s : ByteArray) (hs : s.size ≤ 2147483647) (n : Nat) (hv : ValC s n) (g a : Nat) (c : Int) (t : L) (w : World) (hn : t.length < n) (h : Rd w g s a (c :: t)) :
    Calls Tryd.prog 56 #[.pointer (some ⟨g, 0, none⟩)] w (EPost g s w (arr (val s.size n) t)) := by
  have c1 := h.cell1
  have f1 := h.frozen1
  have hl := h.len
  have hg := h.lt
  simp only [List.length_cons] at hl
  have H := Lib.hid h.step
  have HB := Lib.hid ((But.refl g w).set 1 (.int .i64 ((a : Int) + 1)))
  have HV := Lib.hid hv
  clear h hv
  go_enter Tryd.func56, Tryd.ntmps56
  go_wp2_with fail
  clear c1 f1
  refine (blanks_any g s _ t _ hs H.out).mono ?_
  rintro e w' ⟨b, hr, hb, rfl⟩
  replace HB := Lib.hid (HB.out.trans hb)
  replace H := Lib.hid hr
  clear hr hb
  have hsk := skip_le t
  go_wp2_with fail
  refine (take_any g s _ (skip t) 93 _ hs H.out).mono ?_
  rintro e w' ⟨b, hr, hb, rfl⟩
  replace HB := Lib.hid (HB.out.trans hb)
  clear hb H
  cases F1 : take 93 (skip t) with
  | some t1 =>
    rw [F1] at hr
    have H := Lib.hid (show Rd _ g s b t1 from hr)
    have E := Lib.hid (show arr (val s.size n) t = some ([], t1) by simp [arr, F1])
    clear hr F1
    go_wp2
    go_ret2
    rw [E.out]
    exact ⟨b, none, 0, H.out, HB.out, Kd.R_nil _ _ _ _ _, rfl⟩
  | none =>
    rw [F1] at hr
    have H := Lib.hid (show Rd _ g s b (skip t) from hr)
    have E := Lib.hid (show arr (val s.size n) t = elems (val s.size n) (t.length + 1) (skip t) [] by simp [arr, F1])
    clear hr F1
    go_wp2
    go_loopg [4] (t.length + 1) (fun kq v w' => Hid (∃ a' l' acc A4 c4, v = .slice A4 (acc : List Pl).length c4 ∧ Rd w' g s a' l' ∧ l'.length < kq ∧ l'.length ≤ t.length ∧ acc.length + l'.length ≤ s.size ∧
        elems (val s.size n) kq l' acc = elems (val s.size n) (t.length + 1) (skip t) [] ∧ kPl.R tPl w' w.heap.size (fun _ => True) (.slice A4 acc.length c4) acc ∧ But g w w'))
    case atStart => exact Lib.hid ⟨b, skip t, [], none, 0, rfl, H.out, by omega, hsk, by simp only [List.length_nil]; omega, rfl, Kd.R_nil _ _ _ _ _, HB.out⟩
    case round =>
      obtain ⟨a', l', acc, A4, c4, rfl, hr, hk, hlt, hsz, he, hR, hb⟩ := hrel.out
      clear hrel
      obtain ⟨m, rfl⟩ : ∃ m, gk = m + 1 := ⟨gk - 1, by omega⟩
      have H := Lib.hid hr
      have HB := Lib.hid hb
      have HR := Lib.hid hR
      have HX := Lib.hid he
      clear hr hb hR he
      go_wp2_with fail
      refine (HV.out g a' l' _ (by omega) H.out).mono ?_
      cases F2 : val s.size n l' with
      | none =>
        rintro e w' ⟨b, t2, k, b0, e0, hr, hb, rfl⟩
        replace HB := Lib.hid (HB.out.trans hb)
        replace H := Lib.hid hr
        have HN := Lib.hid (show arr (val s.size n) t = none by rw [E.out, ← HX.out]; simp [elems, F2])
        clear hr hb F2
        go_wp2
        go_ret2
        rw [HN.out]
        exact ⟨b, t2, H.out.alloc _, HB.out.alloc _, rfl⟩
      | some x =>
        obtain ⟨p, t2⟩ := x
        rintro e w' ⟨b, A5, c5, A6, c6, hr, hb, h5, h6, rfl⟩
        have hown : ∀ k, wr.heap.size ≤ k → some k ≠ (Value.slice A4 acc.length c4).ownBlock := by
          intro k hk he
          obtain ⟨inner, ho⟩ := Kd.R_own HR.out
          have := own_lt ho k he.symm
          omega
        have hwr := HB.out.size
        have hwr0 : w.heap.size ≤ w.heap.size := Nat.le_refl _
        have hsz2 := hb.size
        replace HR := Lib.hid (R_but HR.out hb hg)
        have HP := Lib.hid (kPl.M_lower hwr (Kd.M_mono kPl (fun k hk => hk.2.1) (kPl.M_bound (kPl_mkM _ _ _ p h5 h6))))
        replace HB := Lib.hid (HB.out.trans hb)
        replace H := Lib.hid hr
        have HF := Lib.hid F2
        clear hr hb F2 h5 h6
        go_wp2_with (at_builtin; refine Kd.R_append kPl (w0 := _) w.heap.size rfl (.tmp 25) (.tmp 27) 25 tPl _ 72 rfl Tryd.underlying25 infoPl rfl (by decide) (by decide) _ acc p [.int .i64 p.kind, .int .i64 p.b, .int .i64 p.e, .slice A5 p.names.length c5, .slice A6 p.kids.length c6] (fun _ => True) (fun k => wr.heap.size ≤ k) rfl (by simp [go_sem]) (Kd.M_below HP.out (below_alloc (Below.refl _ _) _)) (fun k hk => ⟨trivial, hown k hk⟩) (fun _ _ => trivial) (Kd.R_below HR.out (below_alloc (Below.refl _ _) _)) (Below.refl _ _) (by simp; omega) (by omega) ?_; intro v1 w1 hR1 hB1 hg1 hat1)
        replace HB := Lib.hid ((HB.out.alloc (.cells #[.int .i64 p.kind, .int .i64 p.b, .int .i64 p.e, .slice A5 p.names.length c5, .slice A6 p.kids.length c6] tPl)).below hwr0 hB1)
        replace H := Lib.hid ((H.out.alloc (.cells #[.int .i64 p.kind, .int .i64 p.b, .int .i64 p.e, .slice A5 p.names.length c5, .slice A6 p.kids.length c6] tPl)).below hg hB1)
        obtain ⟨acc1, hA⟩ : ∃ z, z = acc ++ [p] := ⟨_, rfl⟩
        rw [← hA] at hR1
        have hAl : acc1.length = acc.length + 1 := by rw [hA]; simp
        replace hAl := Lib.hid hAl
        replace hA := Lib.hid hA
        obtain ⟨A7, c7, rfl⟩ := Kd.R_slice hR1
        replace HR := Lib.hid hR1
        clear hR1 hB1 hg1 hat1 HP
        refine (blanks_any g s _ t2 _ hs H.out).mono ?_
        rintro e w' ⟨b, hr, hb, rfl⟩
        replace HB := Lib.hid (HB.out.trans hb)
        replace H := Lib.hid hr
        replace HR := Lib.hid (R_but HR.out hb hg)
        clear hr hb
        have hsk2 := skip_le t2
        have hlt2 := val_lt HF.out
        go_wp2_with fail
        refine (take_any g s _ (skip t2) 93 _ hs H.out).mono ?_
        rintro e w' ⟨b, hr, hb, rfl⟩
        replace HB := Lib.hid (HB.out.trans hb)
        replace HR := Lib.hid (R_but HR.out hb hg)
        clear hb H
        cases F3 : take 93 (skip t2) with
        | some t3 =>
          rw [F3] at hr
          have H := Lib.hid (show Rd _ g s b t3 from hr)
          have HN := Lib.hid (show arr (val s.size n) t = some (acc1, t3) by rw [E.out, ← HX.out, hA.out]; simp [elems, HF.out, F3])
          clear hr F3
          go_wp2
          go_ret2
          rw [HN.out]
          exact ⟨b, A7, c7, H.out, HB.out, HR.out, rfl⟩
        | none =>
          rw [F3] at hr
          have H := Lib.hid (show Rd _ g s b (skip t2) from hr)
          replace F3 := Lib.hid F3
          clear hr
          go_wp2_with fail
          refine (take_any g s _ (skip t2) 44 _ hs H.out).mono ?_
          rintro e w' ⟨b, hr, hb, rfl⟩
          replace HB := Lib.hid (HB.out.trans hb)
          replace HR := Lib.hid (R_but HR.out hb hg)
          clear hb H
          cases F4 : take 44 (skip t2) with
          | none =>
            rw [F4] at hr
            have H := Lib.hid (show Rd _ g s b (skip t2) from hr)
            have HN := Lib.hid (show arr (val s.size n) t = none by rw [E.out, ← HX.out]; simp [elems, HF.out, F3.out, F4])
            clear hr F4
            go_wp2
            go_ret2
            rw [HN.out]
            exact ⟨b, _, H.out, HB.out, rfl⟩
          | some t4 =>
            rw [F4] at hr
            have H := Lib.hid (show Rd _ g s b t4 from hr)
            have HN := Lib.hid (show elems (val s.size n) m (skip t4) acc1 = elems (val s.size n) (t.length + 1) (skip t) [] by rw [← HX.out, hA.out]; simp [elems, HF.out, F3.out, F4])
            have hsk4 := skip_le t4
            have hlt4 := take_lt F4
            clear hr F4
            go_wp2_with fail
            refine (blanks_any g s _ t4 _ hs H.out).mono ?_
            rintro e w' ⟨b, hr, hb, rfl⟩
            replace HB := Lib.hid (HB.out.trans hb)
            replace H := Lib.hid hr
            replace HR := Lib.hid (R_but HR.out hb hg)
            clear hr hb
            go_wp2
            go_roundg m
            case rel => exact Lib.hid ⟨b, skip t4, acc1, A7, c7, rfl, H.out, by omega, by omega, by have := hAl.out; omega, HN.out, HR.out, HB.out⟩
            case measure => omega
end Go.Proofs.YthehnffmbdlopaaDoor.J

set_option linter.unusedVariables false
set_option linter.unusedSimpArgs false
namespace Go.Proofs.YthehnffmbdlopaaDoor.J
open Go.RowKit Go.Proofs.YthehnffmbdlopaaDoorW.PrintWords Go.Proofs.YthehnffmbdlopaaDoorW.PrintLast Go.Proofs.YthehnffmbdlopaaDoorW.PrintMore Go.Proofs.YthehnffmbdlopaaDoor.Aid

theorem kSp_E : ∀ q, q ∈ tSp :: kSp.E → q ≠ tPl := by
  intro q hq
  have : q = tSp := by simpa [kSp, Kd.iso, Kd.pair, Kd.int, Kd.scalar] using hq
  subst this; decide
set_option maxHeartbeats 8000000 in
set_option maxRecDepth 100000 in
theorem members_any (s : ByteArray) (hs : s.size ≤ 2147483647) (n : Nat) (hv : ValC s n) (g a : Nat) (c : Int) (t : L) (w : World) (hn : t.length < n) (h : Rd w g s a (c :: t)) :
    Calls Tryd.prog 55 #[.pointer (some ⟨g, 0, none⟩)] w (MPost g s w (obj s.size (val s.size n) t)) := by
  have c1 := h.cell1
  have f1 := h.frozen1
  have hl := h.len
  have hg := h.lt
  simp only [List.length_cons] at hl
  have H := Lib.hid h.step
  have HB := Lib.hid ((But.refl g w).set 1 (.int .i64 ((a : Int) + 1)))
  have HV := Lib.hid hv
  clear h hv
  go_enter Tryd.func55, Tryd.ntmps55
  go_wp2_with fail
  clear c1 f1
  refine (blanks_any g s _ t _ hs H.out).mono ?_
  rintro e w' ⟨b, hr, hb, rfl⟩
  replace HB := Lib.hid (HB.out.trans hb)
  replace H := Lib.hid hr
  clear hr hb
  have hsk := skip_le t
  go_wp2_with fail
  refine (take_any g s _ (skip t) 125 _ hs H.out).mono ?_
  rintro e w' ⟨b, hr, hb, rfl⟩
  replace HB := Lib.hid (HB.out.trans hb)
  clear hb H
  cases F1 : take 125 (skip t) with
  | some t1 =>
    rw [F1] at hr
    have H := Lib.hid (show Rd _ g s b t1 from hr)
    have E := Lib.hid (show obj s.size (val s.size n) t = some (([], []), t1) by simp [obj, F1])
    clear hr F1
    go_wp2
    go_ret3
    rw [E.out]
    exact ⟨b, none, 0, none, 0, H.out, HB.out, Kd.R_nil _ _ _ _ _, Kd.R_nil _ _ _ _ _, rfl⟩
  | none =>
    rw [F1] at hr
    have H := Lib.hid (show Rd _ g s b (skip t) from hr)
    have E := Lib.hid (show obj s.size (val s.size n) t = mems s.size (val s.size n) (t.length + 1) (skip t) [] [] by simp [obj, F1])
    clear hr F1
    go_wp2
    go_loopg [5, 6] (t.length + 1) (fun kq v5 v6 w' => Hid (∃ a' l' ns ks A3 c3 A4 c4, v5 = .slice A3 (ns : List Sp).length c3 ∧ v6 = .slice A4 (ks : List Pl).length c4 ∧ Rd w' g s a' l' ∧ l'.length < kq ∧ l'.length ≤ t.length ∧ ns.length + l'.length ≤ s.size ∧ ks.length + l'.length ≤ s.size ∧
        mems s.size (val s.size n) kq l' ns ks = mems s.size (val s.size n) (t.length + 1) (skip t) [] [] ∧ kSp.R tSp w' w.heap.size (fun _ => True) (.slice A3 ns.length c3) ns ∧
        kPl.R tPl w' w.heap.size (fun k => True ∧ some k ≠ (Value.slice A3 ns.length c3).ownBlock) (.slice A4 ks.length c4) ks ∧ But g w w'))
    case atStart => exact Lib.hid ⟨b, skip t, [], [], none, 0, none, 0, rfl, rfl, H.out, by omega, hsk, by simp only [List.length_nil]; omega, by simp only [List.length_nil]; omega, rfl, Kd.R_nil _ _ _ _ _, Kd.R_nil _ _ _ _ _, HB.out⟩
    case round =>
      obtain ⟨a', l', ns, ks, A3, c3, A4, c4, rfl, rfl, hr, hk, hlt, hsz, hsz', he, hN, hR, hb⟩ := hrel.out
      clear hrel
      obtain ⟨m, rfl⟩ : ∃ m, gk = m + 1 := ⟨gk - 1, by omega⟩
      have H := Lib.hid hr
      have HB := Lib.hid hb
      have HN := Lib.hid hN
      have HR := Lib.hid hR
      have HX := Lib.hid he
      have c1 := hr.cell1
      clear hr hb hR hN he
      cases l' with
      | nil =>
        have HZ := Lib.hid (show obj s.size (val s.size n) t = none by rw [E.out, ← HX.out]; simp [mems, take])
        go_wp2_with fail
        refine (here_any g s _ _ _ hs H.out).mono ?_
        rw [show hd ([] : L) = 0 from rfl]
        rintro e w' ⟨rfl, n0, rfl⟩
        go_wp2
        go_ret3
        rw [HZ.out]
        exact ⟨_, _, H.out.drew _, HB.out.drewN _, rfl⟩
      | cons x r =>
      by_cases q : x ≠ 34
      · have b1 : (x != 34) = true := bne_iff_ne.mpr q
        have HZ := Lib.hid (show obj s.size (val s.size n) t = none by rw [E.out, ← HX.out]; simp [mems, take, q])
        clear q
        go_wp2_with fail
        refine (here_any g s _ _ _ hs H.out).mono ?_
        rw [show hd (x :: r) = x from rfl]
        rintro e w' ⟨rfl, n0, rfl⟩
        go_wp2
        go_ret3
        rw [HZ.out]
        exact ⟨_, _, H.out.drew _, HB.out.drewN _, rfl⟩
      have q' : x = 34 := Decidable.not_not.1 q
      subst q'
      clear q
      have HT := Lib.hid (show take 34 (34 :: r) = some r from rfl)
      simp only [List.length_cons] at hk hlt hsz hsz'
      have HP0 := Lib.hid H.out.pos
      go_wp2_with fail
      refine (here_any g s _ _ _ hs H.out).mono ?_
      rw [show hd ((34 : Int) :: r) = 34 from rfl]
      rintro e w' ⟨rfl, n0, rfl⟩
      replace HB := Lib.hid (HB.out.drewN n0)
      replace H := Lib.hid (H.out.drew n0)
      replace HN := Lib.hid (Kd.R_below HN.out (pw_below_drewN (Below.refl _ _) n0))
      replace HR := Lib.hid (Kd.R_below HR.out (pw_below_drewN (Below.refl _ _) n0))
      go_wp2_with fail
      clear c1
      refine (quoted_any g s _ 34 r _ hs H.out).mono ?_
      rintro e w' ⟨b, l1, hr, hb, rfl, hu⟩
      replace HB := Lib.hid (HB.out.trans hb)
      replace HN := Lib.hid (R_but HN.out hb hg)
      replace HR := Lib.hid (R_but HR.out hb hg)
      replace H := Lib.hid hr
      have c1 := hr.cell1
      clear hr hb
      cases F2 : str r with
      | none =>
        have HZ := Lib.hid (show obj s.size (val s.size n) t = none by rw [E.out, ← HX.out]; simp [mems, HT.out, F2])
        clear hu F2
        go_wp2
        go_ret3
        rw [HZ.out]
        exact ⟨_, _, H.out, HB.out, rfl⟩
      | some l1' =>
      obtain rfl := hu l1' F2
      clear hu
      have hlt1 := str_lt' F2
      have HP1 := Lib.hid H.out.pos
      replace F2 := Lib.hid F2
      have hwr := HB.out.size
      go_wp2_with (at_builtin; refine Kd.R_append kSp (w0 := _) w.heap.size rfl (.tmp 33) (.tmp 40) 24 tSp _ 16 rfl Tryd.underlying24 infoSp rfl (by decide) (by decide) _ ns ⟨(a' : Int), (b : Int)⟩ [.int .i64 (a' : Int), .int .i64 (b : Int)] (fun _ => True) (fun _ => False) rfl (by simp [go_sem]) (kSp_mkM _ _ _ ⟨(a' : Int), (b : Int)⟩) (fun k hk => hk.elim) (fun _ _ => trivial) HN.out (Below.refl _ _) hwr (by omega) ?_; intro v1 w1 hN1 hB1 hg1 hat1)
      replace HR := Lib.hid (Kd.R_after HR.out hg1 hat1)
      replace HB := Lib.hid (HB.out.below (Nat.le_refl _) hB1)
      replace H := Lib.hid (H.out.below hg hB1)
      obtain ⟨ns1, hA⟩ : ∃ z, z = ns ++ [⟨(a' : Int), (b : Int)⟩] := ⟨_, rfl⟩
      rw [← hA] at hN1
      have hAl := Lib.hid (show ns1.length = ns.length + 1 by rw [hA]; simp)
      replace hA := Lib.hid (show ns1 = ns ++ [⟨pos s.size (34 :: r), pos s.size l1⟩] by rw [hA, HP0.out, HP1.out])
      obtain ⟨A7, c7, rfl⟩ := Kd.R_slice hN1
      replace HN := Lib.hid hN1
      clear hN1 hB1 hg1 hat1 c1 HP0 HP1
      refine (blanks_any g s _ l1 _ hs H.out).mono ?_
      rintro e w' ⟨b2, hr, hb, rfl⟩
      replace HB := Lib.hid (HB.out.trans hb)
      replace HN := Lib.hid (R_but HN.out hb hg)
      replace HR := Lib.hid (R_but HR.out hb hg)
      replace H := Lib.hid hr
      clear hr hb
      have hsk1 := skip_le l1
      go_wp2_with fail
      refine (take_any g s _ (skip l1) 58 _ hs H.out).mono ?_
      rintro e w' ⟨b3, hr, hb, rfl⟩
      replace HB := Lib.hid (HB.out.trans hb)
      replace HN := Lib.hid (R_but HN.out hb hg)
      replace HR := Lib.hid (R_but HR.out hb hg)
      clear hb H
      cases F3 : take 58 (skip l1) with
      | none =>
        rw [F3] at hr
        have H := Lib.hid (show Rd _ g s b3 (skip l1) from hr)
        have HZ := Lib.hid (show obj s.size (val s.size n) t = none by rw [E.out, ← HX.out]; simp [mems, HT.out, F2.out, F3])
        clear hr F3
        go_wp2
        go_ret3
        rw [HZ.out]
        exact ⟨_, _, H.out, HB.out, rfl⟩
      | some l2 =>
      rw [F3] at hr
      have H := Lib.hid (show Rd _ g s b3 l2 from hr)
      have hlt3 := take_lt F3
      replace F3 := Lib.hid F3
      clear hr
      go_wp2_with fail
      refine (blanks_any g s _ l2 _ hs H.out).mono ?_
      rintro e w' ⟨b4, hr, hb, rfl⟩
      replace HB := Lib.hid (HB.out.trans hb)
      replace HN := Lib.hid (R_but HN.out hb hg)
      replace HR := Lib.hid (R_but HR.out hb hg)
      replace H := Lib.hid hr
      clear hr hb
      have hsk2 := skip_le l2
      go_wp2_with fail
      have hown1 : ∀ k, w'.heap.size ≤ k → some k ≠ (Value.slice A7 ns1.length c7).ownBlock := by
        intro k hk he
        obtain ⟨inner, ho⟩ := Kd.R_own HN.out
        have := own_lt ho k he.symm
        omega
      have hown2 : ∀ k, w'.heap.size ≤ k → some k ≠ (Value.slice A4 ks.length c4).ownBlock := by
        intro k hk he
        obtain ⟨inner, ho⟩ := Kd.R_own HR.out
        have := own_lt ho k he.symm
        omega
      have hwr2 := HB.out.size
      refine (HV.out g _ (skip l2) _ (by omega) H.out).mono ?_
      cases F4 : val s.size n (skip l2) with
      | none =>
        rintro e w2 ⟨b, t2, k, b0, e0, hr, hb, rfl⟩
        replace HB := Lib.hid (HB.out.trans hb)
        replace H := Lib.hid hr
        have HZ := Lib.hid (show obj s.size (val s.size n) t = none by rw [E.out, ← HX.out]; simp [mems, HT.out, F2.out, F3.out, F4])
        clear hr hb F4
        go_wp2
        go_ret3
        rw [HZ.out]
        exact ⟨_, _, H.out.alloc _, HB.out.alloc _, rfl⟩
      | some x =>
      obtain ⟨p, t2⟩ := x
      rintro e w2 ⟨b5, A5, c5, A6, c6, hr, hb, h5, h6, rfl⟩
      have hsz2 := hb.size
      replace HN := Lib.hid (R_but HN.out hb hg)
      replace HR := Lib.hid (R_but HR.out hb hg)
      have HP := Lib.hid (kPl.M_lower hwr2 (Kd.M_mono kPl (fun k hk => hk.2.1) (kPl.M_bound (kPl_mkM _ _ _ p h5 h6))))
      replace HB := Lib.hid (HB.out.trans hb)
      replace H := Lib.hid hr
      have hlt4 := val_lt F4
      replace F4 := Lib.hid F4
      clear hr hb h5 h6
      go_wp2_with (at_builtin; refine Kd.R_append kPl (w0 := _) w.heap.size rfl (.tmp 56) (.tmp 58) 25 tPl _ 72 rfl Tryd.underlying25 infoPl rfl (by decide) (by decide) _ ks p [.int .i64 p.kind, .int .i64 p.b, .int .i64 p.e, .slice A5 p.names.length c5, .slice A6 p.kids.length c6] (fun k => True ∧ some k ≠ (Value.slice A7 ns1.length c7).ownBlock) (fun k => w'.heap.size ≤ k) rfl (by simp [go_sem]) (Kd.M_below HP.out (below_alloc (Below.refl _ _) _)) (fun k hk => ⟨⟨trivial, hown1 k hk⟩, hown2 k hk⟩) (fun k hk => ⟨trivial, hown1 k (by simp at hk; omega)⟩) (Kd.R_below HR.out (below_alloc (Below.refl _ _) _)) (Below.refl _ _) (by simp; omega) (by omega) ?_; intro v1 w1 hR1 hB1 hg1 hat1)
      replace HN := Lib.hid (Kd.R_over' (Kd.R_below HN.out (below_alloc (Below.refl _ _) (.cells #[.int .i64 p.kind, .int .i64 p.b, .int .i64 p.e, .slice A5 p.names.length c5, .slice A6 p.kids.length c6] tPl))) (Kd.R_typed (Kd.R_below HR.out (below_alloc (Below.refl _ _) _))) kSp_E hg1)
      replace HB := Lib.hid ((HB.out.alloc (.cells #[.int .i64 p.kind, .int .i64 p.b, .int .i64 p.e, .slice A5 p.names.length c5, .slice A6 p.kids.length c6] tPl)).below (Nat.le_refl _) hB1)
      replace H := Lib.hid ((H.out.alloc (.cells #[.int .i64 p.kind, .int .i64 p.b, .int .i64 p.e, .slice A5 p.names.length c5, .slice A6 p.kids.length c6] tPl)).below hg hB1)
      obtain ⟨ks1, hA2⟩ : ∃ z, z = ks ++ [p] := ⟨_, rfl⟩
      rw [← hA2] at hR1
      have hAl2 := Lib.hid (show ks1.length = ks.length + 1 by rw [hA2]; simp)
      replace hA2 := Lib.hid hA2
      obtain ⟨A8, c8, rfl⟩ := Kd.R_slice hR1
      replace HR := Lib.hid hR1
      clear hR1 hB1 hg1 hat1 HP hown1 hown2
      refine (blanks_any g s _ t2 _ hs H.out).mono ?_
      rintro e w' ⟨b6, hr, hb, rfl⟩
      replace HB := Lib.hid (HB.out.trans hb)
      replace HN := Lib.hid (R_but HN.out hb hg)
      replace HR := Lib.hid (R_but HR.out hb hg)
      replace H := Lib.hid hr
      clear hr hb
      have hsk4 := skip_le t2
      go_wp2_with fail
      refine (take_any g s _ (skip t2) 125 _ hs H.out).mono ?_
      rintro e w' ⟨b7, hr, hb, rfl⟩
      replace HB := Lib.hid (HB.out.trans hb)
      replace HN := Lib.hid (R_but HN.out hb hg)
      replace HR := Lib.hid (R_but HR.out hb hg)
      clear hb H
      cases F5 : take 125 (skip t2) with
      | some t5 =>
        rw [F5] at hr
        have H := Lib.hid (show Rd _ g s b7 t5 from hr)
        have HZ := Lib.hid (show obj s.size (val s.size n) t = some ((ns1, ks1), t5) by rw [E.out, ← HX.out, hA.out, hA2.out]; simp [mems, HT.out, F2.out, F3.out, F4.out, F5])
        clear hr F5
        go_wp2
        go_ret3
        rw [HZ.out]
        exact ⟨b7, A7, c7, A8, c8, H.out, HB.out, HN.out, Kd.R_drop HR.out |> fun h => Kd.R_mono h (fun _ _ => trivial), rfl⟩
      | none =>
      rw [F5] at hr
      have H := Lib.hid (show Rd _ g s b7 (skip t2) from hr)
      replace F5 := Lib.hid F5
      clear hr
      go_wp2_with fail
      refine (take_any g s _ (skip t2) 44 _ hs H.out).mono ?_
      rintro e w' ⟨b8, hr, hb, rfl⟩
      replace HB := Lib.hid (HB.out.trans hb)
      replace HN := Lib.hid (R_but HN.out hb hg)
      replace HR := Lib.hid (R_but HR.out hb hg)
      clear hb H
      cases F6 : take 44 (skip t2) with
      | none =>
        rw [F6] at hr
        have H := Lib.hid (show Rd _ g s b8 (skip t2) from hr)
        have HZ := Lib.hid (show obj s.size (val s.size n) t = none by rw [E.out, ← HX.out]; simp [mems, HT.out, F2.out, F3.out, F4.out, F5.out, F6])
        clear hr F6
        go_wp2
        go_ret3
        rw [HZ.out]
        exact ⟨_, _, H.out, HB.out, rfl⟩
      | some t6 =>
      rw [F6] at hr
      have H := Lib.hid (show Rd _ g s b8 t6 from hr)
      have HZ := Lib.hid (show mems s.size (val s.size n) m (skip t6) ns1 ks1 = mems s.size (val s.size n) (t.length + 1) (skip t) [] [] by rw [← HX.out, hA.out, hA2.out]; simp [mems, HT.out, F2.out, F3.out, F4.out, F5.out, F6])
      have hsk6 := skip_le t6
      have hlt6 := take_lt F6
      clear hr F6
      go_wp2_with fail
      refine (blanks_any g s _ t6 _ hs H.out).mono ?_
      rintro e w' ⟨b9, hr, hb, rfl⟩
      replace HB := Lib.hid (HB.out.trans hb)
      replace HN := Lib.hid (R_but HN.out hb hg)
      replace HR := Lib.hid (R_but HR.out hb hg)
      replace H := Lib.hid hr
      clear hr hb
      go_wp2
      go_roundg m
      case rel => exact Lib.hid ⟨b9, skip t6, ns1, ks1, A7, c7, A8, c8, rfl, rfl, H.out, by omega, by omega, by have := hAl.out; omega, by have := hAl2.out; omega, HZ.out, HN.out, HR.out, HB.out⟩
      case measure => omega
end Go.Proofs.YthehnffmbdlopaaDoor.J

set_option linter.unusedVariables false
set_option linter.unusedSimpArgs false
namespace Go.Proofs.YthehnffmbdlopaaDoor.J
open Go.RowKit Go.Proofs.YthehnffmbdlopaaDoorW.PrintWords Go.Proofs.YthehnffmbdlopaaDoorW.PrintLast Go.Proofs.YthehnffmbdlopaaDoorW.PrintMore Go.Proofs.YthehnffmbdlopaaDoor.Aid

/-- Stores into the blocks B and B + 1 alone. -/
structure Sets (B : Nat) (W W' : World) : Prop where
  os : W'.os = W.os
  tape : W'.tape = W.tape
  output : W'.output = W.output
  size : W'.heap.size = W.heap.size
  block : ∀ k, k ≠ B → k ≠ B + 1 → W'.heap[k]? = W.heap[k]?
theorem Sets.refl (B : Nat) (W : World) : Sets B W W := ⟨rfl, rfl, rfl, rfl, fun _ _ _ => rfl⟩
theorem Sets.set0 {B : Nat} {W W' : World} (h : Sets B W W') (j : Nat) (u : Value) : Sets B W (W'.setCell ⟨B, j, none⟩ u) :=
  ⟨h.os, h.tape, h.output, by simpa using h.size, fun k h0 h1 => (Below.heap_setCell W' ⟨B, j, none⟩ u k h0).trans (h.block k h0 h1)⟩
theorem Sets.set1 {B : Nat} {W W' : World} (h : Sets B W W') (j : Nat) (u : Value) : Sets B W (W'.setCell ⟨B + 1, j, none⟩ u) :=
  ⟨h.os, h.tape, h.output, by simpa using h.size, fun k h0 h1 => (Below.heap_setCell W' ⟨B + 1, j, none⟩ u k h1).trans (h.block k h0 h1)⟩
theorem Sets.but {g : Nat} {w W W' : World} (h : Sets w.heap.size W W') (hb : But g w W) : But g w W' :=
  ⟨h.os.trans hb.os, h.tape.trans hb.tape, h.output.trans hb.output, by rw [h.size]; exact hb.size, fun i hi hg => (h.block i (by omega) (by omega)).trans (hb.block i hi hg)⟩
theorem Sets.rd {B g a : Nat} {s : ByteArray} {l : L} {W W' : World} (h : Sets B W W') (hr : Rd W g s a l) (hg : g < B) : Rd W' g s a l := hr.of_block (h.block g (by omega) (by omega))
theorem Sets.R {α : Type} {d : Kd α} {e : Nat} {base : Nat} {ok : Nat → Prop} {v : Value} {xs : List α} {B : Nat} {W W' : World} (h : Sets B W W') (hr : d.R e W base ok v xs) (hB : B + 2 ≤ base) : d.R e W' B ok v xs :=
  Kd.R_lower (R_from hr fun k hk _ => h.block k (by omega) (by omega)) (by omega)

/-- The two blocks of a call of value: the result's, the place's. -/
structure Two (g : Nat) (s : ByteArray) (w : World) (a : Nat) (l : L) (k : Int) (W : World) : Prop where
  b0 : W.heap[w.heap.size]? = some (.cells #[.int .i64 0, .int .i64 0, .int .i64 0, .slice none 0 0, .slice none 0 0] tPl (0, 0))
  b1 : W.heap[w.heap.size + 1]? = some (.cells #[.int .i64 k, .int .i64 a, .int .i64 0, .slice none 0 0, .slice none 0 0] tPl (0, 0))
  sz : w.heap.size + 2 ≤ W.heap.size
  but : But g w W
theorem Two.start {g : Nat} {s : ByteArray} {w : World} {a : Nat} {l : L} : Two g s w a l 0 ((w.alloc (.cells #[.int .i64 0, .int .i64 0, .int .i64 0, .slice none 0 0, .slice none 0 0] tPl)).alloc (.cells #[.int .i64 0, .int .i64 a, .int .i64 0, .slice none 0 0, .slice none 0 0] tPl)) where
  b0 := blk_alloc (blk_new _ _) _
  b1 := by have := blk_new (w.alloc (.cells #[.int .i64 0, .int .i64 0, .int .i64 0, .slice none 0 0, .slice none 0 0] tPl)) (.cells #[.int .i64 0, .int .i64 a, .int .i64 0, .slice none 0 0, .slice none 0 0] tPl); simpa using this
  sz := by simp
  but := ((But.refl g w).alloc _).alloc _
theorem Two.drewN {g : Nat} {s : ByteArray} {w : World} {a : Nat} {l : L} {k : Int} {W : World} (h : Two g s w a l k W) (n : Nat) : Two g s w a l k (W.drewN n) := ⟨h.b0, h.b1, h.sz, h.but.drewN n⟩
theorem Two.kind {g : Nat} {s : ByteArray} {w : World} {a : Nat} {l : L} {k : Int} {W : World} (h : Two g s w a l k W) (k' : Int) : Two g s w a l k' (W.setCell ⟨w.heap.size + 1, 0, none⟩ (.int .i64 k')) where
  b0 := blk_far h.b0 (by simp) _
  b1 := blk_set h.b1 0 _
  sz := by simpa using h.sz
  but := h.but.setNew _ (by simp) _
theorem Two.then {g : Nat} {s : ByteArray} {w : World} {a : Nat} {l : L} {k : Int} {W W' : World} (h : Two g s w a l k W) (hb : But g W W') (hg : g < w.heap.size) : Two g s w a l k W' where
  b0 := (hb.block _ (by have := h.sz; omega) (by omega)).trans h.b0
  b1 := (hb.block _ (by have := h.sz; omega) (by omega)).trans h.b1
  sz := Nat.le_trans h.sz hb.size
  but := h.but.trans hb
theorem Two.cells0 {g : Nat} {s : ByteArray} {w : World} {a : Nat} {l : L} {k : Int} {W : World} (h : Two g s w a l k W) :
    (W.cell? ⟨w.heap.size, 0, none⟩ = some (.int .i64 0) ∧ W.cell? ⟨w.heap.size, 1, none⟩ = some (.int .i64 0) ∧ W.cell? ⟨w.heap.size, 2, none⟩ = some (.int .i64 0) ∧ W.cell? ⟨w.heap.size, 3, none⟩ = some (.slice none 0 0) ∧ W.cell? ⟨w.heap.size, 4, none⟩ = some (.slice none 0 0)) ∧
    W.frozen? ⟨w.heap.size, 0, none⟩ = false ∧ W.frozen? ⟨w.heap.size, 1, none⟩ = false ∧ W.frozen? ⟨w.heap.size, 2, none⟩ = false ∧ W.frozen? ⟨w.heap.size, 3, none⟩ = false ∧ W.frozen? ⟨w.heap.size, 4, none⟩ = false :=
  ⟨⟨(blk_cell h.b0 0).trans rfl, (blk_cell h.b0 1).trans rfl, (blk_cell h.b0 2).trans rfl, (blk_cell h.b0 3).trans rfl, (blk_cell h.b0 4).trans rfl⟩, blk_frozen h.b0 0, blk_frozen h.b0 1, blk_frozen h.b0 2, blk_frozen h.b0 3, blk_frozen h.b0 4⟩
theorem Two.cells1 {g : Nat} {s : ByteArray} {w : World} {a : Nat} {l : L} {k : Int} {W : World} (h : Two g s w a l k W) :
    (W.cell? ⟨w.heap.size + 1, 0, none⟩ = some (.int .i64 k) ∧ W.cell? ⟨w.heap.size + 1, 1, none⟩ = some (.int .i64 a) ∧ W.cell? ⟨w.heap.size + 1, 2, none⟩ = some (.int .i64 0) ∧ W.cell? ⟨w.heap.size + 1, 3, none⟩ = some (.slice none 0 0) ∧ W.cell? ⟨w.heap.size + 1, 4, none⟩ = some (.slice none 0 0)) ∧
    W.frozen? ⟨w.heap.size + 1, 0, none⟩ = false ∧ W.frozen? ⟨w.heap.size + 1, 1, none⟩ = false ∧ W.frozen? ⟨w.heap.size + 1, 2, none⟩ = false ∧ W.frozen? ⟨w.heap.size + 1, 3, none⟩ = false ∧ W.frozen? ⟨w.heap.size + 1, 4, none⟩ = false :=
  ⟨⟨(blk_cell h.b1 0).trans rfl, (blk_cell h.b1 1).trans rfl, (blk_cell h.b1 2).trans rfl, (blk_cell h.b1 3).trans rfl, (blk_cell h.b1 4).trans rfl⟩, blk_frozen h.b1 0, blk_frozen h.b1 1, blk_frozen h.b1 2, blk_frozen h.b1 3, blk_frozen h.b1 4⟩

theorem leaf_no {g b : Nat} {s : ByteArray} {l : L} {w W : World} {k b0 e0 : Int} (hr : Rd W g s b l) (hg : g < w.heap.size) (hT : But g w W) (W' : World) (hS : Sets w.heap.size W W') :
    VPost g s w none (.returned (.tuple #[.agg #[.int .i64 k, .int .i64 b0, .int .i64 e0, .slice none 0 0, .slice none 0 0], .bool false])) W' := ⟨b, l, k, b0, e0, hS.rd hr hg, hS.but hT, rfl⟩
theorem leaf_yes {g b : Nat} {s : ByteArray} {l : L} {w W : World} {k b0 e0 : Int} (hr : Rd W g s b l) (hg : g < w.heap.size) (hT : But g w W) (W' : World) (hS : Sets w.heap.size W W') :
    VPost g s w (some (⟨k, b0, e0, [], []⟩, l)) (.returned (.tuple #[.agg #[.int .i64 k, .int .i64 b0, .int .i64 e0, .slice none 0 0, .slice none 0 0], .bool true])) W' :=
  ⟨b, none, 0, none, 0, hS.rd hr hg, hS.but hT, Kd.R_nil _ _ _ _ _, Kd.R_nil _ _ _ _ _, rfl⟩
theorem leaf_kids {g b : Nat} {s : ByteArray} {l : L} {w W : World} {k b0 e0 : Int} {ns : List Sp} {ks : List Pl} {A3 A4 : Option Addr} {c3 c4 B : Nat} (hr : Rd W g s b l) (hg : g < w.heap.size) (hT : But g w W)
    (h3 : kSp.R tSp W B (fun _ => True) (.slice A3 ns.length c3) ns) (h4 : kPl.R tPl W B (fun _ => True) (.slice A4 ks.length c4) ks) (hB : w.heap.size + 2 ≤ B) (W' : World) (hS : Sets w.heap.size W W') :
    VPost g s w (some (⟨k, b0, e0, ns, ks⟩, l)) (.returned (.tuple #[.agg #[.int .i64 k, .int .i64 b0, .int .i64 e0, .slice A3 ns.length c3, .slice A4 ks.length c4], .bool true])) W' :=
  ⟨b, A3, c3, A4, c4, hS.rd hr hg, hS.but hT, hS.R h3 hB, hS.R h4 hB, rfl⟩

set_option maxHeartbeats 8000000 in
set_option maxRecDepth 100000 in
theorem value_obj (s : ByteArray) (hs : s.size ≤ 2147483647) (n : Nat) (hv : ValC s n) (g a : Nat) (t : L) (w : World) (hn : t.length < n) (h : Rd w g s a (123 :: t)) :
    Calls Tryd.prog 47 #[.pointer (some ⟨g, 0, none⟩)] w (VPost g s w (val s.size (n + 1) (123 :: t))) := by
  have c1 := h.cell1
  have hg := h.lt
  have H := Lib.hid h
  have HP0 := Lib.hid h.pos
  have HV := Lib.hid hv
  clear h hv
  have HE := Lib.hid (show val s.size (n + 1) (123 :: t) = (obj s.size (val s.size n) t).map fun x => (⟨6, pos s.size (123 :: t), pos s.size x.2, x.1.1, x.1.2⟩, x.2) from rfl)
  have HT := Lib.hid (Two.start (g := g) (s := s) (w := w) (a := a) (l := 123 :: t))
  go_enter Tryd.func47, Tryd.ntmps47
  go_wp2_with fail
  refine (here_any g s _ _ _ hs ((H.out.alloc _).alloc _)).mono ?_
  rw [show hd ((123 : Int) :: t) = 123 from rfl]
  rintro e w' ⟨rfl, n0, rfl⟩
  go_wp2_with fail
  replace HT := Lib.hid ((HT.out.drewN n0).kind 6)
  have H2 := Lib.hid (((H.out.alloc _).alloc _).drew n0 |>.setFar (p := ⟨w.heap.size + 1, 0, none⟩) (by show g ≠ w.heap.size + 1; omega) (.int .i64 6) : Rd ((((w.alloc (.cells #[.int .i64 0, .int .i64 0, .int .i64 0, .slice none 0 0, .slice none 0 0] tPl)).alloc (.cells #[.int .i64 0, .int .i64 a, .int .i64 0, .slice none 0 0, .slice none 0 0] tPl)).drewN n0).setCell ⟨w.heap.size + 1, 0, none⟩ (.int .i64 6)) g s a (123 :: t))
  clear H c1
  refine (members_any s hs n HV.out g a 123 t _ hn H2.out).mono ?_
  cases F : obj s.size (val s.size n) t with
  | none =>
    rintro e w' ⟨b, l', hr, hb, rfl⟩
    replace HT := Lib.hid (HT.out.then hb hg)
    replace H := Lib.hid hr
    clear H2 hr hb
    have HZ := Lib.hid (HE.out.trans (by rw [F] <;> rfl))
    clear F
    obtain ⟨⟨p0, p1, p2, p3, p4⟩, q0, q1, q2, q3, q4⟩ := HT.out.cells0
    obtain ⟨⟨r0, r1, r2, r3, r4⟩, s0, s1, s2, s3, s4⟩ := HT.out.cells1
    have c1 := H.out.cell1
    go_wp2
    refine bodyPost_ret (v := .tuple #[.agg #[.int .i64 6, .int .i64 a, .int .i64 b, .slice none 0 0, .slice none 0 0], .bool false]) ?_ rfl ?_
    · simp [results, Tryd.results47, go_sem, p0, p1, p2, p3, p4, q0, q1, q2, q3, q4]
    · rw [HZ.out]
      refine leaf_no H.out hg HT.out.but _ ?_; repeat (first | with_reducible exact Sets.refl _ _ | with_reducible apply Sets.set0 | with_reducible apply Sets.set1)
  | some x =>
    obtain ⟨⟨ns, ks⟩, l'⟩ := x
    rintro e w' ⟨b, A3, c3, A4, c4, hr, hb, h3, h4, rfl⟩
    have hsz := HT.out.sz
    replace HT := Lib.hid (HT.out.then hb hg)
    replace H := Lib.hid hr
    have H3 := Lib.hid h3
    have H4 := Lib.hid h4
    clear H2 hr hb h3 h4
    have HZ := Lib.hid (HE.out.trans (show _ = some (⟨6, (a : Int), (b : Int), ns, ks⟩, l') by rw [F, HP0.out]; show some (_, _) = _; rw [H.out.pos]))
    clear F
    obtain ⟨⟨p0, p1, p2, p3, p4⟩, q0, q1, q2, q3, q4⟩ := HT.out.cells0
    obtain ⟨⟨r0, r1, r2, r3, r4⟩, s0, s1, s2, s3, s4⟩ := HT.out.cells1
    have c1 := H.out.cell1
    go_wp2
    refine bodyPost_ret (v := .tuple #[.agg #[.int .i64 6, .int .i64 a, .int .i64 b, .slice A3 ns.length c3, .slice A4 ks.length c4], .bool true]) ?_ rfl ?_
    · simp [results, Tryd.results47, go_sem, p0, p1, p2, p3, p4, q0, q1, q2, q3, q4]
    · rw [HZ.out]
      refine leaf_kids H.out hg HT.out.but H3.out H4.out hsz _ ?_; repeat (first | with_reducible exact Sets.refl _ _ | with_reducible apply Sets.set0 | with_reducible apply Sets.set1)

-- PRINTED by wip/gen/genj7.py

set_option maxHeartbeats 8000000 in
set_option maxRecDepth 100000 in
theorem value_arr (s : ByteArray) (hs : s.size ≤ 2147483647) (n : Nat) (hv : ValC s n) (g a : Nat) (t : L) (w : World) (hn : t.length < n) (h : Rd w g s a (91 :: t)) :
    Calls Tryd.prog 47 #[.pointer (some ⟨g, 0, none⟩)] w (VPost g s w (val s.size (n + 1) (91 :: t))) := by
  have c1 := h.cell1
  have hg := h.lt
  have H := Lib.hid h
  have HP0 := Lib.hid h.pos
  clear h
  have HT := Lib.hid (Two.start (g := g) (s := s) (w := w) (a := a) (l := 91 :: t))
  have HV := Lib.hid hv
  clear hv
  have HE := Lib.hid (show val s.size (n + 1) (91 :: t) = (arr (val s.size n) t).map fun x => (⟨5, pos s.size (91 :: t), pos s.size x.2, [], x.1⟩, x.2) from rfl)
  go_enter Tryd.func47, Tryd.ntmps47
  go_wp2_with fail
  refine (here_any g s _ _ _ hs ((H.out.alloc _).alloc _)).mono ?_
  rw [show hd (91 :: t) = 91 from rfl]
  rintro e w' ⟨rfl, n0, rfl⟩
  go_wp2_with fail
  replace HT := Lib.hid ((HT.out.drewN n0).kind 5)
  have H2 := Lib.hid (((H.out.alloc _).alloc _).drew n0 |>.setFar (p := ⟨w.heap.size + 1, 0, none⟩) (by show g ≠ w.heap.size + 1; omega) (.int .i64 5) : Rd ((((w.alloc (.cells #[.int .i64 0, .int .i64 0, .int .i64 0, .slice none 0 0, .slice none 0 0] tPl)).alloc (.cells #[.int .i64 0, .int .i64 a, .int .i64 0, .slice none 0 0, .slice none 0 0] tPl)).drewN n0).setCell ⟨w.heap.size + 1, 0, none⟩ (.int .i64 5)) g s a (91 :: t))
  clear H c1
  refine (elements_any s hs n HV.out g a 91 t _ hn H2.out).mono ?_
  cases F : arr (val s.size n) t with
  | none =>
    rintro e w' ⟨b, l', hr, hb, rfl⟩
    replace HT := Lib.hid (HT.out.then hb hg)
    replace H := Lib.hid hr
    clear H2 hr hb
    have HZ := Lib.hid (HE.out.trans (by rw [F] <;> rfl))
    clear F
    obtain ⟨⟨p0, p1, p2, p3, p4⟩, q0, q1, q2, q3, q4⟩ := HT.out.cells0
    obtain ⟨⟨r0, r1, r2, r3, r4⟩, s0, s1, s2, s3, s4⟩ := HT.out.cells1
    have c1 := H.out.cell1
    go_wp2
    refine bodyPost_ret (v := .tuple #[.agg #[.int .i64 5, .int .i64 a, .int .i64 b, .slice none 0 0, .slice none 0 0], .bool false]) ?_ rfl ?_
    · simp [results, Tryd.results47, go_sem, p0, p1, p2, p3, p4, q0, q1, q2, q3, q4]
    · rw [HZ.out]
      refine leaf_no H.out hg HT.out.but _ ?_; repeat (first | with_reducible exact Sets.refl _ _ | with_reducible apply Sets.set0 | with_reducible apply Sets.set1)
  | some x =>
    obtain ⟨ks, l'⟩ := x
    rintro e w' ⟨b, A4, c4, hr, hb, h4, rfl⟩
    have hsz := HT.out.sz
    replace HT := Lib.hid (HT.out.then hb hg)
    replace H := Lib.hid hr
    have H4 := Lib.hid h4
    clear H2 hr hb h4
    have HZ := Lib.hid (HE.out.trans (show _ = some (⟨5, (a : Int), (b : Int), [], ks⟩, l') by rw [F, HP0.out]; show some (_, _) = _; rw [H.out.pos]))
    clear F
    obtain ⟨⟨p0, p1, p2, p3, p4⟩, q0, q1, q2, q3, q4⟩ := HT.out.cells0
    obtain ⟨⟨r0, r1, r2, r3, r4⟩, s0, s1, s2, s3, s4⟩ := HT.out.cells1
    have c1 := H.out.cell1
    go_wp2
    refine bodyPost_ret (v := .tuple #[.agg #[.int .i64 5, .int .i64 a, .int .i64 b, .slice none 0 0, .slice A4 ks.length c4], .bool true]) ?_ rfl ?_
    · simp [results, Tryd.results47, go_sem, p0, p1, p2, p3, p4, q0, q1, q2, q3, q4]
    · rw [HZ.out]
      refine leaf_kids (ns := []) (A3 := none) (c3 := 0) H.out hg HT.out.but (Kd.R_nil _ _ _ _ _) H4.out hsz _ ?_; repeat (first | with_reducible exact Sets.refl _ _ | with_reducible apply Sets.set0 | with_reducible apply Sets.set1)

set_option maxHeartbeats 8000000 in
set_option maxRecDepth 100000 in
theorem value_str (s : ByteArray) (hs : s.size ≤ 2147483647) (n : Nat) (g a : Nat) (t : L) (w : World) (h : Rd w g s a (34 :: t)) :
    Calls Tryd.prog 47 #[.pointer (some ⟨g, 0, none⟩)] w (VPost g s w (val s.size (n + 1) (34 :: t))) := by
  have c1 := h.cell1
  have hg := h.lt
  have H := Lib.hid h
  have HP0 := Lib.hid h.pos
  clear h
  have HT := Lib.hid (Two.start (g := g) (s := s) (w := w) (a := a) (l := 34 :: t))
  have HE := Lib.hid (show val s.size (n + 1) (34 :: t) = (str t).map fun r => (⟨4, pos s.size (34 :: t), pos s.size r, [], []⟩, r) from rfl)
  go_enter Tryd.func47, Tryd.ntmps47
  go_wp2_with fail
  refine (here_any g s _ _ _ hs ((H.out.alloc _).alloc _)).mono ?_
  rw [show hd (34 :: t) = 34 from rfl]
  rintro e w' ⟨rfl, n0, rfl⟩
  go_wp2_with fail
  replace HT := Lib.hid ((HT.out.drewN n0).kind 4)
  have H2 := Lib.hid (((H.out.alloc _).alloc _).drew n0 |>.setFar (p := ⟨w.heap.size + 1, 0, none⟩) (by show g ≠ w.heap.size + 1; omega) (.int .i64 4) : Rd ((((w.alloc (.cells #[.int .i64 0, .int .i64 0, .int .i64 0, .slice none 0 0, .slice none 0 0] tPl)).alloc (.cells #[.int .i64 0, .int .i64 a, .int .i64 0, .slice none 0 0, .slice none 0 0] tPl)).drewN n0).setCell ⟨w.heap.size + 1, 0, none⟩ (.int .i64 4)) g s a (34 :: t))
  clear H c1
  refine (quoted_any g s a 34 t _ hs H2.out).mono ?_
  cases F : str t with
  | none =>
    rintro e w' ⟨b, l', hr, hb, rfl, hu⟩
    replace HT := Lib.hid (HT.out.then hb hg)
    replace H := Lib.hid hr
    clear H2 hr hb hu
    have HZ := Lib.hid (HE.out.trans (by rw [F] <;> rfl))
    clear F
    obtain ⟨⟨p0, p1, p2, p3, p4⟩, q0, q1, q2, q3, q4⟩ := HT.out.cells0
    obtain ⟨⟨r0, r1, r2, r3, r4⟩, s0, s1, s2, s3, s4⟩ := HT.out.cells1
    have c1 := H.out.cell1
    go_wp2
    refine bodyPost_ret (v := .tuple #[.agg #[.int .i64 4, .int .i64 a, .int .i64 b, .slice none 0 0, .slice none 0 0], .bool false]) ?_ rfl ?_
    · simp [results, Tryd.results47, go_sem, p0, p1, p2, p3, p4, q0, q1, q2, q3, q4]
    · rw [HZ.out]
      refine leaf_no H.out hg HT.out.but _ ?_; repeat (first | with_reducible exact Sets.refl _ _ | with_reducible apply Sets.set0 | with_reducible apply Sets.set1)
  | some u =>
    rintro e w' ⟨b, l', hr, hb, rfl, hu⟩
    obtain rfl := hu u rfl
    replace HT := Lib.hid (HT.out.then hb hg)
    replace H := Lib.hid hr
    clear H2 hr hb hu
    have HZ := Lib.hid (HE.out.trans (show _ = some (⟨4, (a : Int), (b : Int), [], []⟩, l') by rw [F, HP0.out]; show some (_, _) = _; rw [H.out.pos]))
    clear F
    obtain ⟨⟨p0, p1, p2, p3, p4⟩, q0, q1, q2, q3, q4⟩ := HT.out.cells0
    obtain ⟨⟨r0, r1, r2, r3, r4⟩, s0, s1, s2, s3, s4⟩ := HT.out.cells1
    have c1 := H.out.cell1
    go_wp2
    refine bodyPost_ret (v := .tuple #[.agg #[.int .i64 4, .int .i64 a, .int .i64 b, .slice none 0 0, .slice none 0 0], .bool true]) ?_ rfl ?_
    · simp [results, Tryd.results47, go_sem, p0, p1, p2, p3, p4, q0, q1, q2, q3, q4]
    · rw [HZ.out]
      refine leaf_yes H.out hg HT.out.but _ ?_; repeat (first | with_reducible exact Sets.refl _ _ | with_reducible apply Sets.set0 | with_reducible apply Sets.set1)

set_option maxHeartbeats 8000000 in
set_option maxRecDepth 100000 in
theorem value_num (s : ByteArray) (hs : s.size ≤ 2147483647) (n : Nat) (g a : Nat) (c : Int) (t : L) (w : World) (hc : c = 45 ∨ dig c = true) (h : Rd w g s a (c :: t)) :
    Calls Tryd.prog 47 #[.pointer (some ⟨g, 0, none⟩)] w (VPost g s w (val s.size (n + 1) (c :: t))) := by
  have c1 := h.cell1
  have hg := h.lt
  have H := Lib.hid h
  have HP0 := Lib.hid h.pos
  clear h
  have HT := Lib.hid (Two.start (g := g) (s := s) (w := w) (a := a) (l := c :: t))
  have hc' : c = 45 ∨ (48 ≤ c ∧ c ≤ 57) := hc.imp id (fun h => by simpa [dig] using h)
  have e1 : (c == 123) = false := beq_eq_false_iff_ne.mpr (by omega)
  have e2 : (c == 91) = false := beq_eq_false_iff_ne.mpr (by omega)
  have e3 : (c == 34) = false := beq_eq_false_iff_ne.mpr (by omega)
  have HE := Lib.hid (show val s.size (n + 1) (c :: t) = (num (c :: t)).map fun r => (⟨3, pos s.size (c :: t), pos s.size r, [], []⟩, r) by simp only [val]; rw [if_neg (by omega), if_neg (by omega), if_neg (by omega), if_pos hc])
  clear hc
  rcases hc' with rfl | ⟨d1, d2⟩
  · go_enter Tryd.func47, Tryd.ntmps47
    go_wp2_with fail
    refine (here_any g s _ _ _ hs ((H.out.alloc _).alloc _)).mono ?_
    rw [show hd ((45 : Int) :: t) = 45 from rfl]
    rintro e w' ⟨rfl, n0, rfl⟩
    go_wp2_with fail
    replace HT := Lib.hid ((HT.out.drewN n0).kind 3)
    have H2 := Lib.hid (((H.out.alloc _).alloc _).drew n0 |>.setFar (p := ⟨w.heap.size + 1, 0, none⟩) (by show g ≠ w.heap.size + 1; omega) (.int .i64 3) : Rd ((((w.alloc (.cells #[.int .i64 0, .int .i64 0, .int .i64 0, .slice none 0 0, .slice none 0 0] tPl)).alloc (.cells #[.int .i64 0, .int .i64 a, .int .i64 0, .slice none 0 0, .slice none 0 0] tPl)).drewN n0).setCell ⟨w.heap.size + 1, 0, none⟩ (.int .i64 3)) g s a ((45 : Int) :: t))
    clear H c1
    refine (number_any g s a (45 :: t) _ hs H2.out).mono ?_
    cases F : num (45 :: t) with
    | none =>
      rintro e w' ⟨b, l', hr, hb, rfl, hu⟩
      replace HT := Lib.hid (HT.out.then hb hg)
      replace H := Lib.hid hr
      clear H2 hr hb hu
      have HZ := Lib.hid (HE.out.trans (by rw [F] <;> rfl))
      clear F
      obtain ⟨⟨p0, p1, p2, p3, p4⟩, q0, q1, q2, q3, q4⟩ := HT.out.cells0
      obtain ⟨⟨r0, r1, r2, r3, r4⟩, s0, s1, s2, s3, s4⟩ := HT.out.cells1
      have c1 := H.out.cell1
      go_wp2
      refine bodyPost_ret (v := .tuple #[.agg #[.int .i64 3, .int .i64 a, .int .i64 b, .slice none 0 0, .slice none 0 0], .bool false]) ?_ rfl ?_
      · simp [results, Tryd.results47, go_sem, p0, p1, p2, p3, p4, q0, q1, q2, q3, q4]
      · rw [HZ.out]
        refine leaf_no H.out hg HT.out.but _ ?_; repeat (first | with_reducible exact Sets.refl _ _ | with_reducible apply Sets.set0 | with_reducible apply Sets.set1)
    | some u =>
      rintro e w' ⟨b, l', hr, hb, rfl, hu⟩
      obtain rfl := hu u rfl
      replace HT := Lib.hid (HT.out.then hb hg)
      replace H := Lib.hid hr
      clear H2 hr hb hu
      have HZ := Lib.hid (HE.out.trans (show _ = some (⟨3, (a : Int), (b : Int), [], []⟩, l') by rw [F, HP0.out]; show some (_, _) = _; rw [H.out.pos]))
      clear F
      obtain ⟨⟨p0, p1, p2, p3, p4⟩, q0, q1, q2, q3, q4⟩ := HT.out.cells0
      obtain ⟨⟨r0, r1, r2, r3, r4⟩, s0, s1, s2, s3, s4⟩ := HT.out.cells1
      have c1 := H.out.cell1
      go_wp2
      refine bodyPost_ret (v := .tuple #[.agg #[.int .i64 3, .int .i64 a, .int .i64 b, .slice none 0 0, .slice none 0 0], .bool true]) ?_ rfl ?_
      · simp [results, Tryd.results47, go_sem, p0, p1, p2, p3, p4, q0, q1, q2, q3, q4]
      · rw [HZ.out]
        refine leaf_yes H.out hg HT.out.but _ ?_; repeat (first | with_reducible exact Sets.refl _ _ | with_reducible apply Sets.set0 | with_reducible apply Sets.set1)
  · by_cases e4 : c = 45
    · omega
    have e5 : (c == 45) = false := beq_eq_false_iff_ne.mpr e4
    clear e4
    go_enter Tryd.func47, Tryd.ntmps47
    go_wp2_with fail
    refine (here_any g s _ _ _ hs ((H.out.alloc _).alloc _)).mono ?_
    rw [show hd (c :: t) = c from rfl]
    rintro e w' ⟨rfl, n0, rfl⟩
    go_wp2_with fail
    replace HT := Lib.hid ((HT.out.drewN n0).kind 3)
    have H2 := Lib.hid (((H.out.alloc _).alloc _).drew n0 |>.setFar (p := ⟨w.heap.size + 1, 0, none⟩) (by show g ≠ w.heap.size + 1; omega) (.int .i64 3) : Rd ((((w.alloc (.cells #[.int .i64 0, .int .i64 0, .int .i64 0, .slice none 0 0, .slice none 0 0] tPl)).alloc (.cells #[.int .i64 0, .int .i64 a, .int .i64 0, .slice none 0 0, .slice none 0 0] tPl)).drewN n0).setCell ⟨w.heap.size + 1, 0, none⟩ (.int .i64 3)) g s a (c :: t))
    clear H c1
    refine (number_any g s a (c :: t) _ hs H2.out).mono ?_
    cases F : num (c :: t) with
    | none =>
      rintro e w' ⟨b, l', hr, hb, rfl, hu⟩
      replace HT := Lib.hid (HT.out.then hb hg)
      replace H := Lib.hid hr
      clear H2 hr hb hu
      have HZ := Lib.hid (HE.out.trans (by rw [F] <;> rfl))
      clear F
      obtain ⟨⟨p0, p1, p2, p3, p4⟩, q0, q1, q2, q3, q4⟩ := HT.out.cells0
      obtain ⟨⟨r0, r1, r2, r3, r4⟩, s0, s1, s2, s3, s4⟩ := HT.out.cells1
      have c1 := H.out.cell1
      go_wp2
      refine bodyPost_ret (v := .tuple #[.agg #[.int .i64 3, .int .i64 a, .int .i64 b, .slice none 0 0, .slice none 0 0], .bool false]) ?_ rfl ?_
      · simp [results, Tryd.results47, go_sem, p0, p1, p2, p3, p4, q0, q1, q2, q3, q4]
      · rw [HZ.out]
        refine leaf_no H.out hg HT.out.but _ ?_; repeat (first | with_reducible exact Sets.refl _ _ | with_reducible apply Sets.set0 | with_reducible apply Sets.set1)
    | some u =>
      rintro e w' ⟨b, l', hr, hb, rfl, hu⟩
      obtain rfl := hu u rfl
      replace HT := Lib.hid (HT.out.then hb hg)
      replace H := Lib.hid hr
      clear H2 hr hb hu
      have HZ := Lib.hid (HE.out.trans (show _ = some (⟨3, (a : Int), (b : Int), [], []⟩, l') by rw [F, HP0.out]; show some (_, _) = _; rw [H.out.pos]))
      clear F
      obtain ⟨⟨p0, p1, p2, p3, p4⟩, q0, q1, q2, q3, q4⟩ := HT.out.cells0
      obtain ⟨⟨r0, r1, r2, r3, r4⟩, s0, s1, s2, s3, s4⟩ := HT.out.cells1
      have c1 := H.out.cell1
      go_wp2
      refine bodyPost_ret (v := .tuple #[.agg #[.int .i64 3, .int .i64 a, .int .i64 b, .slice none 0 0, .slice none 0 0], .bool true]) ?_ rfl ?_
      · simp [results, Tryd.results47, go_sem, p0, p1, p2, p3, p4, q0, q1, q2, q3, q4]
      · rw [HZ.out]
        refine leaf_yes H.out hg HT.out.but _ ?_; repeat (first | with_reducible exact Sets.refl _ _ | with_reducible apply Sets.set0 | with_reducible apply Sets.set1)

set_option maxHeartbeats 8000000 in
set_option maxRecDepth 100000 in
theorem value_word (s : ByteArray) (hs : s.size ≤ 2147483647) (n : Nat) (g a : Nat) (c : Int) (t : L) (w : World) (h1 : c ≠ 123) (h2 : c ≠ 91) (h3 : c ≠ 34) (h4 : c ≠ 45) (h5 : ¬ dig c = true) (h : Rd w g s a (c :: t)) :
    Calls Tryd.prog 47 #[.pointer (some ⟨g, 0, none⟩)] w (VPost g s w (val s.size (n + 1) (c :: t))) := by
  have c1 := h.cell1
  have hg := h.lt
  have H := Lib.hid h
  have HP0 := Lib.hid h.pos
  clear h
  have HT := Lib.hid (Two.start (g := g) (s := s) (w := w) (a := a) (l := c :: t))
  have HE := Lib.hid (show val s.size (n + 1) (c :: t) = (match word nullW (c :: t) with | some r => some (⟨0, pos s.size (c :: t), pos s.size r, [], []⟩, r) | none => match word falseW (c :: t) with | some r => some (⟨1, pos s.size (c :: t), pos s.size r, [], []⟩, r) | none => match word trueW (c :: t) with | some r => some (⟨2, pos s.size (c :: t), pos s.size r, [], []⟩, r) | none => none) by simp only [val]; rw [if_neg h1, if_neg h2, if_neg h3, if_neg (by simp only [not_or]; exact ⟨h4, h5⟩)] <;> rfl)
  have e1 : (c == 123) = false := beq_eq_false_iff_ne.mpr h1
  have e2 : (c == 91) = false := beq_eq_false_iff_ne.mpr h2
  have e3 : (c == 34) = false := beq_eq_false_iff_ne.mpr h3
  have e4 : (c == 45) = false := beq_eq_false_iff_ne.mpr h4
  replace h5 : c < 48 ∨ 57 < c := by simp [dig] at h5; omega
  clear h1 h2 h3 h4
  rcases h5 with h5 | h5
  all_goals
    go_enter Tryd.func47, Tryd.ntmps47
    go_wp2_with fail
    refine (here_any g s _ _ _ hs ((H.out.alloc _).alloc _)).mono ?_
    rw [show hd (c :: t) = c from rfl]
    rintro e w' ⟨rfl, n0, rfl⟩
    go_wp2_with fail
    replace HT := Lib.hid (HT.out.drewN n0)
    have H2 := Lib.hid (((H.out.alloc _).alloc _).drew n0 : Rd (((w.alloc (.cells #[.int .i64 0, .int .i64 0, .int .i64 0, .slice none 0 0, .slice none 0 0] tPl)).alloc (.cells #[.int .i64 0, .int .i64 a, .int .i64 0, .slice none 0 0, .slice none 0 0] tPl)).drewN n0) g s a (c :: t))
    clear H c1
    refine (word_any g s { data := #[110, 117, 108, 108] } a (c :: t) _ hs (by decide) H2.out).mono ?_
    rw [show bytesOf { data := #[110, 117, 108, 108] } = nullW from rfl]
    cases F0 : word nullW (c :: t) with
    | some u =>
      rintro e w' ⟨b, hr, hb, rfl⟩
      replace HT := Lib.hid (HT.out.then hb hg)
      have H := Lib.hid (show Rd _ g s b u from hr)
      clear H2 hr hb
      have HZ := Lib.hid (HE.out.trans (show _ = some (⟨0, (a : Int), (b : Int), [], []⟩, u) by rw [F0, HP0.out]; show some (Pl.mk _ _ _ _ _, _) = _; rw [H.out.pos]))
      clear F0
      obtain ⟨⟨p0, p1, p2, p3, p4⟩, q0, q1, q2, q3, q4⟩ := HT.out.cells0
      obtain ⟨⟨r0, r1, r2, r3, r4⟩, s0, s1, s2, s3, s4⟩ := HT.out.cells1
      have c1 := H.out.cell1
      go_wp2
      refine bodyPost_ret (v := .tuple #[.agg #[.int .i64 0, .int .i64 a, .int .i64 b, .slice none 0 0, .slice none 0 0], .bool true]) ?_ rfl ?_
      · simp [results, Tryd.results47, go_sem, p0, p1, p2, p3, p4, q0, q1, q2, q3, q4]
      · rw [HZ.out]
        refine leaf_yes H.out hg HT.out.but _ ?_; repeat (first | with_reducible exact Sets.refl _ _ | with_reducible apply Sets.set0 | with_reducible apply Sets.set1)
    | none =>
      rintro e w' ⟨b0, hr, hb, rfl⟩
      replace HT := Lib.hid (HT.out.then hb hg)
      have ha := (show Rd _ g s b0 (c :: t) from hr).len
      have ha' := H2.out.len
      obtain rfl : a = b0 := by omega
      clear H2
      have H2 := Lib.hid (show Rd _ g s a (c :: t) from hr)
      clear hr hb ha ha'
      replace F0 := Lib.hid F0
      go_wp2_with fail
      refine (word_any g s { data := #[102, 97, 108, 115, 101] } a (c :: t) _ hs (by decide) H2.out).mono ?_
      rw [show bytesOf { data := #[102, 97, 108, 115, 101] } = falseW from rfl]
      cases F1 : word falseW (c :: t) with
      | some u =>
        rintro e w' ⟨b, hr, hb, rfl⟩
        replace HT := Lib.hid (HT.out.then hb hg)
        have H := Lib.hid (show Rd _ g s b u from hr)
        clear H2 hr hb
        have HZ := Lib.hid (HE.out.trans (show _ = some (⟨1, (a : Int), (b : Int), [], []⟩, u) by rw [F0.out, F1, HP0.out]; show some (Pl.mk _ _ _ _ _, _) = _; rw [H.out.pos]))
        clear F1
        obtain ⟨⟨p0, p1, p2, p3, p4⟩, q0, q1, q2, q3, q4⟩ := HT.out.cells0
        obtain ⟨⟨r0, r1, r2, r3, r4⟩, s0, s1, s2, s3, s4⟩ := HT.out.cells1
        have c1 := H.out.cell1
        go_wp2
        refine bodyPost_ret (v := .tuple #[.agg #[.int .i64 1, .int .i64 a, .int .i64 b, .slice none 0 0, .slice none 0 0], .bool true]) ?_ rfl ?_
        · simp [results, Tryd.results47, go_sem, p0, p1, p2, p3, p4, q0, q1, q2, q3, q4]
        · rw [HZ.out]
          refine leaf_yes H.out hg HT.out.but _ ?_; repeat (first | with_reducible exact Sets.refl _ _ | with_reducible apply Sets.set0 | with_reducible apply Sets.set1)
      | none =>
        rintro e w' ⟨b1, hr, hb, rfl⟩
        replace HT := Lib.hid (HT.out.then hb hg)
        have ha := (show Rd _ g s b1 (c :: t) from hr).len
        have ha' := H2.out.len
        obtain rfl : a = b1 := by omega
        clear H2
        have H2 := Lib.hid (show Rd _ g s a (c :: t) from hr)
        clear hr hb ha ha'
        replace F1 := Lib.hid F1
        go_wp2_with fail
        refine (word_any g s { data := #[116, 114, 117, 101] } a (c :: t) _ hs (by decide) H2.out).mono ?_
        rw [show bytesOf { data := #[116, 114, 117, 101] } = trueW from rfl]
        cases F2 : word trueW (c :: t) with
        | some u =>
          rintro e w' ⟨b, hr, hb, rfl⟩
          replace HT := Lib.hid (HT.out.then hb hg)
          have H := Lib.hid (show Rd _ g s b u from hr)
          clear H2 hr hb
          have HZ := Lib.hid (HE.out.trans (show _ = some (⟨2, (a : Int), (b : Int), [], []⟩, u) by rw [F0.out, F1.out, F2, HP0.out]; show some (Pl.mk _ _ _ _ _, _) = _; rw [H.out.pos]))
          clear F2
          obtain ⟨⟨p0, p1, p2, p3, p4⟩, q0, q1, q2, q3, q4⟩ := HT.out.cells0
          obtain ⟨⟨r0, r1, r2, r3, r4⟩, s0, s1, s2, s3, s4⟩ := HT.out.cells1
          have c1 := H.out.cell1
          go_wp2
          refine bodyPost_ret (v := .tuple #[.agg #[.int .i64 2, .int .i64 a, .int .i64 b, .slice none 0 0, .slice none 0 0], .bool true]) ?_ rfl ?_
          · simp [results, Tryd.results47, go_sem, p0, p1, p2, p3, p4, q0, q1, q2, q3, q4]
          · rw [HZ.out]
            refine leaf_yes H.out hg HT.out.but _ ?_; repeat (first | with_reducible exact Sets.refl _ _ | with_reducible apply Sets.set0 | with_reducible apply Sets.set1)
        | none =>
          rintro e w' ⟨b2, hr, hb, rfl⟩
          replace HT := Lib.hid (HT.out.then hb hg)
          have ha := (show Rd _ g s b2 (c :: t) from hr).len
          have ha' := H2.out.len
          obtain rfl : a = b2 := by omega
          clear H2
          have H2 := Lib.hid (show Rd _ g s a (c :: t) from hr)
          clear hr hb ha ha'
          replace F2 := Lib.hid F2
          have HZ := Lib.hid (HE.out.trans (show _ = none by rw [F0.out, F1.out, F2.out]))
          have H := H2
          clear H2
          obtain ⟨b, hbb⟩ : ∃ b, b = a := ⟨a, rfl⟩
          obtain ⟨⟨p0, p1, p2, p3, p4⟩, q0, q1, q2, q3, q4⟩ := HT.out.cells0
          obtain ⟨⟨r0, r1, r2, r3, r4⟩, s0, s1, s2, s3, s4⟩ := HT.out.cells1
          have c1 := H.out.cell1
          go_wp2
          refine bodyPost_ret (v := .tuple #[.agg #[.int .i64 0, .int .i64 a, .int .i64 a, .slice none 0 0, .slice none 0 0], .bool false]) ?_ rfl ?_
          · simp [results, Tryd.results47, go_sem, p0, p1, p2, p3, p4, q0, q1, q2, q3, q4]
          · rw [HZ.out]
            refine leaf_no H.out hg HT.out.but _ ?_; repeat (first | with_reducible exact Sets.refl _ _ | with_reducible apply Sets.set0 | with_reducible apply Sets.set1)

set_option maxHeartbeats 8000000 in
set_option maxRecDepth 100000 in
theorem value_nil (s : ByteArray) (hs : s.size ≤ 2147483647) (n : Nat) (g a : Nat) (w : World) (h : Rd w g s a ([])) :
    Calls Tryd.prog 47 #[.pointer (some ⟨g, 0, none⟩)] w (VPost g s w (val s.size (n + 1) ([]))) := by
  have c1 := h.cell1
  have hg := h.lt
  have H := Lib.hid h
  have HP0 := Lib.hid h.pos
  clear h
  have HT := Lib.hid (Two.start (g := g) (s := s) (w := w) (a := a) (l := []))
  have HE := Lib.hid (show val s.size (n + 1) [] = (match word nullW (([] : L)) with | some r => some (⟨0, pos s.size (([] : L)), pos s.size r, [], []⟩, r) | none => match word falseW (([] : L)) with | some r => some (⟨1, pos s.size (([] : L)), pos s.size r, [], []⟩, r) | none => match word trueW (([] : L)) with | some r => some (⟨2, pos s.size (([] : L)), pos s.size r, [], []⟩, r) | none => none) from rfl)
  go_enter Tryd.func47, Tryd.ntmps47
  go_wp2_with fail
  refine (here_any g s _ _ _ hs ((H.out.alloc _).alloc _)).mono ?_
  rw [show hd ([]) = 0 from rfl]
  rintro e w' ⟨rfl, n0, rfl⟩
  go_wp2_with fail
  replace HT := Lib.hid (HT.out.drewN n0)
  have H2 := Lib.hid (((H.out.alloc _).alloc _).drew n0 : Rd (((w.alloc (.cells #[.int .i64 0, .int .i64 0, .int .i64 0, .slice none 0 0, .slice none 0 0] tPl)).alloc (.cells #[.int .i64 0, .int .i64 a, .int .i64 0, .slice none 0 0, .slice none 0 0] tPl)).drewN n0) g s a ([]))
  clear H c1
  refine (word_any g s { data := #[110, 117, 108, 108] } a ([]) _ hs (by decide) H2.out).mono ?_
  rw [show bytesOf { data := #[110, 117, 108, 108] } = nullW from rfl]
  cases F0 : word nullW ([]) with
  | some u =>
    rintro e w' ⟨b, hr, hb, rfl⟩
    replace HT := Lib.hid (HT.out.then hb hg)
    have H := Lib.hid (show Rd _ g s b u from hr)
    clear H2 hr hb
    have HZ := Lib.hid (HE.out.trans (show _ = some (⟨0, (a : Int), (b : Int), [], []⟩, u) by rw [F0, HP0.out]; show some (Pl.mk _ _ _ _ _, _) = _; rw [H.out.pos]))
    clear F0
    obtain ⟨⟨p0, p1, p2, p3, p4⟩, q0, q1, q2, q3, q4⟩ := HT.out.cells0
    obtain ⟨⟨r0, r1, r2, r3, r4⟩, s0, s1, s2, s3, s4⟩ := HT.out.cells1
    have c1 := H.out.cell1
    go_wp2
    refine bodyPost_ret (v := .tuple #[.agg #[.int .i64 0, .int .i64 a, .int .i64 b, .slice none 0 0, .slice none 0 0], .bool true]) ?_ rfl ?_
    · simp [results, Tryd.results47, go_sem, p0, p1, p2, p3, p4, q0, q1, q2, q3, q4]
    · rw [HZ.out]
      refine leaf_yes H.out hg HT.out.but _ ?_; repeat (first | with_reducible exact Sets.refl _ _ | with_reducible apply Sets.set0 | with_reducible apply Sets.set1)
  | none =>
    rintro e w' ⟨b0, hr, hb, rfl⟩
    replace HT := Lib.hid (HT.out.then hb hg)
    have ha := (show Rd _ g s b0 ([]) from hr).len
    have ha' := H2.out.len
    obtain rfl : a = b0 := by omega
    clear H2
    have H2 := Lib.hid (show Rd _ g s a ([]) from hr)
    clear hr hb ha ha'
    replace F0 := Lib.hid F0
    go_wp2_with fail
    refine (word_any g s { data := #[102, 97, 108, 115, 101] } a ([]) _ hs (by decide) H2.out).mono ?_
    rw [show bytesOf { data := #[102, 97, 108, 115, 101] } = falseW from rfl]
    cases F1 : word falseW ([]) with
    | some u =>
      rintro e w' ⟨b, hr, hb, rfl⟩
      replace HT := Lib.hid (HT.out.then hb hg)
      have H := Lib.hid (show Rd _ g s b u from hr)
      clear H2 hr hb
      have HZ := Lib.hid (HE.out.trans (show _ = some (⟨1, (a : Int), (b : Int), [], []⟩, u) by rw [F0.out, F1, HP0.out]; show some (Pl.mk _ _ _ _ _, _) = _; rw [H.out.pos]))
      clear F1
      obtain ⟨⟨p0, p1, p2, p3, p4⟩, q0, q1, q2, q3, q4⟩ := HT.out.cells0
      obtain ⟨⟨r0, r1, r2, r3, r4⟩, s0, s1, s2, s3, s4⟩ := HT.out.cells1
      have c1 := H.out.cell1
      go_wp2
      refine bodyPost_ret (v := .tuple #[.agg #[.int .i64 1, .int .i64 a, .int .i64 b, .slice none 0 0, .slice none 0 0], .bool true]) ?_ rfl ?_
      · simp [results, Tryd.results47, go_sem, p0, p1, p2, p3, p4, q0, q1, q2, q3, q4]
      · rw [HZ.out]
        refine leaf_yes H.out hg HT.out.but _ ?_; repeat (first | with_reducible exact Sets.refl _ _ | with_reducible apply Sets.set0 | with_reducible apply Sets.set1)
    | none =>
      rintro e w' ⟨b1, hr, hb, rfl⟩
      replace HT := Lib.hid (HT.out.then hb hg)
      have ha := (show Rd _ g s b1 ([]) from hr).len
      have ha' := H2.out.len
      obtain rfl : a = b1 := by omega
      clear H2
      have H2 := Lib.hid (show Rd _ g s a ([]) from hr)
      clear hr hb ha ha'
      replace F1 := Lib.hid F1
      go_wp2_with fail
      refine (word_any g s { data := #[116, 114, 117, 101] } a ([]) _ hs (by decide) H2.out).mono ?_
      rw [show bytesOf { data := #[116, 114, 117, 101] } = trueW from rfl]
      cases F2 : word trueW ([]) with
      | some u =>
        rintro e w' ⟨b, hr, hb, rfl⟩
        replace HT := Lib.hid (HT.out.then hb hg)
        have H := Lib.hid (show Rd _ g s b u from hr)
        clear H2 hr hb
        have HZ := Lib.hid (HE.out.trans (show _ = some (⟨2, (a : Int), (b : Int), [], []⟩, u) by rw [F0.out, F1.out, F2, HP0.out]; show some (Pl.mk _ _ _ _ _, _) = _; rw [H.out.pos]))
        clear F2
        obtain ⟨⟨p0, p1, p2, p3, p4⟩, q0, q1, q2, q3, q4⟩ := HT.out.cells0
        obtain ⟨⟨r0, r1, r2, r3, r4⟩, s0, s1, s2, s3, s4⟩ := HT.out.cells1
        have c1 := H.out.cell1
        go_wp2
        refine bodyPost_ret (v := .tuple #[.agg #[.int .i64 2, .int .i64 a, .int .i64 b, .slice none 0 0, .slice none 0 0], .bool true]) ?_ rfl ?_
        · simp [results, Tryd.results47, go_sem, p0, p1, p2, p3, p4, q0, q1, q2, q3, q4]
        · rw [HZ.out]
          refine leaf_yes H.out hg HT.out.but _ ?_; repeat (first | with_reducible exact Sets.refl _ _ | with_reducible apply Sets.set0 | with_reducible apply Sets.set1)
      | none =>
        rintro e w' ⟨b2, hr, hb, rfl⟩
        replace HT := Lib.hid (HT.out.then hb hg)
        have ha := (show Rd _ g s b2 ([]) from hr).len
        have ha' := H2.out.len
        obtain rfl : a = b2 := by omega
        clear H2
        have H2 := Lib.hid (show Rd _ g s a ([]) from hr)
        clear hr hb ha ha'
        replace F2 := Lib.hid F2
        have HZ := Lib.hid (HE.out.trans (show _ = none by rw [F0.out, F1.out, F2.out]))
        have H := H2
        clear H2
        obtain ⟨b, hbb⟩ : ∃ b, b = a := ⟨a, rfl⟩
        obtain ⟨⟨p0, p1, p2, p3, p4⟩, q0, q1, q2, q3, q4⟩ := HT.out.cells0
        obtain ⟨⟨r0, r1, r2, r3, r4⟩, s0, s1, s2, s3, s4⟩ := HT.out.cells1
        have c1 := H.out.cell1
        go_wp2
        refine bodyPost_ret (v := .tuple #[.agg #[.int .i64 0, .int .i64 a, .int .i64 a, .slice none 0 0, .slice none 0 0], .bool false]) ?_ rfl ?_
        · simp [results, Tryd.results47, go_sem, p0, p1, p2, p3, p4, q0, q1, q2, q3, q4]
        · rw [HZ.out]
          refine leaf_no H.out hg HT.out.but _ ?_; repeat (first | with_reducible exact Sets.refl _ _ | with_reducible apply Sets.set0 | with_reducible apply Sets.set1)
end Go.Proofs.YthehnffmbdlopaaDoor.J

set_option linter.unusedVariables false
set_option linter.unusedSimpArgs false
namespace Go.Proofs.YthehnffmbdlopaaDoor.J
open Go.RowKit Go.Proofs.YthehnffmbdlopaaDoorW.PrintWords Go.Proofs.YthehnffmbdlopaaDoorW.PrintLast Go.Proofs.YthehnffmbdlopaaDoorW.PrintMore Go.Proofs.YthehnffmbdlopaaDoor.Aid

theorem value_any (s : ByteArray) (hs : s.size ≤ 2147483647) : ∀ n, ValC s n
  | 0 => fun g a l w hl h => absurd hl (Nat.not_lt_zero _)
  | n + 1 => fun g a l w hl h => by
    have hv := value_any s hs n
    cases l with
    | nil => exact value_nil s hs n g a w h
    | cons c t =>
      have hn : t.length < n := by simp only [List.length_cons] at hl; omega
      by_cases h1 : c = 123
      · subst h1; exact value_obj s hs n hv g a t w hn h
      by_cases h2 : c = 91
      · subst h2; exact value_arr s hs n hv g a t w hn h
      by_cases h3 : c = 34
      · subst h3; exact value_str s hs n g a t w h
      by_cases h4 : c = 45 ∨ dig c = true
      · exact value_num s hs n g a c t w h4 h
      · simp only [not_or] at h4
        exact value_word s hs n g a c t w h1 h2 h3 h4.1 h4.2 h

def PlPost (w : World) : Option Pl → Ending → World → Prop
  | some p, e, w' => ∃ A3 c3 A4 c4, Below w.heap.size w w' ∧ kSp.R tSp w' w.heap.size (fun _ => True) (.slice A3 p.names.length c3) p.names ∧ kPl.R tPl w' w.heap.size (fun _ => True) (.slice A4 p.kids.length c4) p.kids ∧
      e = .returned (.tuple #[.agg #[.int .i64 p.kind, .int .i64 p.b, .int .i64 p.e, .slice A3 p.names.length c3, .slice A4 p.kids.length c4], .bool true])
  | none, e, w' => Below w.heap.size w w' ∧ e = .returned (.tuple #[.agg #[.int .i64 0, .int .i64 0, .int .i64 0, .slice none 0 0, .slice none 0 0], .bool false])
theorem Rd.start (w : World) (s : ByteArray) : Rd (w.alloc (.cells #[.string s, .int .i64 0] tRd)) w.heap.size s 0 (bytesOf s) := ⟨blk_new _ _, Nat.zero_le _, rfl⟩

/-- Behind the reader's making: the result's block is as it was made. -/
structure Pw (w W : World) : Prop where
  b0 : W.heap[w.heap.size]? = some (.cells #[.int .i64 0, .int .i64 0, .int .i64 0, .slice none 0 0, .slice none 0 0] tPl (0, 0))
  sz : w.heap.size + 2 ≤ W.heap.size
  bel : Below w.heap.size w W
theorem Pw.start (w : World) (s : ByteArray) : Pw w ((w.alloc (.cells #[.int .i64 0, .int .i64 0, .int .i64 0, .slice none 0 0, .slice none 0 0] tPl)).alloc (.cells #[.string s, .int .i64 0] tRd)) where
  b0 := blk_alloc (blk_new _ _) _
  sz := by simp
  bel := ((Below.refl _ _).alloc (Nat.le_refl _) _).alloc (by simp) _
theorem Pw.then {w W W' : World} (h : Pw w W) (hb : But (w.heap.size + 1) W W') : Pw w W' where
  b0 := (hb.block _ (by have := h.sz; omega) (by omega)).trans h.b0
  sz := Nat.le_trans h.sz hb.size
  bel := h.bel.trans (hb.to_below (by omega) (by have := h.sz; omega))
theorem Pw.alloc {w W : World} (h : Pw w W) (o : Obj) : Pw w (W.alloc o) where
  b0 := blk_alloc h.b0 _
  sz := by have := h.sz; simp; omega
  bel := h.bel.alloc (by have := h.sz; omega) _
theorem Pw.cells0 {w W : World} (h : Pw w W) :
    (W.cell? ⟨w.heap.size, 0, none⟩ = some (.int .i64 0) ∧ W.cell? ⟨w.heap.size, 1, none⟩ = some (.int .i64 0) ∧ W.cell? ⟨w.heap.size, 2, none⟩ = some (.int .i64 0) ∧ W.cell? ⟨w.heap.size, 3, none⟩ = some (.slice none 0 0) ∧ W.cell? ⟨w.heap.size, 4, none⟩ = some (.slice none 0 0)) ∧
    W.frozen? ⟨w.heap.size, 0, none⟩ = false ∧ W.frozen? ⟨w.heap.size, 1, none⟩ = false ∧ W.frozen? ⟨w.heap.size, 2, none⟩ = false ∧ W.frozen? ⟨w.heap.size, 3, none⟩ = false ∧ W.frozen? ⟨w.heap.size, 4, none⟩ = false :=
  ⟨⟨(blk_cell h.b0 0).trans rfl, (blk_cell h.b0 1).trans rfl, (blk_cell h.b0 2).trans rfl, (blk_cell h.b0 3).trans rfl, (blk_cell h.b0 4).trans rfl⟩, blk_frozen h.b0 0, blk_frozen h.b0 1, blk_frozen h.b0 2, blk_frozen h.b0 3, blk_frozen h.b0 4⟩
theorem pl_no {w W : World} (h : Pw w W) (W' : World) (hS : Sets w.heap.size W W') : PlPost w none (.returned (.tuple #[.agg #[.int .i64 0, .int .i64 0, .int .i64 0, .slice none 0 0, .slice none 0 0], .bool false])) W' :=
  ⟨⟨hS.os.trans h.bel.os, hS.tape.trans h.bel.tape, hS.output.trans h.bel.output, by rw [hS.size]; exact h.bel.size, fun k hk => (hS.block k (by omega) (by omega)).trans (h.bel.block k hk)⟩, rfl⟩
theorem pl_yes {w W : World} {p : Pl} {A3 A4 : Option Addr} {c3 c4 B : Nat} (h : Pw w W) (h3 : kSp.R tSp W B (fun _ => True) (.slice A3 p.names.length c3) p.names) (h4 : kPl.R tPl W B (fun _ => True) (.slice A4 p.kids.length c4) p.kids) (hB : w.heap.size + 2 ≤ B) (W' : World) (hS : Sets w.heap.size W W') :
    PlPost w (some p) (.returned (.tuple #[.agg #[.int .i64 p.kind, .int .i64 p.b, .int .i64 p.e, .slice A3 p.names.length c3, .slice A4 p.kids.length c4], .bool true])) W' :=
  ⟨A3, c3, A4, c4, ⟨hS.os.trans h.bel.os, hS.tape.trans h.bel.tape, hS.output.trans h.bel.output, by rw [hS.size]; exact h.bel.size, fun k hk => (hS.block k (by omega) (by omega)).trans (h.bel.block k hk)⟩, hS.R h3 hB, hS.R h4 hB, rfl⟩

set_option maxHeartbeats 4000000 in
set_option maxRecDepth 100000 in
theorem Places_any (s : ByteArray) (hs : s.size ≤ 2147483647) (w : World) :
    Calls Tryd.prog 31 #[.string s] w (PlPost w (text (bytesOf s))) := by
  have hlen := bytesOf_length s
  have HE := Lib.hid (show text (bytesOf s) = (val s.size (s.size + 1) (skip (bytesOf s))).bind fun x => if skip x.2 = [] then some x.1 else none by unfold text; rw [hlen])
  go_enter Tryd.func31, Tryd.ntmps31
  go_wp2_with fail
  have H := Rd.start (w.alloc (.cells #[.int .i64 0, .int .i64 0, .int .i64 0, .slice none 0 0, .slice none 0 0] tPl)) s
  rw [show (w.alloc (.cells #[.int .i64 0, .int .i64 0, .int .i64 0, .slice none 0 0, .slice none 0 0] tPl)).heap.size = w.heap.size + 1 by simp] at H
  replace H := Lib.hid H
  have HT := Lib.hid (Pw.start w s)
  have hsk := skip_le (bytesOf s)
  refine (blanks_any (w.heap.size + 1) s _ _ _ hs H.out).mono ?_
  rintro e w' ⟨b, hr, hb, rfl⟩
  replace HT := Lib.hid (HT.out.then hb)
  replace H := Lib.hid hr
  clear hr hb
  go_wp2_with fail
  refine (value_any s hs (s.size + 1) (w.heap.size + 1) b _ _ (by omega) H.out).mono ?_
  cases F : val s.size (s.size + 1) (skip (bytesOf s)) with
  | none =>
    rintro e w' ⟨b1, t, k, b0, e0, hr, hb, rfl⟩
    replace HT := Lib.hid (HT.out.then hb)
    have HZ := Lib.hid (HE.out.trans (by rw [F] <;> rfl))
    clear hr hb F H
    replace HT := Lib.hid (HT.out.alloc (.cells #[.int .i64 k, .int .i64 b0, .int .i64 e0, .slice none 0 0, .slice none 0 0] tPl))
    obtain ⟨⟨p0, p1, p2, p3, p4⟩, q0, q1, q2, q3, q4⟩ := HT.out.cells0
    go_wp2
    refine bodyPost_ret (v := .tuple #[.agg #[.int .i64 0, .int .i64 0, .int .i64 0, .slice none 0 0, .slice none 0 0], .bool false]) ?_ rfl ?_
    · simp [results, Tryd.results31, go_sem, p0, p1, p2, p3, p4, q0, q1, q2, q3, q4]
    · rw [HZ.out]
      refine pl_no HT.out _ ?_; repeat (first | with_reducible exact Sets.refl _ _ | with_reducible apply Sets.set0 | with_reducible apply Sets.set1)
  | some x =>
    obtain ⟨p, t⟩ := x
    rintro e w' ⟨b1, A3, c3, A4, c4, hr, hb, h3, h4, rfl⟩
    have hB := HT.out.sz
    replace HT := Lib.hid (HT.out.then hb)
    replace H := Lib.hid hr
    replace F := Lib.hid F
    have H3 := Lib.hid h3
    have H4 := Lib.hid h4
    clear hr hb h3 h4
    go_wp2_with fail
    have hB2 := HT.out.sz
    have HP := Lib.hid (blk_new w' (.cells #[.int .i64 p.kind, .int .i64 p.b, .int .i64 p.e, .slice A3 p.names.length c3, .slice A4 p.kids.length c4] tPl))
    replace HT := Lib.hid (HT.out.alloc (.cells #[.int .i64 p.kind, .int .i64 p.b, .int .i64 p.e, .slice A3 p.names.length c3, .slice A4 p.kids.length c4] tPl))
    replace H := Lib.hid (H.out.alloc (.cells #[.int .i64 p.kind, .int .i64 p.b, .int .i64 p.e, .slice A3 p.names.length c3, .slice A4 p.kids.length c4] tPl))
    replace H3 := Lib.hid (Kd.R_below H3.out (below_alloc (Below.refl _ _) (.cells #[.int .i64 p.kind, .int .i64 p.b, .int .i64 p.e, .slice A3 p.names.length c3, .slice A4 p.kids.length c4] tPl)))
    replace H4 := Lib.hid (Kd.R_below H4.out (below_alloc (Below.refl _ _) (.cells #[.int .i64 p.kind, .int .i64 p.b, .int .i64 p.e, .slice A3 p.names.length c3, .slice A4 p.kids.length c4] tPl)))
    refine (blanks_any (w.heap.size + 1) s _ _ _ hs H.out).mono ?_
    rintro e w2 ⟨b2, hr, hb, rfl⟩
    replace HT := Lib.hid (HT.out.then hb)
    replace HP := Lib.hid ((hb.block _ (by simp) (by omega)).trans HP.out)
    replace H := Lib.hid hr
    replace H3 := Lib.hid (R_but H3.out hb (by omega))
    replace H4 := Lib.hid (R_but H4.out hb (by omega))
    clear hr hb
    obtain ⟨⟨p0, p1, p2, p3, p4⟩, q0, q1, q2, q3, q4⟩ := HT.out.cells0
    have r0 := (blk_cell HP.out 0).trans rfl
    have r1 := (blk_cell HP.out 1).trans rfl
    have r2 := (blk_cell HP.out 2).trans rfl
    have r3 := (blk_cell HP.out 3).trans rfl
    have r4 := (blk_cell HP.out 4).trans rfl
    have c1 := H.out.cell1
    have hl := H.out.len
    by_cases he : skip t = []
    · have HZ := Lib.hid (HE.out.trans (show _ = some p by rw [F.out]; show (if _ then _ else _) = _; rw [if_pos he]))
      rw [he, List.length_nil] at hl
      obtain rfl : b2 = s.size := by omega
      clear he hl
      go_wp2
      refine bodyPost_ret (v := .tuple #[.agg #[.int .i64 p.kind, .int .i64 p.b, .int .i64 p.e, .slice A3 p.names.length c3, .slice A4 p.kids.length c4], .bool true]) ?_ rfl ?_
      · simp [results, Tryd.results31, go_sem, p0, p1, p2, p3, p4, q0, q1, q2, q3, q4]
      · rw [HZ.out]
        refine pl_yes HT.out H3.out H4.out hB _ ?_; repeat (first | with_reducible exact Sets.refl _ _ | with_reducible apply Sets.set0 | with_reducible apply Sets.set1)
    · have HZ := Lib.hid (HE.out.trans (show _ = none by rw [F.out]; show (if _ then _ else _) = _; rw [if_neg he]))
      have hne : b2 ≠ s.size := by
        intro e
        exact he (List.eq_nil_of_length_eq_zero (by omega))
      have b1' : ((b2 : Int) != s.size) = true := bne_iff_ne.mpr (by omega)
      clear he hl hne
      go_wp2
      refine bodyPost_ret (v := .tuple #[.agg #[.int .i64 0, .int .i64 0, .int .i64 0, .slice none 0 0, .slice none 0 0], .bool false]) ?_ rfl ?_
      · simp [results, Tryd.results31, go_sem, p0, p1, p2, p3, p4, q0, q1, q2, q3, q4]
      · rw [HZ.out]
        refine pl_no HT.out _ ?_; repeat (first | with_reducible exact Sets.refl _ _ | with_reducible apply Sets.set0 | with_reducible apply Sets.set1)
end Go.Proofs.YthehnffmbdlopaaDoor.J
