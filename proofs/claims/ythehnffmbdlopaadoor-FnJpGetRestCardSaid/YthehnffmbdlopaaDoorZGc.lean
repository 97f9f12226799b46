/- Several texts in one. -/
import Derived.Test.YthehnffmbdlopaaDoorZGa
import Derived.Deep.LoopGhost
import Derived.Test.YthehnffmbdlopaaDoorZGb
set_option linter.unusedVariables false
set_option linter.unusedSimpArgs false
namespace Go.Proofs.YthehnffmbdlopaaDoor.J
open Go.RowKit Go.Proofs.YthehnffmbdlopaaDoorW.PrintWords Go.Proofs.YthehnffmbdlopaaDoorW.PrintLast Go.Proofs.YthehnffmbdlopaaDoorW.PrintMore Go.Proofs.YthehnffmbdlopaaDoor.Aid

theorem infoY : (Tryd.prog.info? 5).map (fun i => (i.zero, i.size, i.bytes)) = some (some (.int .u8 0), 1, 1) := by kernel_rfl
/-- A row of bytes of the call's own: v reads as xs. -/
def Outp (w0 W : World) (v : Value) (xs : L) : Prop := W.ownsRow w0.heap.size 5 1 v xs.length (nums .u8 xs) ∧ Below w0.heap.size w0 W
theorem Outp.nil {w0 W : World} (h : Below w0.heap.size w0 W) : Outp w0 W (.slice none 0 0) [] := ⟨Kd.own_of_R (enc := Value.int .u8) (h1 := fun _ => rfl) (Kd.R_nil (Kd.int .u8) 5 W w0.heap.size (fun _ => True)), h⟩
theorem Outp.below {w0 W W' : World} {v : Value} {xs : L} (h : Outp w0 W v xs) (k : Below W.heap.size W W') : Outp w0 W' v xs := ⟨pw_own_below h.1 k, below_then h.2 h.2.size k⟩
theorem Outp.alloc {w0 W : World} {v : Value} {xs : L} (h : Outp w0 W v xs) (o : Obj) : Outp w0 (W.alloc o) v xs := h.below (below_alloc (Below.refl _ _) o)
theorem Outp.drewN {w0 W : World} {v : Value} {xs : L} (h : Outp w0 W v xs) (n : Nat) : Outp w0 (W.drewN n) v xs := h.below (pw_below_drewN (Below.refl _ _) n)
theorem Outp.drew {w0 W : World} {v : Value} {xs : L} (h : Outp w0 W v xs) : Outp w0 W.drew v xs := by
  have := h.drewN 1
  rwa [← World.drew_drewN, World.drewN_zero] at this
section
variable {ops : Array Oper} {rest : List Oper} {o : Oper} {a : Act} {Q : Exit → Act → World → Prop}
/-- append(s, y) -/
theorem out_num {w0 W : World} (hgd : o.guard = none) (s x : Operand) (ho : o.op = .call { callee := .builtin .append, args := #[s, x], argTypes := #[57, 57] }) (v : Value) (y : Int) (xs : L)
    (hs : a.eval s = v) (hx : a.eval x = .slice (some ⟨W.heap.size, 0, none⟩) 1 1) (H : Outp w0 W v xs) (hl : xs.length ≤ 4294967296)
    (h : ∀ v1 w1, Outp w0 w1 v1 (xs ++ [y]) → W.grownBy w1 v.ownBlock → wpList Tryd.prog ops Q rest (a.put o.dst v1) w1) : wpList Tryd.prog ops Q (o :: rest) a (W.alloc (.cells #[.int .u8 y] 5)) := by
  refine print_append_num (w0 := w0) w0.heap.size hgd s x 57 5 .u8 1 ho Tryd.underlying57 infoY (by decide) v xs y hs hx H.1 H.2 H.2.size (by omega) ?_
  intro v1 w1 hown hb1 hg1 hat1
  exact h v1 w1 ⟨hown, hb1⟩ hg1
/-- append(s, ys...), ys read -/
theorem out_row {w0 W : World} (hgd : o.guard = none) (s x : Operand) (ho : o.op = .call { callee := .builtin .append, args := #[s, x], argTypes := #[57, 57] }) (v : Value) (ys xs : L) (A : Option Addr) (m c : Nat)
    (hs : a.eval s = v) (hx : a.eval x = .slice A m c) (H : Outp w0 W v xs) (HR : ReadsInt W .u8 A m ys) (hl : xs.length + m ≤ 4294967296)
    (h : ∀ v1 w1, Outp w0 w1 v1 (xs ++ ys) → W.grownBy w1 v.ownBlock → wpList Tryd.prog ops Q rest (a.put o.dst v1) w1) : wpList Tryd.prog ops Q (o :: rest) a W := by
  refine print_append_row (w0 := w0) w0.heap.size hgd s x 57 5 .u8 1 ho Tryd.underlying57 infoY (by decide) v xs ys A m c hs hx H.1 HR H.2 H.2.size (by omega) ?_
  intro v1 w1 hown hb1 hg1 hat1
  exact h v1 w1 ⟨hown, hb1⟩ hg1
end
/-- A literal row, just laid. -/
theorem lit_reads (W : World) (ys : L) (hl : ys.length ≤ 100) : ReadsInt (W.alloc (.cells (nums .u8 ys).toArray 5)) .u8 (some ⟨W.heap.size, 0, none⟩) ys.length ys := by
  refine ⟨rfl, by omega, fun _ => ⟨_, rfl, fun j hj => ?_⟩⟩
  rw [add_plain]
  have h := heap_alloc_new W (.cells (nums .u8 ys).toArray 5)
  have := cell_of_row (W.alloc (.cells (nums .u8 ys).toArray 5)) W.heap.size j (nums .u8 ys).toArray 5 (0, 0) h
  rw [this]
  simp [nums, List.getD_eq_getElem?_getD, List.getElem?_eq_getElem hj]
def OPost (w0 : World) (xs : L) (e : Ending) (w' : World) : Prop := ∃ v, e = .returned v ∧ Outp w0 w' v xs
set_option maxHeartbeats 4000000 in
set_option maxRecDepth 100000 in
theorem appendUTF8_any (w0 w : World) (v : Value) (xs : L) (c : Int) (h0 : 0 ≤ c) (h1 : c ≤ 1114111) (hl : xs.length ≤ 4294960000) (H : Outp w0 w v xs) :
    Calls Tryd.prog 40 #[v, .int .i64 c] w (OPost w0 (xs ++ utf8 c)) := by
  have HO := Lib.hid H
  clear H
  by_cases c1 : c < 128
  · have e : utf8 c = [c] := by unfold utf8; rw [if_pos c1]
    rw [e]
    clear e
    go_enter Tryd.func40, Tryd.ntmps40
    go_wp2_with (at_builtin; refine out_num rfl (.tmp 8) (.tmp 11) rfl v c xs rfl (by simp [go_sem]) HO.out (by omega) ?_; intro v1 w1 ho _; replace ho := Lib.hid ho)
    go_ret
    exact ⟨v1, rfl, ho.out⟩
  by_cases c2 : c < 2048
  · have e : utf8 c = [192 + c / 64, 128 + c % 64] := by unfold utf8; rw [if_neg c1, if_pos c2]
    rw [e]
    clear e
    go_enter Tryd.func40, Tryd.ntmps40
    go_wp2_with (at_builtin; refine out_row rfl (.tmp 16) (.tmp 25) rfl v [192 + c / 64, 128 + c % 64] xs (some ⟨w.heap.size, 0, none⟩) 2 2 rfl (by simp [go_sem]) (HO.out.alloc _) (lit_reads w [192 + c / 64, 128 + c % 64] (by simp)) (by omega) ?_; intro v1 w1 ho _; replace ho := Lib.hid ho)
    go_ret
    exact ⟨v1, rfl, ho.out⟩
  have kh : Hid (∀ W, Calls Tryd.prog 38 #[.int .i64 c] W fun e w' => e = .returned (.bool (high c)) ∧ W = w') := Lib.hid (high_any c)
  have kl : Hid (∀ W, Calls Tryd.prog 39 #[.int .i64 c] W fun e w' => e = .returned (.bool (low c)) ∧ W = w') := Lib.hid (low_any c)
  by_cases c3 : high c = true
  · rw [utf8_sur (.inl c3)]
    rw [c3] at kh
    clear c3 kl
    go_enter Tryd.func40, Tryd.ntmps40
    go_wp2_with (first | (go_at_call 38; refine (kh.out _).mono ?_; rintro e w' ⟨rfl, rfl⟩) | (at_builtin; refine out_row rfl (.tmp 34) (.tmp 35) rfl v [239, 191, 189] xs (some ⟨w.heap.size, 0, none⟩) 3 3 rfl (by simp [go_sem]) (HO.out.alloc _) (lit_reads w [239, 191, 189] (by simp)) (by omega) ?_; intro v1 w1 ho _; replace ho := Lib.hid ho))
    go_ret
    exact ⟨v1, rfl, ho.out⟩
  have c3' : high c = false := by simpa using c3
  rw [c3'] at kh
  by_cases c4 : low c = true
  · rw [utf8_sur (.inr c4)]
    rw [c4] at kl
    clear c4 c3 c3'
    go_enter Tryd.func40, Tryd.ntmps40
    go_wp2_with (first | (go_at_call 38; refine (kh.out _).mono ?_; rintro e w' ⟨rfl, rfl⟩) | (go_at_call 39; refine (kl.out _).mono ?_; rintro e w' ⟨rfl, rfl⟩) | (at_builtin; refine out_row rfl (.tmp 34) (.tmp 35) rfl v [239, 191, 189] xs (some ⟨w.heap.size, 0, none⟩) 3 3 rfl (by simp [go_sem]) (HO.out.alloc _) (lit_reads w [239, 191, 189] (by simp)) (by omega) ?_; intro v1 w1 ho _; replace ho := Lib.hid ho))
    go_ret
    exact ⟨v1, rfl, ho.out⟩
  have c4' : low c = false := by simpa using c4
  rw [c4'] at kl
  by_cases c5 : c < 65536
  · have e : utf8 c = [224 + c / 4096, 128 + c / 64 % 64, 128 + c % 64] := by unfold utf8; rw [if_neg c1, if_neg c2, if_neg (by rintro (h | h); exact c3 h; exact c4 h), if_pos c5]
    rw [e]
    clear e c3 c4 c3' c4'
    go_enter Tryd.func40, Tryd.ntmps40
    go_wp2_with (first | (go_at_call 38; refine (kh.out _).mono ?_; rintro e w' ⟨rfl, rfl⟩) | (go_at_call 39; refine (kl.out _).mono ?_; rintro e w' ⟨rfl, rfl⟩) | (at_builtin; refine out_row rfl (.tmp 40) (.tmp 54) rfl v [224 + c / 4096, 128 + c / 64 % 64, 128 + c % 64] xs (some ⟨w.heap.size, 0, none⟩) 3 3 rfl (by simp [go_sem]) (HO.out.alloc _) (lit_reads w [224 + c / 4096, 128 + c / 64 % 64, 128 + c % 64] (by simp)) (by omega) ?_; intro v1 w1 ho _; replace ho := Lib.hid ho))
    go_ret
    exact ⟨v1, rfl, ho.out⟩
  · have e : utf8 c = [240 + c / 262144, 128 + c / 4096 % 64, 128 + c / 64 % 64, 128 + c % 64] := by unfold utf8; rw [if_neg c1, if_neg c2, if_neg (by rintro (h | h); exact c3 h; exact c4 h), if_neg c5]
    rw [e]
    clear e c3 c4 c3' c4'
    go_enter Tryd.func40, Tryd.ntmps40
    go_wp2_with (first | (go_at_call 38; refine (kh.out _).mono ?_; rintro e w' ⟨rfl, rfl⟩) | (go_at_call 39; refine (kl.out _).mono ?_; rintro e w' ⟨rfl, rfl⟩) | (at_builtin; refine out_row rfl (.tmp 56) (.tmp 75) rfl v [240 + c / 262144, 128 + c / 4096 % 64, 128 + c / 64 % 64, 128 + c % 64] xs (some ⟨w.heap.size, 0, none⟩) 4 4 rfl (by simp [go_sem]) (HO.out.alloc _) (lit_reads w [240 + c / 262144, 128 + c / 4096 % 64, 128 + c / 64 % 64, 128 + c % 64] (by simp)) (by omega) ?_; intro v1 w1 ho _; replace ho := Lib.hid ho))
    go_ret
    exact ⟨v1, rfl, ho.out⟩
end Go.Proofs.YthehnffmbdlopaaDoor.J

set_option linter.unusedVariables false
set_option linter.unusedSimpArgs false
namespace Go.Proofs.YthehnffmbdlopaaDoor.J
open Go.RowKit Go.Proofs.YthehnffmbdlopaaDoorW.PrintWords Go.Proofs.YthehnffmbdlopaaDoorW.PrintLast Go.Proofs.YthehnffmbdlopaaDoorW.PrintMore Go.Proofs.YthehnffmbdlopaaDoor.Aid

theorem from_cons (s : ByteArray) (a : Nat) (h : a < s.size) : from_ s a = ((s[a]'h).toNat : Int) :: from_ s (a + 1) := by
  have hl : a < (bytesOf s).length := by rw [bytesOf_length]; exact h
  have e := from_at0 s a h
  unfold from_ at e ⊢
  rw [List.drop_eq_getElem_cons hl]
  congr 1
  rw [e, List.getD_eq_getElem?_getD, List.getElem?_drop, Nat.add_zero, List.getElem?_eq_getElem hl]; rfl
theorem from_end (s : ByteArray) : from_ s s.size = [] := List.eq_nil_of_length_eq_zero (by rw [from_len]; omega)
theorem str_outp {w0 W : World} {v : Value} {xs : L} (h : Outp w0 W v xs) : (convert 57 9 v).run Tryd.prog W = .ok (.string (strOfNums xs)) W :=
  own_string Tryd.underlying57 Tryd.underlying5 Tryd.underlying9 h.1
theorem slice_strI (s : ByteArray) (b e : Int) (h0 : 0 ≤ b) (h1 : b ≤ e) (h2 : e ≤ s.size) (W : World) :
    (Instr.slice 9 (.string s) (some (.int .i64 b)) (some (.int .i64 e)) none).run Tryd.prog W = .ok (.string (s.extract b.toNat e.toNat)) W := by
  have h3 : 0 ≤ e := by omega
  go_simp
/-- The inside of a text between its first byte and its last one. -/
theorem slice_in (s s1 : ByteArray) (h2 : 2 ≤ s.size) (e : s1 = s.extract 1 (s.size - 1)) (W : World) :
    (Instr.slice 9 (.string s) (some (.int .i64 1)) (some (.int .i64 ((s.size : Int) - 1))) none).run Tryd.prog W = .ok (.string s1) W := by
  have := slice_strI s 1 ((s.size : Int) - 1) (by omega) (by omega) (by omega) W
  rwa [show ((s.size : Int) - 1).toNat = s.size - 1 by omega, show (1 : Int).toNat = 1 from rfl, ← e] at this
def UQ (w W : World) (s1 : ByteArray) (kq : Nat) (v3 v5 : Value) : Prop :=
  ∃ a acc, v5 = .int .i64 ((a : Nat) : Int) ∧ a + kq = s1.size ∧ Outp w W v3 acc ∧ acc ++ unq (from_ s1 a) = unq (from_ s1 0) ∧ wellE (from_ s1 a) = true ∧ acc.length ≤ a
theorem utf8_len (c : Int) : (utf8 c).length ≤ 4 := by
  unfold utf8
  repeat' split
  all_goals simp
theorem utf8_len3 {c : Int} (h : c ≤ 65535) : (utf8 c).length ≤ 3 := by
  unfold utf8
  split
  · simp
  split
  · simp
  split
  · simp
  split
  · simp
  · omega
theorem unit_len {l : L} {n : Int} (h : unit l = some n) : 6 ≤ l.length := by
  unfold unit at h
  split at h
  · rename_i g; exact g.1
  · cases h
/-- A well-formed inside at a backslash: an escape of one letter, or a number. -/
theorem well_esc {t : L} (h : wellE (92 :: t) = true) : (unit (92 :: t) = none ∧ ∃ c r, t = c :: r ∧ wellE r = true) ∨ ∃ n, unit (92 :: t) = some n ∧ wellE (t.drop 5) = true := by
  cases t with
  | nil => rw [wellE_no rfl] at h; cases h
  | cons c r =>
    by_cases hp : plainEsc c = true
    · refine .inl ⟨unit_else (by simp only [List.getD_cons_succ, List.getD_cons_zero]; exact fun k => plainEsc_ne hp k.2), c, r, rfl, ?_⟩
      rwa [wellE_yes (esc_plain r hp)] at h
    by_cases hu : c = 117
    · subst hu
      cases e : unit (92 :: 117 :: r) with
      | none => rw [hexes4_no_u (unit_no e)] at h; cases h
      | some n =>
        obtain ⟨g1, g2⟩ := unit_yes e
        rw [wellE_yes (by rw [esc_u, g1])] at h
        exact .inr ⟨n, rfl, h⟩
    · rw [wellE_no (esc_else r hp hu)] at h; cases h
theorem well_u {l : L} {m : Int} (h : wellE l = true) (hu : unit l = some m) : wellE (l.drop 6) = true := by
  have hl := unit_len hu
  cases l with
  | nil => simp at hl
  | cons c t =>
    have hc : c = 92 := by
      unfold unit at hu
      split at hu
      · rename_i g; exact g.2.1
      · cases hu
    subst hc
    rcases well_esc h with ⟨e, _⟩ | ⟨n, e, hw⟩
    · rw [e] at hu; cases hu
    · exact hw

set_option maxHeartbeats 8000000 in
set_option maxRecDepth 100000 in
theorem Unquote_any (s : ByteArray) (w : World) (h2 : 2 ≤ s.size) (hs : s.size ≤ 2147483660) (hw : wellE (((bytesOf s).drop 1).take (s.size - 2)) = true) :
    Calls Tryd.prog 22 #[.string s] w fun e w' => e = .returned (.string (strOfNums (unq (((bytesOf s).drop 1).take (s.size - 2))))) ∧ Below w.heap.size w w' := by
  obtain ⟨s1, hs1⟩ : ∃ s1, s1 = s.extract 1 (s.size - 1) := ⟨_, rfl⟩
  have hb1 : ((bytesOf s).drop 1).take (s.size - 2) = from_ s1 0 := by unfold from_; rw [hs1, bytesOf_extract, List.drop_zero]; congr 1
  rw [hb1] at hw ⊢
  have hz : s1.size + 2 = s.size := by rw [hs1, ByteArray.size_extract]; omega
  have ksl := slice_in s s1 h2 hs1
  have hsz : s1.size ≤ 2147483660 := by omega
  have HW := Lib.hid hw
  replace hs1 := Lib.hid hs1
  replace hz := Lib.hid hz
  clear hb1 hw
  go_enter Tryd.func22, Tryd.ntmps22
  go_wp2
  clear ksl
  go_loopg [3, 5] s1.size (fun kq v3 v5 w' => Hid (UQ w w' s1 kq v3 v5))
  case atStart => exact Lib.hid ⟨0, [], rfl, by omega, Outp.nil (Below.refl _ _), rfl, HW.out, by simp⟩
  case round =>
    obtain ⟨a, acc, rfl, hak, hO, hq, hwl, hacc⟩ := hrel.out
    clear hrel HW
    have HO := Lib.hid hO
    have HQ := Lib.hid hq
    have HK := Lib.hid hak
    have hu1 : Hid (∀ W, Calls Tryd.prog 36 #[.string s1, .int .i64 (a : Int)] W fun e w' => e = .returned (unitR (from_ s1 a)) ∧ W = w') := Lib.hid (fun W => unit_any s1 a W hsz (by omega))
    clear hO hq
    rcases Nat.lt_or_ge a s1.size with hlt | hge
    · have hcons := from_cons s1 a hlt
      by_cases hc : ((s1[a]'hlt).toNat : Int) = 92
      · rw [hc] at hcons
        have b1 : (((s1[a]'hlt).toNat : Int) != 92) = false := by rw [hc]; rfl
        rw [hcons] at hwl
        rcases well_esc hwl with ⟨hun, x, r, hxr, hwr⟩ | ⟨n, hun, hwr⟩
        · rw [← hcons] at hun
          rw [unitR_none hun] at hu1
          have hlr : a + 1 < s1.size := by have := congrArg List.length hxr; rw [from_len] at this; simp at this; omega
          have hx1 := from_cons s1 (a + 1) hlr
          rw [hxr] at hx1
          injection hx1 with hx1 hr1
          have hxs : Hid (∀ W, Calls Tryd.prog 37 #[.int .u8 ((s1[a + 1]'hlr).toNat : Int)] W fun e w' => e = .returned (.int .u8 (short x)) ∧ W = w') := Lib.hid (fun W => by rw [← hx1]; exact short_any x W)
          have fin : Hid (∀ w1 v1, Outp w w1 v1 (acc ++ [short x]) → UQ w w1 s1 (s1.size - (a + 2)) v1 (.int .i64 ((a + 2 : Nat) : Int))) := Lib.hid (fun w1 v1 ho => ⟨a + 2, acc ++ [short x], rfl, by omega, ho, by
            rw [← HQ.out, hcons, unq_short (by rw [← hcons]; exact hun), hxr]
            rw [show a + 2 = a + 1 + 1 by omega, ← hr1]; simp, by rw [show a + 2 = a + 1 + 1 by omega, ← hr1]; exact hwr, by simp; omega⟩)
          clear hc hcons hwl hun hxr hwr hx1 hr1 hak
          go_wp2_with (first | (go_at_call 36; refine (hu1.out _).mono ?_; rintro e w' ⟨rfl, rfl⟩) | (go_at_call 37; refine (hxs.out _).mono ?_; rintro e w' ⟨rfl, rfl⟩) | (at_builtin; refine out_num rfl (.tmp 39) (.tmp 45) rfl _ (short x) acc rfl (by simp [go_sem]) HO.out (by omega) ?_; intro v1 w1 ho _; replace ho := Lib.hid ho))
          go_roundg (s1.size - (a + 2))
          case rel => exact Lib.hid (fin.out _ _ ho.out)
          case measure => have := HK.out; omega
        · rw [← hcons] at hun
          rw [unitR_some hun] at hu1
          obtain ⟨n0, n1⟩ := unit_range hun
          have hl6 := unit_len hun
          rw [from_len] at hl6
          have hwr' : wellE (from_ s1 (a + 6)) = true := by rw [from_drop] at hwr; exact hwr
          have hu2 : Hid (∀ W, Calls Tryd.prog 36 #[.string s1, .int .i64 ((a : Int) + 6)] W fun e w' => e = .returned (unitR (from_ s1 (a + 6))) ∧ W = w') := Lib.hid (fun W => unit_any s1 (a + 6) W hsz (by omega))
          have kh : Hid (∀ W, Calls Tryd.prog 38 #[.int .i64 n] W fun e w' => e = .returned (.bool (high n)) ∧ W = w') := Lib.hid (high_any n)
          have one : Hid ((∀ m, unit (from_ s1 (a + 6)) = some m → ¬ (high n = true ∧ low m = true)) → ∀ w1 v1, Outp w w1 v1 (acc ++ utf8 n) → UQ w w1 s1 (s1.size - (a + 6)) v1 (.int .i64 ((a + 6 : Nat) : Int))) := Lib.hid (fun hno w1 v1 ho => ⟨a + 6, acc ++ utf8 n, rfl, by omega, ho, by
            rw [← HQ.out, hcons, unq_one (by rw [← hcons]; exact hun) (by rw [from_drop]; exact hno), from_drop]; simp, hwr', by rw [List.length_append]; have := utf8_len3 n1; omega⟩)
          have hlen : acc.length ≤ 4294960000 := by omega
          have HA : Hid (∀ W v, Outp w W v acc → Calls Tryd.prog 40 #[v, .int .i64 n] W (OPost w (acc ++ utf8 n))) := Lib.hid (fun W v ho => appendUTF8_any w W v acc n n0 (by omega) hlen ho)
          cases hm : unit (from_ s1 (a + 6)) with
          | none =>
            rw [unitR_none hm] at hu2
            have fin := Lib.hid (one.out (fun m e => by rw [hm] at e; cases e))
            clear hc hcons hwl hun hwr hwr' hm hak one
            go_wp2_with (first | (go_at_call_of 36 (Value.int .i64 (a : Int)); refine (hu1.out _).mono ?_; rintro e w' ⟨rfl, rfl⟩) | (go_at_call 36; refine (hu2.out _).mono ?_; rintro e w' ⟨rfl, rfl⟩) | (go_at_call 40; refine (HA.out _ _ HO.out).mono ?_; rintro e w' ⟨v1, rfl, ho⟩; replace ho := Lib.hid ho))
            go_roundg (s1.size - (a + 6))
            case rel => exact Lib.hid (fin.out _ _ ho.out)
            case measure => have := HK.out; omega
          | some m =>
            rw [unitR_some hm] at hu2
            obtain ⟨m0, m1⟩ := unit_range hm
            have kl : Hid (∀ W, Calls Tryd.prog 39 #[.int .i64 m] W fun e w' => e = .returned (.bool (low m)) ∧ W = w') := Lib.hid (low_any m)
            by_cases hh : high n = true
            · rw [hh] at kh
              by_cases hl : low m = true
              · rw [hl] at kl
                have hl12 := unit_len hm
                rw [from_len] at hl12
                have hc0 : 0 ≤ comb n m ∧ comb n m ≤ 1114111 := by unfold high at hh; unfold low at hl; unfold comb; simp at hh hl ⊢; omega
                have HA2 : Hid (∀ W v, Outp w W v acc → Calls Tryd.prog 40 #[v, .int .i64 (65536 + (n - 55296) * 1024 + (m - 56320))] W (OPost w (acc ++ utf8 (comb n m)))) := Lib.hid (fun W v ho => appendUTF8_any w W v acc (comb n m) hc0.1 hc0.2 hlen ho)
                have hwr2 : wellE (from_ s1 (a + 6 + 6)) = true := by rw [← from_drop]; exact well_u hwr' hm
                have fin : Hid (∀ w1 v1, Outp w w1 v1 (acc ++ utf8 (comb n m)) → UQ w w1 s1 (s1.size - (a + 12)) v1 (.int .i64 ((a + 12 : Nat) : Int))) := Lib.hid (fun w1 v1 ho => ⟨a + 12, acc ++ utf8 (comb n m), rfl, by omega, ho, by
                  rw [← HQ.out, hcons, unq_pair (by rw [← hcons]; exact hun) (by rw [from_drop]; exact hm) ⟨hh, hl⟩, from_drop]; simp, hwr2, by rw [List.length_append]; have := utf8_len (comb n m); omega⟩)
                clear hc hcons hwl hun hwr hwr' hwr2 hm hak one hh hl HA
                go_wp2_with (first | (go_at_call_of 36 (Value.int .i64 (a : Int)); refine (hu1.out _).mono ?_; rintro e w' ⟨rfl, rfl⟩) | (go_at_call 36; refine (hu2.out _).mono ?_; rintro e w' ⟨rfl, rfl⟩) | (go_at_call 38; refine (kh.out _).mono ?_; rintro e w' ⟨rfl, rfl⟩) | (go_at_call 39; refine (kl.out _).mono ?_; rintro e w' ⟨rfl, rfl⟩) | (go_at_call 40; refine (HA2.out _ _ HO.out).mono ?_; rintro e w' ⟨v1, rfl, ho⟩; replace ho := Lib.hid ho))
                go_roundg (s1.size - (a + 12))
                case rel => exact Lib.hid (fin.out _ _ ho.out)
                case measure => have := HK.out; omega
              · have hl' : low m = false := by simpa using hl
                rw [hl'] at kl
                have fin := Lib.hid (one.out (fun m' e g => by rw [hm] at e; injection e with e; subst e; exact hl g.2))
                clear hc hcons hwl hun hwr hwr' hm hak one hl hl' hh
                go_wp2_with (first | (go_at_call_of 36 (Value.int .i64 (a : Int)); refine (hu1.out _).mono ?_; rintro e w' ⟨rfl, rfl⟩) | (go_at_call 36; refine (hu2.out _).mono ?_; rintro e w' ⟨rfl, rfl⟩) | (go_at_call 38; refine (kh.out _).mono ?_; rintro e w' ⟨rfl, rfl⟩) | (go_at_call 39; refine (kl.out _).mono ?_; rintro e w' ⟨rfl, rfl⟩) | (go_at_call 40; refine (HA.out _ _ HO.out).mono ?_; rintro e w' ⟨v1, rfl, ho⟩; replace ho := Lib.hid ho))
                go_roundg (s1.size - (a + 6))
                case rel => exact Lib.hid (fin.out _ _ ho.out)
                case measure => have := HK.out; omega
            · have hh' : high n = false := by simpa using hh
              rw [hh'] at kh
              have fin := Lib.hid (one.out (fun m' e g => hh g.1))
              clear hc hcons hwl hun hwr hwr' hm hak one hh hh'
              go_wp2_with (first | (go_at_call_of 36 (Value.int .i64 (a : Int)); refine (hu1.out _).mono ?_; rintro e w' ⟨rfl, rfl⟩) | (go_at_call 36; refine (hu2.out _).mono ?_; rintro e w' ⟨rfl, rfl⟩) | (go_at_call 38; refine (kh.out _).mono ?_; rintro e w' ⟨rfl, rfl⟩) | (go_at_call 39; refine (kl.out _).mono ?_; rintro e w' ⟨rfl, rfl⟩) | (go_at_call 40; refine (HA.out _ _ HO.out).mono ?_; rintro e w' ⟨v1, rfl, ho⟩; replace ho := Lib.hid ho))
              go_roundg (s1.size - (a + 6))
              case rel => exact Lib.hid (fin.out _ _ ho.out)
              case measure => have := HK.out; omega
      · have b1 : (((s1[a]'hlt).toNat : Int) != 92) = true := bne_iff_ne.mpr hc
        rw [hcons, wellE_plain _ hc] at hwl
        obtain ⟨x, hx⟩ : ∃ x, x = ((s1[a]'hlt).toNat : Int) := ⟨_, rfl⟩
        have fin : Hid (∀ w1 v1, Outp w w1 v1 (acc ++ [((s1[a]'hlt).toNat : Int)]) → UQ w w1 s1 (s1.size - (a + 1)) v1 (.int .i64 ((a + 1 : Nat) : Int))) := Lib.hid (fun w1 v1 ho => ⟨a + 1, acc ++ [((s1[a]'hlt).toNat : Int)], rfl, by omega, ho, by
          rw [← HQ.out, hcons, unq_plain _ hc]; simp, hwl, by simp; omega⟩)
        clear hc hcons hwl hak hx
        go_wp2_with (at_builtin; refine out_num rfl (.tmp 23) (.tmp 27) rfl _ ((s1[a]'hlt).toNat : Int) acc rfl (by simp [go_sem]) HO.out (by omega) ?_; intro v1 w1 ho _; replace ho := Lib.hid ho)
        go_roundg (s1.size - (a + 1))
        case rel => exact Lib.hid (fin.out _ _ ho.out)
        case measure => have := HK.out; omega
    · obtain rfl : a = s1.size := by omega
      have ks := str_outp HO.out
      have hfin : Hid (unq (from_ s1 0) = acc) := Lib.hid (by rw [← HQ.out, from_end, unq_nil, List.append_nil])
      clear hak hwl
      go_wp2
      go_ret
      exact ⟨by rw [hfin.out]; rfl, HO.out.2⟩
end Go.Proofs.YthehnffmbdlopaaDoor.J

set_option linter.unusedVariables false
set_option linter.unusedSimpArgs false
namespace Go.Proofs.YthehnffmbdlopaaDoor.J

/-- What stands between two places of a text. -/
def sl (all : L) (b e : Int) : L := (all.drop b.toNat).take (e - b).toNat
mutual
def bare (all : L) : Pl → L
  | ⟨k, b, e, ns, ks⟩ => if k ≠ 5 ∧ k ≠ 6 then sl all b e else (if k = 6 then 123 else 91) :: (bareKs all (decide (k = 6)) true ns ks ++ [if k = 6 then 125 else 93])
def bareKs (all : L) : Bool → Bool → List Sp → List Pl → L
  | _, _, _, [] => []
  | o, first, ns, p :: ks => (if first = true then [] else [44]) ++ ((if o = true then sl all (ns.headD ⟨0, 0⟩).b (ns.headD ⟨0, 0⟩).e ++ [58] else []) ++ (bare all p ++ bareKs all o false ns.tail ks))
end
theorem suf_drop {l all : L} (h : l <:+ all) : all.drop (all.length - l.length) = l := (List.suffix_iff_eq_drop.1 h).symm
theorem sl_suf {all l d r : L} (h : l <:+ all) (e : l = d ++ r) : sl all (pos all.length l) (pos all.length r) = d := by
  have hl := h.length_le
  have e' : l.length = d.length + r.length := by rw [e, List.length_append]
  unfold sl pos
  have e1 : ((all.length : Int) - l.length).toNat = all.length - l.length := by omega
  have e2 : ((all.length : Int) - r.length - ((all.length : Int) - l.length)).toNat = d.length := by omega
  rw [e1, e2, suf_drop h, e, List.take_left]

theorem skip_suf : ∀ l : L, skip l <:+ l
  | [] => List.suffix_refl _
  | c :: t => by
    simp only [skip]
    split
    · exact (skip_suf t).trans (List.suffix_cons _ _)
    · exact List.suffix_refl _
theorem take_suf {c : Int} {l t : L} (h : take c l = some t) : t <:+ l := by rw [take_some h]; exact List.suffix_cons _ _
/-- d stands ahead of r in l, and is printed as it is. -/
def Pre (l d r : L) : Prop := l = d ++ r ∧ ∀ c ∈ d, 32 < c ∧ c ≠ 34
theorem Pre.refl (l : L) : Pre l [] l := ⟨rfl, fun c h => by cases h⟩
theorem Pre.trans {l d m d' r : L} (h : Pre l d m) (h' : Pre m d' r) : Pre l (d ++ d') r :=
  ⟨by rw [h.1, h'.1, List.append_assoc], fun c hc => by rcases List.mem_append.1 hc with hc | hc; exact h.2 c hc; exact h'.2 c hc⟩
theorem Pre.one {c : Int} (t : L) (h : 32 < c) (h' : c ≠ 34) : Pre (c :: t) [c] t := ⟨rfl, fun x hx => by rw [List.mem_singleton.1 hx]; exact ⟨h, h'⟩⟩
theorem take_pre {c : Int} {l t : L} (h : take c l = some t) (h1 : 32 < c) (h2 : c ≠ 34) : Pre l [c] t := by rw [take_some h]; exact Pre.one t h1 h2
theorem digs_pre : ∀ l : L, ∃ d, Pre l d (digs l)
  | [] => ⟨[], Pre.refl _⟩
  | c :: t => by
    simp only [digs]
    split
    · rename_i h
      obtain ⟨d, hd⟩ := digs_pre t
      have : 48 ≤ c ∧ c ≤ 57 := by simpa [dig] using h
      exact ⟨_, (Pre.one t (by omega) (by omega)).trans hd⟩
    · exact ⟨[], Pre.refl _⟩
theorem digits_pre {l r : L} (h : digits l = some r) : ∃ d, Pre l d r := by
  cases l with
  | nil => simp [digits] at h
  | cons c t =>
    simp only [digits] at h
    split at h
    · rename_i hc
      injection h with h; subst h
      obtain ⟨d, hd⟩ := digs_pre t
      have : 48 ≤ c ∧ c ≤ 57 := by simpa [dig] using hc
      exact ⟨_, (Pre.one t (by omega) (by omega)).trans hd⟩
    · cases h
theorem opt_pre {c : Int} (l : L) (h1 : 32 < c) (h2 : c ≠ 34) : ∃ d, Pre l d (opt c l) := by
  unfold opt
  cases h : take c l with
  | none => exact ⟨[], Pre.refl _⟩
  | some t => exact ⟨_, take_pre h h1 h2⟩
theorem expTail_pre {l r : L} (h : expTail l = some r) : ∃ d, Pre l d r := by
  unfold expTail at h
  split at h
  · rename_i u hu
    obtain ⟨d, hd⟩ := digits_pre h
    exact ⟨_, (take_pre hu (by omega) (by omega)).trans hd⟩
  · obtain ⟨d, hd⟩ := digits_pre h
    obtain ⟨d', hd'⟩ := opt_pre (c := 45) l (by omega) (by omega)
    exact ⟨_, hd'.trans hd⟩
theorem expo_pre {l r : L} (h : expo l = some r) : ∃ d, Pre l d r := by
  unfold expo at h
  split at h
  · rename_i t ht
    obtain ⟨d, hd⟩ := expTail_pre h
    exact ⟨_, (take_pre ht (by omega) (by omega)).trans hd⟩
  · split at h
    · rename_i t ht
      obtain ⟨d, hd⟩ := expTail_pre h
      exact ⟨_, (take_pre ht (by omega) (by omega)).trans hd⟩
    · injection h with h; subst h; exact ⟨[], Pre.refl _⟩
theorem frac_pre {l r : L} (h : frac l = some r) : ∃ d, Pre l d r := by
  unfold frac at h
  split at h
  · rename_i t ht
    obtain ⟨u, hu, h⟩ := Option.bind_eq_some_iff.1 h
    obtain ⟨d, hd⟩ := digits_pre hu
    obtain ⟨d', hd'⟩ := expo_pre h
    exact ⟨_, ((take_pre ht (by omega) (by omega)).trans hd).trans hd'⟩
  · exact expo_pre h
theorem whole_pre {l r : L} (h : whole l = some r) : ∃ d, Pre l d r := by
  unfold whole at h
  split at h
  · rename_i t ht; injection h with h; subst h; exact ⟨_, take_pre ht (by omega) (by omega)⟩
  · exact digits_pre h
theorem num_pre {l r : L} (h : num l = some r) : ∃ d, Pre l d r := by
  unfold num at h
  obtain ⟨u, hu, h⟩ := Option.bind_eq_some_iff.1 h
  obtain ⟨d, hd⟩ := opt_pre (c := 45) l (by omega) (by omega)
  obtain ⟨d', hd'⟩ := whole_pre hu
  obtain ⟨d'', hd''⟩ := frac_pre h
  exact ⟨_, (hd.trans hd').trans hd''⟩
end Go.Proofs.YthehnffmbdlopaaDoor.J

set_option linter.unusedVariables false
set_option linter.unusedSimpArgs false
namespace Go.Proofs.YthehnffmbdlopaaDoor.J
theorem pos_ok {N : Nat} {l r : L} (h1 : l.length ≤ N) (h2 : r.length ≤ l.length) : 0 ≤ pos N l ∧ pos N l ≤ pos N r ∧ pos N r ≤ N := by unfold pos; omega
end Go.Proofs.YthehnffmbdlopaaDoor.J

set_option linter.unusedVariables false
set_option linter.unusedSimpArgs false
namespace Go.Proofs.YthehnffmbdlopaaDoor.J
open Go.RowKit Go.Proofs.YthehnffmbdlopaaDoorW.PrintWords Go.Proofs.YthehnffmbdlopaaDoorW.PrintMore Go.Proofs.YthehnffmbdlopaaDoor.Aid

/-- What a string between its marks stands for. -/
def quo (x : ByteArray) : ByteArray := strOfNums (unq (((bytesOf x).drop 1).take (x.size - 2)))
def cut (s : ByteArray) (b e : Int) : ByteArray := s.extract b.toNat e.toNat
def key (s : ByteArray) (n : Sp) : ByteArray := quo (cut s n.b n.e)
theorem cut_bytes (s : ByteArray) (b e : Int) (h0 : 0 ≤ b) (h1 : b ≤ e) : bytesOf (cut s b e) = sl (bytesOf s) b e := by
  unfold cut sl
  rw [bytesOf_extract]
  have : e.toNat - b.toNat = (e - b).toNat := by omega
  rw [this]

/-- Between these offsets a string stands, with its marks. -/
def okQ (s : ByteArray) (b e : Int) : Prop := (0 ≤ b ∧ b + 2 ≤ e ∧ e ≤ s.size) ∧ wellE (((bytesOf (cut s b e)).drop 1).take ((cut s b e).size - 2)) = true
mutual
def okT (s : ByteArray) : Pl → Prop
  | ⟨k, b, e, ns, ks⟩ => ((0 ≤ b ∧ b ≤ e ∧ e ≤ s.size) ∧ ns.length ≤ s.size ∧ ks.length ≤ s.size) ∧ (k = 4 → okQ s b e) ∧ (∀ n ∈ ns, okQ s n.b n.e) ∧ okTs s ks
def okTs (s : ByteArray) : List Pl → Prop
  | [] => True
  | p :: ks => okT s p ∧ okTs s ks
end
theorem okTs_mem {s : ByteArray} : ∀ {ks : List Pl}, okTs s ks → ∀ p ∈ ks, okT s p
  | [], _, p, h => by cases h
  | q :: ks, hk, p, h => by
    rw [okTs] at hk
    rcases List.mem_cons.1 h with rfl | h
    · exact hk.1
    · exact okTs_mem hk.2 p h
theorem okTs_append {s : ByteArray} : ∀ {a b : List Pl}, okTs s a → okTs s b → okTs s (a ++ b)
  | [], b, _, hb => hb
  | p :: a, b, ha, hb => by
    rw [okTs] at ha
    rw [List.cons_append, okTs]
    exact ⟨ha.1, okTs_append ha.2 hb⟩
theorem okTs_one {s : ByteArray} {p : Pl} (h : okT s p) : okTs s [p] := by rw [okTs, okTs]; exact ⟨h, trivial⟩

theorem hexes_pre : ∀ (n : Nat) (l u : L), hexes n l = some u → ∃ d, l = d ++ u ∧ ∀ x, hexes n (d ++ x) = some x
  | 0, l, u, h => by simp only [hexes, Option.some.injEq] at h; subst h; exact ⟨[], rfl, fun x => rfl⟩
  | n + 1, [], u, h => by simp [hexes] at h
  | n + 1, c :: t, u, h => by
    simp only [hexes] at h
    split at h
    · rename_i hc
      obtain ⟨d, rfl, hd⟩ := hexes_pre n t u h
      exact ⟨c :: d, rfl, fun x => by show hexes (n + 1) (c :: (d ++ x)) = _; simp only [hexes]; rw [if_pos hc, hd]⟩
    · cases h
theorem esc_pre {l u : L} (h : esc l = some u) : ∃ d, l = d ++ u ∧ ∀ x, esc (d ++ x) = some x := by
  cases l with
  | nil => simp [esc] at h
  | cons c t =>
    simp only [esc] at h
    split at h
    · rename_i hc
      injection h with h; subst h
      exact ⟨[c], rfl, fun x => by show esc (c :: x) = _; simp only [esc]; rw [if_pos hc]⟩
    · rename_i hc
      split at h
      · rename_i hu
        obtain ⟨d, rfl, hd⟩ := hexes_pre 4 t u h
        exact ⟨c :: d, rfl, fun x => by show esc (c :: (d ++ x)) = _; simp only [esc]; rw [if_neg hc, if_pos hu, hd]⟩
      · cases h
theorem str_well : ∀ (n : Nat) (l r : L), l.length = n → str l = some r → ∃ d, l = d ++ 34 :: r ∧ wellE d = true ∧ ∀ x, str (d ++ 34 :: x) = some x := by
  intro n
  induction n using Nat.strongRecOn with
  | _ n ih =>
    intro l r hn h
    cases l with
    | nil => rw [str_nil] at h; cases h
    | cons c t =>
      rw [str_cons] at h
      split at h
      · rename_i hc
        injection h with h; subst h; subst hc
        exact ⟨[], rfl, wellE_nil, fun x => by show str (34 :: x) = _; rw [str_cons, if_pos rfl]⟩
      rename_i h34
      split at h
      · cases h
      rename_i h32
      split at h
      · rename_i h92
        subst h92
        obtain ⟨u, hu, hg⟩ := Option.bind_eq_some_iff.1 h
        have h1 := esc_lt hu
        obtain ⟨d, e1, hd⟩ := esc_pre hu
        obtain ⟨d2, e2, w2, s2⟩ := ih u.length (by simp only [List.length_cons] at hn; omega) u r rfl hg
        rw [e1, e2]
        refine ⟨92 :: (d ++ d2), by simp, wellE_yes (hd d2) ▸ w2, fun x => ?_⟩
        show str (92 :: ((d ++ d2) ++ 34 :: x)) = _
        rw [str_cons, if_neg h34, if_neg h32, if_pos rfl, List.append_assoc, hd, Option.bind_some, s2]
      · rename_i h92
        obtain ⟨d2, rfl, w2, s2⟩ := ih t.length (by simp only [List.length_cons] at hn; omega) t r rfl h
        refine ⟨c :: d2, rfl, by rw [wellE_plain _ h92]; exact w2, fun x => ?_⟩
        show str (c :: (d2 ++ 34 :: x)) = _
        rw [str_cons, if_neg h34, if_neg h32, if_neg h92, s2]
theorem str_cut {l r : L} (h : str l = some r) : ∃ d, l = d ++ 34 :: r ∧ wellE d = true ∧ ∀ x, str (d ++ 34 :: x) = some x := str_well _ l r rfl h
theorem sl_quote {s : ByteArray} {t r d : L} (hs : 34 :: t <:+ bytesOf s) (e : t = d ++ 34 :: r) : bytesOf (cut s (pos s.size (34 :: t)) (pos s.size r)) = 34 :: (d ++ [34]) := by
  have hl := hs.length_le
  rw [bytesOf_length] at hl
  have e2 : (34 :: t : L).length = d.length + r.length + 2 := by rw [e]; simp; omega
  have hb : pos s.size (34 :: t) ≤ pos s.size r := by unfold pos; omega
  rw [cut_bytes _ _ _ (by unfold pos; omega) hb, ← bytesOf_length s]
  exact sl_suf hs (by rw [e]; simp)
theorem strQ {s : ByteArray} {t r : L} (hs : 34 :: t <:+ bytesOf s) (h : str t = some r) : okQ s (pos s.size (34 :: t)) (pos s.size r) := by
  obtain ⟨d, e, hw, _⟩ := str_cut h
  have hq := sl_quote hs e
  have hl := hs.length_le
  rw [bytesOf_length] at hl
  have e2 : (34 :: t : L).length = d.length + r.length + 2 := by rw [e]; simp; omega
  have hz : (cut s (pos s.size (34 :: t)) (pos s.size r)).size = d.length + 2 := by rw [← bytesOf_length, hq]; simp
  refine ⟨⟨by unfold pos; omega, by unfold pos; omega, by unfold pos; omega⟩, ?_⟩
  rw [hq, hz]
  simpa using hw

theorem num_suf {l r : L} (h : num l = some r) : r <:+ l := by
  obtain ⟨d, e, _⟩ := num_pre h
  exact ⟨d, e.symm⟩
theorem str_suf {l r : L} (h : str l = some r) : r <:+ l := by
  obtain ⟨d, e, _⟩ := str_cut h
  exact ⟨d ++ [34], by rw [e]; simp⟩
theorem word_suf {w l r : L} (h : word w l = some r) : r <:+ l := by
  unfold word at h
  split at h
  · injection h with h; subst h; exact List.drop_suffix _ _
  · cases h
def OkV (s : ByteArray) (v : L → Option (Pl × L)) : Prop := ∀ l x, l <:+ bytesOf s → v l = some x → x.2 <:+ l ∧ okT s x.1
theorem elems_okT {s : ByteArray} {v : L → Option (Pl × L)} (hv : OkV s v) : ∀ (m : Nat) (l : L) (acc : List Pl) (x : List Pl × L), l <:+ bytesOf s → okTs s acc → elems v m l acc = some x → x.2 <:+ l ∧ okTs s x.1
  | 0, _, _, _, _, _, h => by simp [elems] at h
  | m + 1, l, acc, x, hl, ha, h => by
    simp only [elems] at h
    obtain ⟨y, hy, h⟩ := Option.bind_eq_some_iff.1 h
    obtain ⟨h1, h2⟩ := hv l y hl hy
    have h3 := okTs_append ha (okTs_one h2)
    split at h
    · rename_i t ht
      injection h with h; subst h
      exact ⟨(take_suf ht).trans ((skip_suf _).trans h1), h3⟩
    · obtain ⟨t, ht, h⟩ := Option.bind_eq_some_iff.1 h
      have h4 : skip t <:+ l := (skip_suf t).trans ((take_suf ht).trans ((skip_suf _).trans h1))
      obtain ⟨h5, h6⟩ := elems_okT hv m _ _ _ (h4.trans hl) h3 h
      exact ⟨h5.trans h4, h6⟩
theorem mems_okT {s : ByteArray} {v : L → Option (Pl × L)} (hv : OkV s v) : ∀ (m : Nat) (l : L) (ns : List Sp) (ks : List Pl) (x : (List Sp × List Pl) × L), l <:+ bytesOf s → okTs s ks → (∀ n ∈ ns, okQ s n.b n.e) → mems s.size v m l ns ks = some x →
    x.2 <:+ l ∧ okTs s x.1.2 ∧ ∀ n ∈ x.1.1, okQ s n.b n.e
  | 0, _, _, _, _, _, _, _, h => by simp [mems] at h
  | m + 1, l, ns, ks, x, hl, hk, hn, h => by
    simp only [mems] at h
    obtain ⟨t, ht, h⟩ := Option.bind_eq_some_iff.1 h
    obtain ⟨l1, h1, h⟩ := Option.bind_eq_some_iff.1 h
    obtain ⟨l2, h2, h⟩ := Option.bind_eq_some_iff.1 h
    obtain ⟨y, hy, h⟩ := Option.bind_eq_some_iff.1 h
    have e0 := take_some ht
    have q1 : l1 <:+ l := (str_suf h1).trans (take_suf ht)
    have q2 : l2 <:+ l := (take_suf h2).trans ((skip_suf _).trans q1)
    have q3 : skip l2 <:+ l := (skip_suf _).trans q2
    obtain ⟨q4, q5⟩ := hv _ y (q3.trans hl) hy
    have hk' := okTs_append hk (okTs_one q5)
    have hq : okQ s (pos s.size l) (pos s.size l1) := by rw [e0] at hl ⊢; exact strQ hl h1
    have hn' : ∀ n : Sp, n ∈ ns ++ [(⟨pos s.size l, pos s.size l1⟩ : Sp)] → okQ s n.b n.e := by
      intro n hm
      rcases List.mem_append.1 hm with hm | hm
      · exact hn n hm
      · rw [List.mem_singleton.1 hm]; exact hq
    split at h
    · rename_i t2 ht2
      injection h with h; subst h
      exact ⟨(take_suf ht2).trans ((skip_suf _).trans (q4.trans q3)), hk', hn'⟩
    · obtain ⟨u, hu, h⟩ := Option.bind_eq_some_iff.1 h
      have q6 : skip u <:+ l := (skip_suf _).trans ((take_suf hu).trans ((skip_suf _).trans (q4.trans q3)))
      obtain ⟨a1, a2, a3⟩ := mems_okT hv m _ _ _ _ (q6.trans hl) hk' hn' h
      exact ⟨a1.trans q6, a2, a3⟩
theorem elems_len {v : L → Option (Pl × L)} (hs : Short v) : ∀ (m : Nat) (l : L) (acc : List Pl) (x : List Pl × L), elems v m l acc = some x → x.1.length + x.2.length ≤ acc.length + l.length
  | 0, _, _, _, h => by simp [elems] at h
  | m + 1, l, acc, x, h => by
    simp only [elems] at h
    obtain ⟨y, hy, h⟩ := Option.bind_eq_some_iff.1 h
    have h1 := hs l y hy
    have h2 := skip_le y.2
    split at h
    · rename_i t ht
      injection h with h; subst h
      have := take_lt ht
      simp only [List.length_append, List.length_singleton]; omega
    · obtain ⟨t, ht, h⟩ := Option.bind_eq_some_iff.1 h
      have h3 := take_lt ht
      have h4 := skip_le t
      have h5 := elems_len hs m _ _ _ h
      simp only [List.length_append, List.length_singleton] at h5; omega
theorem mems_len {N : Nat} {v : L → Option (Pl × L)} (hs : Short v) : ∀ (m : Nat) (l : L) (ns : List Sp) (ks : List Pl) (x : (List Sp × List Pl) × L), mems N v m l ns ks = some x → x.1.1.length + x.2.length ≤ ns.length + l.length ∧ x.1.2.length + x.2.length ≤ ks.length + l.length
  | 0, _, _, _, _, h => by simp [mems] at h
  | m + 1, l, ns, ks, x, h => by
    simp only [mems] at h
    obtain ⟨t, ht, h⟩ := Option.bind_eq_some_iff.1 h
    obtain ⟨l1, h1, h⟩ := Option.bind_eq_some_iff.1 h
    obtain ⟨l2, h2, h⟩ := Option.bind_eq_some_iff.1 h
    obtain ⟨y, hy, h⟩ := Option.bind_eq_some_iff.1 h
    have q1 := take_lt ht; have q2 := str_lt' h1; have q3 := skip_le l1; have q4 := take_lt h2; have q5 := skip_le l2; have q6 := hs _ y hy; have q7 := skip_le y.2
    split at h
    · rename_i t2 ht2
      injection h with h; subst h
      have := take_lt ht2
      simp only [List.length_append, List.length_singleton]; omega
    · obtain ⟨u, hu, h⟩ := Option.bind_eq_some_iff.1 h
      have q8 := take_lt hu
      have q9 := skip_le u
      obtain ⟨a1, a2⟩ := mems_len hs m _ _ _ _ h
      simp only [List.length_append, List.length_singleton] at a1 a2; omega
theorem val_okT (s : ByteArray) : ∀ n, OkV s (val s.size n)
  | 0 => fun l x _ h => by simp [val] at h
  | n + 1 => fun l x hl h => by
    cases l with
    | nil => simp [val] at h
    | cons c t =>
      have htl : t <:+ c :: t := List.suffix_cons _ _
      have hlen := hl.length_le
      rw [bytesOf_length] at hlen
      have bnd : ∀ r : L, r <:+ c :: t → 0 ≤ pos s.size (c :: t) ∧ pos s.size (c :: t) ≤ pos s.size r ∧ pos s.size r ≤ s.size := fun r hr => pos_ok hlen hr.length_le
      have leaf : ∀ (k : Int) (r : L), k ≠ 4 → r <:+ c :: t → okT s ⟨k, pos s.size (c :: t), pos s.size r, [], []⟩ := by
        intro k r hk hr
        rw [okT, okTs]
        exact ⟨⟨bnd r hr, Nat.zero_le _, Nat.zero_le _⟩, fun e => absurd e hk, (fun n hn => by cases hn), trivial⟩
      simp only [val] at h
      split at h
      · obtain ⟨y, hy, rfl⟩ := Option.map_eq_some_iff.1 h
        show y.2 <:+ c :: t ∧ okT s ⟨6, pos s.size (c :: t), pos s.size y.2, y.1.1, y.1.2⟩
        rw [okT]
        unfold obj at hy
        split at hy
        · rename_i t' ht'
          injection hy with hy; subst hy
          have hr : t' <:+ c :: t := (take_suf ht').trans ((skip_suf _).trans htl)
          rw [okTs]
          exact ⟨hr, ⟨bnd _ hr, Nat.zero_le _, Nat.zero_le _⟩, fun e => (by cases e), (fun n hn => by cases hn), trivial⟩
        · obtain ⟨h1, h2, h3⟩ := mems_okT (val_okT s n) _ _ _ _ _ ((skip_suf _).trans (htl.trans hl)) (by rw [okTs]; trivial) (fun n hn => by cases hn) hy
          have hr : y.2 <:+ c :: t := h1.trans ((skip_suf _).trans htl)
          have hz := mems_len (val_short s.size n) _ _ _ _ _ hy
          have hsk := skip_le t
          simp only [List.length_nil, List.length_cons] at hz hlen
          exact ⟨hr, ⟨bnd _ hr, by omega, by omega⟩, fun e => (by cases e), h3, h2⟩
      split at h
      · obtain ⟨y, hy, rfl⟩ := Option.map_eq_some_iff.1 h
        show y.2 <:+ c :: t ∧ okT s ⟨5, pos s.size (c :: t), pos s.size y.2, [], y.1⟩
        rw [okT]
        unfold arr at hy
        split at hy
        · rename_i t' ht'
          injection hy with hy; subst hy
          have hr : t' <:+ c :: t := (take_suf ht').trans ((skip_suf _).trans htl)
          rw [okTs]
          exact ⟨hr, ⟨bnd _ hr, Nat.zero_le _, Nat.zero_le _⟩, fun e => (by cases e), (fun n hn => by cases hn), trivial⟩
        · obtain ⟨h1, h2⟩ := elems_okT (val_okT s n) _ _ _ _ ((skip_suf _).trans (htl.trans hl)) (by rw [okTs]; trivial) hy
          have hr : y.2 <:+ c :: t := h1.trans ((skip_suf _).trans htl)
          have hz := elems_len (val_short s.size n) _ _ _ _ hy
          have hsk := skip_le t
          simp only [List.length_nil, List.length_cons] at hz hlen
          exact ⟨hr, ⟨bnd _ hr, Nat.zero_le _, by omega⟩, fun e => (by cases e), (fun n hn => by cases hn), h2⟩
      split at h
      · rename_i hc
        obtain ⟨r, hr, rfl⟩ := Option.map_eq_some_iff.1 h
        have hs : r <:+ c :: t := (str_suf hr).trans htl
        refine ⟨hs, ?_⟩
        show okT s ⟨4, pos s.size (c :: t), pos s.size r, [], []⟩
        rw [okT, okTs]
        exact ⟨⟨bnd r hs, Nat.zero_le _, Nat.zero_le _⟩, fun _ => by subst hc; exact strQ hl hr, (fun n hn => by cases hn), trivial⟩
      split at h
      · obtain ⟨r, hr, rfl⟩ := Option.map_eq_some_iff.1 h
        have hs := num_suf hr
        exact ⟨hs, leaf 3 r (by decide) hs⟩
      split at h
      · rename_i r hr; injection h with h; subst h; exact ⟨word_suf hr, leaf 0 r (by decide) (word_suf hr)⟩
      split at h
      · rename_i r hr; injection h with h; subst h; exact ⟨word_suf hr, leaf 1 r (by decide) (word_suf hr)⟩
      split at h
      · rename_i r hr; injection h with h; subst h; exact ⟨word_suf hr, leaf 2 r (by decide) (word_suf hr)⟩
      · cases h
theorem text_okT {s : ByteArray} {p : Pl} (h : text (bytesOf s) = some p) : okT s p := by
  unfold text at h
  rw [bytesOf_length] at h
  obtain ⟨x, hx, h⟩ := Option.bind_eq_some_iff.1 h
  split at h
  · injection h with h; subst h; exact (val_okT s _ _ x (skip_suf _) hx).2
  · cases h
end Go.Proofs.YthehnffmbdlopaaDoor.J
