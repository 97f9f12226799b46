/- A row of bytes that a call writes; the walk of the reference's appendUTF8. -/
import Derived.Test.YtkmdcckiehbcmaaDoorQ1
set_option linter.unusedVariables false
set_option linter.unusedSimpArgs false
namespace Go.Proofs.YtkmdcckiehbcmaaDoor.J
open Go.RowKit Go.Proofs.YtkmdcckiehbcmaaDoorW.PrintWords Go.Proofs.YtkmdcckiehbcmaaDoorW.PrintLast Go.Proofs.YtkmdcckiehbcmaaDoorW.PrintMore Go.Proofs.YtkmdcckiehbcmaaDoor.Aid

theorem infoY : (Tryd.prog.info? 5).map (fun i => (i.zero, i.size, i.bytes)) = some (some (.int .u8 0), 1, 1) := by kernel_rfl
/-- A row of bytes of the call's own: v reads as xs. -/
def Outp (w0 W : World) (v : Value) (xs : L) : Prop := W.ownsRow w0.heap.size 5 1 v xs.length (nums .u8 xs) ∧ Below w0.heap.size w0 W
theorem Outp.nil {w0 W : World} (h : Below w0.heap.size w0 W) : Outp w0 W (.slice none 0 0) [] := ⟨Kd.own_of_R (enc := Value.int .u8) (h1 := fun _ => rfl) (Kd.R_nil (Kd.int .u8) 5 W w0.heap.size (fun _ => True)), h⟩
theorem Outp.below {w0 W W' : World} {v : Value} {xs : L} (h : Outp w0 W v xs) (k : Below W.heap.size W W') : Outp w0 W' v xs := ⟨pw_own_below h.1 k, below_then h.2 h.2.size k⟩
theorem Outp.alloc {w0 W : World} {v : Value} {xs : L} (h : Outp w0 W v xs) (o : Obj) : Outp w0 (W.alloc o) v xs := h.below (below_alloc (Below.refl _ _) o)
theorem Outp.drewN {w0 W : World} {v : Value} {xs : L} (h : Outp w0 W v xs) (n : Nat) : Outp w0 (W.drewN n) v xs := h.below (pw_below_drewN (Below.refl _ _) n)
theorem Outp.drew {w0 W : World} {v : Value} {xs : L} (h : Outp w0 W v xs) : Outp w0 W.drew v xs := by
  have := h.drewN 1
  rwa [← World.drew_drewN, World.drewN_zero] at this
section
variable {ops : Array Oper} {rest : List Oper} {o : Oper} {a : Act} {Q : Exit → Act → World → Prop}
/-- append(s, y) -/
theorem out_num {w0 W : World} (hgd : o.guard = none) (s x : Operand) (ho : o.op = .call { callee := .builtin .append, args := #[s, x], argTypes := #[36, 36] }) (v : Value) (y : Int) (xs : L)
    (hs : a.eval s = v) (hx : a.eval x = .slice (some ⟨W.heap.size, 0, none⟩) 1 1) (H : Outp w0 W v xs) (hl : xs.length ≤ 4294967296)
    (h : ∀ v1 w1, Outp w0 w1 v1 (xs ++ [y]) → W.grownBy w1 v.ownBlock → wpList Tryd.prog ops Q rest (a.put o.dst v1) w1) : wpList Tryd.prog ops Q (o :: rest) a (W.alloc (.cells #[.int .u8 y] 5)) := by
  refine print_append_num (w0 := w0) w0.heap.size hgd s x 36 5 .u8 1 ho Tryd.underlying36 infoY (by decide) v xs y hs hx H.1 H.2 H.2.size (by omega) ?_
  intro v1 w1 hown hb1 hg1 hat1
  exact h v1 w1 ⟨hown, hb1⟩ hg1
/-- append(s, ys...), ys read -/
theorem out_row {w0 W : World} (hgd : o.guard = none) (s x : Operand) (ho : o.op = .call { callee := .builtin .append, args := #[s, x], argTypes := #[36, 36] }) (v : Value) (ys xs : L) (A : Option Addr) (m c : Nat)
    (hs : a.eval s = v) (hx : a.eval x = .slice A m c) (H : Outp w0 W v xs) (HR : ReadsInt W .u8 A m ys) (hl : xs.length + m ≤ 4294967296)
    (h : ∀ v1 w1, Outp w0 w1 v1 (xs ++ ys) → W.grownBy w1 v.ownBlock → wpList Tryd.prog ops Q rest (a.put o.dst v1) w1) : wpList Tryd.prog ops Q (o :: rest) a W := by
  refine print_append_row (w0 := w0) w0.heap.size hgd s x 36 5 .u8 1 ho Tryd.underlying36 infoY (by decide) v xs ys A m c hs hx H.1 HR H.2 H.2.size (by omega) ?_
  intro v1 w1 hown hb1 hg1 hat1
  exact h v1 w1 ⟨hown, hb1⟩ hg1
/-- append(s, "..."...) -/
theorem out_str {w0 W : World} (hgd : o.guard = none) (s x : Operand) (ho : o.op = .call { callee := .builtin .append, args := #[s, x], argTypes := #[36, 9] }) (v : Value) (y : ByteArray) (xs : L)
    (hs : a.eval s = v) (hx : a.eval x = .string y) (H : Outp w0 W v xs) (hl : xs.length + y.size ≤ 4294967296)
    (h : ∀ v1 w1, Outp w0 w1 v1 (xs ++ bytesOf y) → W.grownBy w1 v.ownBlock → wpList Tryd.prog ops Q rest (a.put o.dst v1) w1) : wpList Tryd.prog ops Q (o :: rest) a W := by
  refine print_append_str (w0 := w0) w0.heap.size hgd s x 36 9 5 ho Tryd.underlying36 Tryd.underlying9 infoY v xs y hs hx H.1 H.2 H.2.size (by omega) ?_
  intro v1 w1 hown hb1 hg1
  exact h v1 w1 ⟨hown, hb1⟩ hg1
end
/-- A literal row, just laid. -/
theorem lit_reads (W : World) (ys : L) (hl : ys.length ≤ 100) : ReadsInt (W.alloc (.cells (nums .u8 ys).toArray 5)) .u8 (some ⟨W.heap.size, 0, none⟩) ys.length ys := by
  refine ⟨rfl, by omega, fun _ => ⟨_, rfl, fun j hj => ?_⟩⟩
  rw [add_plain]
  have h := heap_alloc_new W (.cells (nums .u8 ys).toArray 5)
  have := cell_of_row (W.alloc (.cells (nums .u8 ys).toArray 5)) W.heap.size j (nums .u8 ys).toArray 5 (0, 0) h
  rw [this]
  simp [nums, List.getD_eq_getElem?_getD, List.getElem?_eq_getElem hj]
def OPost (w0 : World) (xs : L) (e : Ending) (w' : World) : Prop := ∃ v, e = .returned v ∧ Outp w0 w' v xs
theorem utf8_byt {c : Int} (h0 : 0 ≤ c) (h1 : c ≤ 1114111) : ∀ x ∈ utf8 c, 0 ≤ x ∧ x ≤ 255 := by
  intro x hx
  unfold utf8 at hx
  split at hx
  · simp at hx; omega
  split at hx
  · simp at hx; omega
  split at hx
  · simp at hx; omega
  split at hx
  · simp at hx; omega
  · simp at hx; omega

set_option maxHeartbeats 4000000 in
set_option maxRecDepth 100000 in
theorem appendUTF8_any (w0 w : World) (v : Value) (xs : L) (c : Int) (h0 : 0 ≤ c) (h1 : c ≤ 1114111) (hl : xs.length ≤ 4294960000) (H : Outp w0 w v xs) :
    Calls Tryd.prog 34 #[v, .int .i64 c] w (OPost w0 (xs ++ utf8 c)) := by
  have HO := Lib.hid H
  clear H
  by_cases c1 : c < 128
  · have e : utf8 c = [c] := by unfold utf8; rw [if_pos c1]
    rw [e]
    clear e
    go_enter Tryd.func34, Tryd.ntmps34
    go_wp2_with (at_builtin; refine out_num rfl (.tmp 8) (.tmp 11) rfl v c xs rfl (by simp [go_sem]) HO.out (by omega) ?_; intro v1 w1 ho _; replace ho := Lib.hid ho)
    go_ret
    exact ⟨v1, rfl, ho.out⟩
  by_cases c2 : c < 2048
  · have e : utf8 c = [192 + c / 64, 128 + c % 64] := by unfold utf8; rw [if_neg c1, if_pos c2]
    rw [e]
    clear e
    go_enter Tryd.func34, Tryd.ntmps34
    go_wp2_with (at_builtin; refine out_row rfl (.tmp 16) (.tmp 25) rfl v [192 + c / 64, 128 + c % 64] xs (some ⟨w.heap.size, 0, none⟩) 2 2 rfl (by simp [go_sem]) (HO.out.alloc _) (lit_reads w [192 + c / 64, 128 + c % 64] (by simp)) (by omega) ?_; intro v1 w1 ho _; replace ho := Lib.hid ho)
    go_ret
    exact ⟨v1, rfl, ho.out⟩
  have kh : Hid (∀ W, Calls Tryd.prog 32 #[.int .i64 c] W fun e w' => e = .returned (.bool (high c)) ∧ W = w') := Lib.hid (high_any c)
  have kl : Hid (∀ W, Calls Tryd.prog 33 #[.int .i64 c] W fun e w' => e = .returned (.bool (low c)) ∧ W = w') := Lib.hid (low_any c)
  by_cases c3 : high c = true
  · rw [utf8_sur (.inl c3)]
    rw [c3] at kh
    clear c3 kl
    go_enter Tryd.func34, Tryd.ntmps34
    go_wp2_with (first | (go_at_call 32; refine (kh.out _).mono ?_; rintro e w' ⟨rfl, rfl⟩) | (at_builtin; refine out_row rfl (.tmp 34) (.tmp 35) rfl v [239, 191, 189] xs (some ⟨w.heap.size, 0, none⟩) 3 3 rfl (by simp [go_sem]) (HO.out.alloc _) (lit_reads w [239, 191, 189] (by simp)) (by omega) ?_; intro v1 w1 ho _; replace ho := Lib.hid ho))
    go_ret
    exact ⟨v1, rfl, ho.out⟩
  have c3' : high c = false := by simpa using c3
  rw [c3'] at kh
  by_cases c4 : low c = true
  · rw [utf8_sur (.inr c4)]
    rw [c4] at kl
    clear c4 c3 c3'
    go_enter Tryd.func34, Tryd.ntmps34
    go_wp2_with (first | (go_at_call 32; refine (kh.out _).mono ?_; rintro e w' ⟨rfl, rfl⟩) | (go_at_call 33; refine (kl.out _).mono ?_; rintro e w' ⟨rfl, rfl⟩) | (at_builtin; refine out_row rfl (.tmp 34) (.tmp 35) rfl v [239, 191, 189] xs (some ⟨w.heap.size, 0, none⟩) 3 3 rfl (by simp [go_sem]) (HO.out.alloc _) (lit_reads w [239, 191, 189] (by simp)) (by omega) ?_; intro v1 w1 ho _; replace ho := Lib.hid ho))
    go_ret
    exact ⟨v1, rfl, ho.out⟩
  have c4' : low c = false := by simpa using c4
  rw [c4'] at kl
  by_cases c5 : c < 65536
  · have e : utf8 c = [224 + c / 4096, 128 + c / 64 % 64, 128 + c % 64] := by unfold utf8; rw [if_neg c1, if_neg c2, if_neg (by rintro (h | h); exact c3 h; exact c4 h), if_pos c5]
    rw [e]
    clear e c3 c4 c3' c4'
    go_enter Tryd.func34, Tryd.ntmps34
    go_wp2_with (first | (go_at_call 32; refine (kh.out _).mono ?_; rintro e w' ⟨rfl, rfl⟩) | (go_at_call 33; refine (kl.out _).mono ?_; rintro e w' ⟨rfl, rfl⟩) | (at_builtin; refine out_row rfl (.tmp 40) (.tmp 54) rfl v [224 + c / 4096, 128 + c / 64 % 64, 128 + c % 64] xs (some ⟨w.heap.size, 0, none⟩) 3 3 rfl (by simp [go_sem]) (HO.out.alloc _) (lit_reads w [224 + c / 4096, 128 + c / 64 % 64, 128 + c % 64] (by simp)) (by omega) ?_; intro v1 w1 ho _; replace ho := Lib.hid ho))
    go_ret
    exact ⟨v1, rfl, ho.out⟩
  · have e : utf8 c = [240 + c / 262144, 128 + c / 4096 % 64, 128 + c / 64 % 64, 128 + c % 64] := by unfold utf8; rw [if_neg c1, if_neg c2, if_neg (by rintro (h | h); exact c3 h; exact c4 h), if_neg c5]
    rw [e]
    clear e c3 c4 c3' c4'
    go_enter Tryd.func34, Tryd.ntmps34
    go_wp2_with (first | (go_at_call 32; refine (kh.out _).mono ?_; rintro e w' ⟨rfl, rfl⟩) | (go_at_call 33; refine (kl.out _).mono ?_; rintro e w' ⟨rfl, rfl⟩) | (at_builtin; refine out_row rfl (.tmp 56) (.tmp 75) rfl v [240 + c / 262144, 128 + c / 4096 % 64, 128 + c / 64 % 64, 128 + c % 64] xs (some ⟨w.heap.size, 0, none⟩) 4 4 rfl (by simp [go_sem]) (HO.out.alloc _) (lit_reads w [240 + c / 262144, 128 + c / 4096 % 64, 128 + c / 64 % 64, 128 + c % 64] (by simp)) (by omega) ?_; intro v1 w1 ho _; replace ho := Lib.hid ho))
    go_ret
    exact ⟨v1, rfl, ho.out⟩
end Go.Proofs.YtkmdcckiehbcmaaDoor.J
