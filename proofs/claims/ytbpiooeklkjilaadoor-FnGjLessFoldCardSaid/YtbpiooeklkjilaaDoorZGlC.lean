/- The walk of gjson's tostr on what the reference writes. -/
import Derived.Test.YtbpiooeklkjilaaDoorZGlB
import Derived.Test.YtbpiooeklkjilaaDoorZGlTr
import Derived.Deep.Quiet
set_option linter.unusedVariables false
set_option linter.unusedSimpArgs false
namespace Go.Proofs.YtbpiooeklkjilaaDoor.Gl
open Go.RowKit Go.Proofs.YtbpiooeklkjilaaDoorW.PrintWords Go.Proofs.YtbpiooeklkjilaaDoorW.PrintLast Go.Proofs.YtbpiooeklkjilaaDoorW.PrintMore Go.Proofs.YtbpiooeklkjilaaDoor.Aid Go.Proofs.YtbpiooeklkjilaaDoor.J

section
variable {P : Program} {ops : Array Oper} {C : World → Prop} {a : Act} {o : Oper} {K : Act → Prop}
theorem quiet_val (v : Value) (h : ∀ W, C W → (execOp a.eval o).run P W = .ok (.value v) W) (hk : K (a.put o.dst v)) : o.quiet P a C K :=
  ⟨v, fun W hW => by unfold Oper.quietAt; rw [h W hW]; exact ⟨rfl, rfl⟩, hk⟩
theorem quiet_call (f : FuncId) (args : Array Value) (v : Value) (he : ∀ W, C W → (execOp a.eval o).run P W = .ok (.enter f args) W) (h : ∀ W, C W → Calls P f args W fun e w'' => e = .returned v ∧ C w'') (hk : K (a.put o.dst v)) : o.quiet P a C K :=
  ⟨v, fun W hW => by unfold Oper.quietAt; rw [he W hW]; exact ⟨rfl, h W hW⟩, hk⟩
end
theorem qs_id : ∀ {x : L}, (∀ c ∈ qs x, c ≠ 92) → qs x = x
  | [], _ => rfl
  | c :: t, h => by
    rw [qs_cons] at h ⊢
    have ht := qs_id (x := t) (fun y hy => h y (List.mem_append_right _ hy))
    rcases qz_ways c with ⟨y, e, _⟩ | ⟨_, e⟩ | ⟨_, _, _, e⟩
    · exact absurd rfl (h 92 (by rw [e]; simp))
    · exact absurd rfl (h 92 (by rw [e]; simp))
    · rw [e, ht]; rfl
/-- The bytes of a quoted text. -/
structure Qd (s : ByteArray) (x : L) (z : Nat) : Prop where
  byt : ∀ c ∈ x, 0 ≤ c ∧ c < 256
  txt : bytesOf s = 34 :: (qs x ++ [34])
  len : z = (qs x).length
  size : s.size = z + 2
theorem Qd.at {s : ByteArray} {x : L} {z : Nat} (h : Qd s x z) {k : Nat} (hk : k < z) : bt s ((k : Int) + 1) = (qs x).getD k 0 := by
  have h0 := h.size
  have h1 := bytesOf_get? s (k + 1) (by omega)
  rw [h.txt, List.getElem?_cons_succ, List.getElem?_append_left (by rw [← h.len]; exact hk)] at h1
  rw [List.getD_eq_getElem?_getD, h1]
  rfl
theorem Qd.last {s : ByteArray} {x : L} {z : Nat} (h : Qd s x z) : bt s ((z : Int) + 1) = 34 := by
  have h0 := h.size
  have h1 := bytesOf_get? s (z + 1) (by omega)
  rw [h.txt, List.getElem?_cons_succ, List.getElem?_append_right (by rw [h.len]; exact Nat.le_refl _), h.len, Nat.sub_self] at h1
  rw [h.len]
  exact (Option.some.inj h1).symm
theorem Qd.inner {s : ByteArray} {x : L} {z : Nat} (h : Qd s x z) : bytesOf (s.extract 1 (z + 1)) = qs x := by
  rw [bytesOf_extract, h.txt]
  show List.take (z + 1 - 1) (qs x ++ [34]) = _
  rw [show z + 1 - 1 = (qs x).length by rw [h.len]; omega, List.take_left']
  rfl
/-- A mark inside stands behind an odd number of backslashes. -/
theorem Qd.odd {s : ByteArray} {x : L} {z : Nat} (h : Qd s x z) {k : Nat} (hk : k < z) (hc : bt s ((k : Int) + 1) = 34) : 1 ≤ k ∧ bt s (k : Int) = 92 ∧ tr ((qs x).take (k - 1)) % 2 = 0 := by
  rw [h.at hk] at hc
  have ht := tr_in h.byt k (by rw [← h.len]; exact hk) hc
  obtain ⟨j, rfl⟩ : ∃ j, k = j + 1 := by
    cases k with
    | zero => rw [List.take_zero, tr_nil] at ht; cases ht
    | succ j => exact ⟨j, rfl⟩
  have hj : j < (qs x).length := by rw [← h.len]; omega
  have h92 : (qs x).getD j 0 = 92 := by
    by_cases e : (qs x).getD j 0 = 92
    · exact e
    · rw [tr_take_no _ _ hj e] at ht; cases ht
  rw [tr_take_bs _ _ hj h92] at ht
  refine ⟨by omega, ?_, by rw [Nat.add_sub_cancel]; omega⟩
  have := h.at (k := j) (by omega)
  rw [h92] at this
  exact this
theorem Qd.even {s : ByteArray} {x : L} {z : Nat} (h : Qd s x z) (h1 : 1 ≤ z) (hc : bt s (z : Int) = 92) : tr ((qs x).take (z - 1)) % 2 = 1 := by
  have ht := @tr_end x
  obtain ⟨j, rfl⟩ : ∃ j, z = j + 1 := ⟨z - 1, by omega⟩
  have hj : j < (qs x).length := by rw [← h.len]; omega
  have h92 : (qs x).getD j 0 = 92 := by rw [← h.at (k := j) (by omega)]; exact hc
  have := tr_take_bs _ _ hj h92
  rw [h.len, List.take_length] at this
  rw [Nat.add_sub_cancel]; omega
set_option maxHeartbeats 8000000 in
set_option maxRecDepth 100000 in
theorem tostr_any (s : ByteArray) (x : L) (z : Nat) (hq : Qd s x z) (hl : s.size ≤ 100000) (w : World) :
    Calls Tryd.prog 17 #[.string s] w fun e w' => (∃ raw, e = .returned (.tuple #[.string raw, .string (strOfNums x)])) ∧ Below w.heap.size w w' := by
  have HQ := Lib.hid hq
  have hz1 : s.size ≤ z + 2 := by have := hq.size; omega
  have hz2 : z + 2 ≤ s.size := by have := hq.size; omega
  have kA : ∀ i : Nat, i + 1 ≤ s.size → ∀ W : World, (Instr.slice 9 (.string s) none (some (.int .i64 ((i : Int) + 1))) none).run Tryd.prog W = .ok (.string (s.extract 0 (i + 1))) W := fun i hi W => sl_to s (i + 1) hi W
  have kB : ∀ i : Nat, 1 ≤ i → i ≤ s.size → ∀ W : World, (Instr.slice 9 (.string s) (some (.int .i64 1)) (some (.int .i64 (i : Int))) none).run Tryd.prog W = .ok (.string (s.extract 1 i)) W := fun i h1 hi W => sl_mid s 1 i h1 hi W
  have kI : ∀ i : Nat, i < s.size → ∀ W : World, (Instr.index 9 (.string s) (.int .i64 (i : Int))).run Tryd.prog W = .ok (.int .u8 (bt s (i : Int))) W := fun i hi W => ix s i (by omega) (by omega) W
  replace kA := Lib.hid kA
  replace kB := Lib.hid kB
  replace kI := Lib.hid kI
  clear hq
  go_enter Tryd.func17, Tryd.ntmps17
  go_wp2
  go_loopg [4] s.size (fun kq v4 w' => Hid (∃ k : Nat, v4 = .int .i64 ((k : Int) + 1) ∧ k + kq = s.size ∧ k ≤ z ∧ (∀ j, j < k → (qs x).getD j 0 ≠ 92) ∧ w' = w))
  case atStart => exact Lib.hid ⟨0, by go_num, by omega, by omega, fun j hj => by omega, rfl⟩
  case round =>
    obtain ⟨k, rfl, hk, hkz, hp, rfl⟩ := hrel.out
    have HP := Lib.hid hp
    clear hrel hp
    obtain ⟨c, hc⟩ : ∃ c, c = bt s ((k : Int) + 1) := ⟨_, rfl⟩
    have k0 : ∀ W : World, (Instr.index 9 (.string s) (.int .i64 ((k : Int) + 1))).run Tryd.prog W = .ok (.int .u8 c) W := by
      rw [hc]; exact kI.out (k + 1) (by omega)
    have d0 : decide ((k : Int) + 1 < (s.size : Int)) = true := decide_eq_true (by omega)
    have HC := Lib.hid hc
    clear hc
    by_cases c0 : c > 92
    · have hlt : k < z := by
        rcases Nat.lt_or_ge k z with h | h
        · exact h
        · exfalso
          have := HC.out
          rw [show k = z by omega, HQ.out.last] at this
          omega
      have hno : (qs x).getD k 0 ≠ 92 := by rw [← HQ.out.at hlt, ← HC.out]; omega
      replace hno := Lib.hid hno
      go_wp2
      go_roundg (gk - 1)
      case rel => exact Lib.hid ⟨k + 1, by go_num, by omega, by omega, fun j hj => by
        rcases Nat.lt_or_ge j k with h | h
        · exact HP.out j h
        · rw [show j = k by omega]; exact hno.out, rfl⟩
      case measure => omega
    by_cases c1 : c = 34
    · have hkz' : k = z := by
        rcases Nat.lt_or_ge k z with h | h
        · exfalso
          obtain ⟨h1, h2, _⟩ := HQ.out.odd h (HC.out.symm.trans c1)
          obtain ⟨j, rfl⟩ : ∃ j, k = j + 1 := ⟨k - 1, by omega⟩
          have h3 := HQ.out.at (k := j) (by omega)
          exact HP.out j (by omega) (h3.symm.trans h2)
        · omega
      have hid : qs x = x := qs_id (fun c hc e => by
        subst e
        obtain ⟨j, hj, he⟩ := List.getElem_of_mem hc
        refine HP.out j (by rw [hkz', HQ.out.len]; exact hj) ?_
        rw [List.getD_eq_getElem?_getD, List.getElem?_eq_getElem hj, he]; rfl)
      have k1 := kA.out (k + 1) (by omega)
      have k2 := kB.out (k + 1) (by omega) (by omega)
      rw [show ((k + 1 : Nat) : Int) = (k : Int) + 1 by omega] at k1 k2
      obtain ⟨u, hu⟩ : ∃ u, u = s.extract 1 (k + 1) := ⟨_, rfl⟩
      rw [← hu] at k2
      have hu' : u = strOfNums x := by
        have := HQ.out.inner
        rw [← hkz', ← hu] at this
        rw [← str_of_bytes u, this, hid]
      rw [hu'] at k2
      clear hu hu' hid hkz'
      subst c1
      have a1 : decide ((k : Int) + 1 + 1 ≤ (s.size : Int)) = true := decide_eq_true (by omega)
      go_wp2
      go_quiet (fail)
      go_wp2
      go_ret2
      exact ⟨⟨_, rfl⟩, pw_below_drewN (Below.refl _ _) _⟩
    have b1 : (c == 34) = false := beq_eq_false_iff_ne.mpr c1
    have c0' : ¬ c > 92 := c0
    by_cases c2 : c = 92
    · have hlt : k < z := by
        rcases Nat.lt_or_ge k z with h | h
        · exact h
        · exfalso
          have := HC.out
          rw [show k = z by omega, HQ.out.last] at this
          exact c1 this
      subst c2
      clear b1 c0 c0' c1 HC HP
      go_wp2
      clear d0
      go_loopg [4] (s.size - (k + 1)) (fun kq v4 w' => Hid (∃ k : Nat, v4 = .int .i64 ((k : Int) + 1) ∧ k + kq = s.size ∧ k ≤ z ∧ 1 ≤ k ∧ w' = wr))
      case atStart => exact Lib.hid ⟨k + 1, by go_num, by omega, by omega, by omega, rfl⟩
      case round =>
        clear k0 hk hkz hlt
        obtain ⟨k, rfl, hk, hkz, hk1, rfl⟩ := hrel.out
        clear hrel
        obtain ⟨c, hc⟩ : ∃ c, c = bt s ((k : Int) + 1) := ⟨_, rfl⟩
        have k0 : ∀ W : World, (Instr.index 9 (.string s) (.int .i64 ((k : Int) + 1))).run Tryd.prog W = .ok (.int .u8 c) W := by
          rw [hc]; exact kI.out (k + 1) (by omega)
        have d0 : decide ((k : Int) + 1 < (s.size : Int)) = true := decide_eq_true (by omega)
        have HC := Lib.hid hc
        clear hc
        by_cases c0 : c > 92
        · have hlt : k < z := by
            rcases Nat.lt_or_ge k z with h | h
            · exact h
            · exfalso
              have := HC.out
              rw [show k = z by omega, HQ.out.last] at this
              omega
          go_wp2
          go_roundg (gk - 1)
          case rel => exact Lib.hid ⟨k + 1, by go_num, by omega, by omega, by omega, rfl⟩
          case measure => omega
        by_cases c1 : c = 34
        case neg =>
          have hlt : k < z := by
            rcases Nat.lt_or_ge k z with h | h
            · exact h
            · exfalso
              have := HC.out
              rw [show k = z by omega, HQ.out.last] at this
              exact c1 this
          have b1 : (c == 34) = false := beq_eq_false_iff_ne.mpr c1
          clear c1
          go_wp2
          go_roundg (gk - 1)
          case rel => exact Lib.hid ⟨k + 1, by go_num, by omega, by omega, by omega, rfl⟩
          case measure => omega
        have HC1 := Lib.hid (HC.out.symm.trans c1)
        subst c1
        clear HC c0
        have k1 : ∀ W : World, (Instr.index 9 (.string s) (.int .i64 (k : Int))).run Tryd.prog W = .ok (.int .u8 (bt s (k : Int))) W := kI.out k (by omega)
        have kR := kA.out (k + 1) (by omega)
        have kS := kB.out (k + 1) (by omega) (by omega)
        rw [show ((k + 1 : Nat) : Int) = (k : Int) + 1 by omega] at kR kS
        have a1 : decide ((k : Int) + 1 + 1 ≤ (s.size : Int)) = true := decide_eq_true (by omega)
        have wk : IntKind.i64.wrap ((k : Int) + 1 + 1) = (k : Int) + 1 + 1 := IntWalk.i64_in _ (by omega)
        have HU : Hid (k = z → ∀ W, Calls Tryd.prog 21 #[.string (s.extract 1 (k + 1))] W fun e w' => e = .returned (.string (strOfNums x)) ∧ Below W.heap.size W w') := Lib.hid (fun h W => unescape_any _ x HQ.out.byt (by rw [h]; exact HQ.out.inner) (by rw [ByteArray.size_extract]; omega) W)
        by_cases c3 : bt s (k : Int) = 92
        case neg =>
          have hkz' : k = z := by
            rcases Nat.lt_or_ge k z with h | h
            · exact absurd (HQ.out.odd h HC1.out).2.1 c3
            · omega
          have HV := Lib.hid (HU.out hkz')
          obtain ⟨u, hu⟩ : ∃ u, u = s.extract 1 (k + 1) := ⟨_, rfl⟩
          rw [← hu] at kS HV
          obtain ⟨d, hd⟩ : ∃ d, d = bt s (k : Int) := ⟨_, rfl⟩
          rw [← hd] at k1 c3
          have b3 : (d == 92) = false := beq_eq_false_iff_ne.mpr c3
          clear c3 hd hkz' hu HU HC1
          go_wp2
          refine wp_region_quiet (C := fun W => Below wr.heap.size wr W) (by kernel_rfl) (by kernel_rfl) (below_drew (Below.refl _ _)) ?_
          refine wpQuiet_step (fun K hK => ?_)
          rw [if_pos (by rfl)]
          refine quiet_val (.string s) ?_ (hK _ ?_)
          · intro W hW
            clear hK
            go_simp
          simp only [Act.put, List.setIfInBounds_toArray, List.set_cons_zero, List.set_cons_succ]
          clear hK K
          refine wpQuiet_step (fun K hK => ?_)
          rw [if_pos (by rfl)]
          refine quiet_val (.int .i64 ((k : Int) + 1)) ?_ (hK _ ?_)
          · intro W hW
            clear hK
            go_simp
          simp only [Act.put, List.setIfInBounds_toArray, List.set_cons_zero, List.set_cons_succ]
          clear hK K
          refine wpQuiet_step (fun K hK => ?_)
          rw [if_pos (by rfl)]
          refine quiet_val (.int .i64 ((k : Int) + 1 + 1)) ?_ (hK _ ?_)
          · intro W hW
            clear hK
            go_simp
          simp only [Act.put, List.setIfInBounds_toArray, List.set_cons_zero, List.set_cons_succ]
          clear hK K
          refine wpQuiet_step (fun K hK => ?_)
          rw [if_pos (by rfl)]
          refine quiet_val (.string (s.extract 0 (k + 1 + 1))) ?_ (hK _ ?_)
          · intro W hW
            clear hK
            go_simp
          simp only [Act.put, List.setIfInBounds_toArray, List.set_cons_zero, List.set_cons_succ]
          clear hK K
          refine wpQuiet_step (fun K hK => ?_)
          rw [if_pos (by rfl)]
          refine quiet_val (.string s) ?_ (hK _ ?_)
          · intro W hW
            clear hK
            go_simp
          simp only [Act.put, List.setIfInBounds_toArray, List.set_cons_zero, List.set_cons_succ]
          clear hK K
          refine wpQuiet_step (fun K hK => ?_)
          rw [if_pos (by rfl)]
          refine quiet_val (.int .i64 ((k : Int) + 1)) ?_ (hK _ ?_)
          · intro W hW
            clear hK
            go_simp
          simp only [Act.put, List.setIfInBounds_toArray, List.set_cons_zero, List.set_cons_succ]
          clear hK K
          refine wpQuiet_step (fun K hK => ?_)
          rw [if_pos (by rfl)]
          refine quiet_val (.string u) ?_ (hK _ ?_)
          · intro W hW
            clear hK
            go_simp
          simp only [Act.put, List.setIfInBounds_toArray, List.set_cons_zero, List.set_cons_succ]
          clear hK K
          refine wpQuiet_step (fun K hK => ?_)
          rw [if_pos (by rfl)]
          refine quiet_call 21 #[.string u] (.string (strOfNums x)) ?_ ?_ (hK _ ?_)
          · intro W hW
            clear hK
            go_simp
          · intro W hW
            refine (HV.out W).mono ?_
            rintro e w1 ⟨rfl, hb⟩
            exact ⟨rfl, below_then hW hW.size hb⟩
          simp only [Act.put, List.setIfInBounds_toArray, List.set_cons_zero, List.set_cons_succ]
          clear hK K
          refine wpQuiet_step (fun K hK => ?_)
          rw [if_pos (by rfl)]
          refine quiet_val (.string (s.extract 0 (k + 1 + 1))) ?_ (hK _ ?_)
          · intro W hW
            clear hK
            go_simp
          simp only [Act.put, List.setIfInBounds_toArray, List.set_cons_zero, List.set_cons_succ]
          clear hK K
          refine wpQuiet_step (fun K hK => ?_)
          rw [if_pos (by rfl)]
          refine quiet_val (.string (strOfNums x)) ?_ (hK _ ?_)
          · intro W hW
            clear hK
            go_simp
          simp only [Act.put, List.setIfInBounds_toArray, List.set_cons_zero, List.set_cons_succ]
          clear hK K
          refine wpQuiet_nil ?_
          intro W8 hT8
          have HB := Lib.hid hT8
          clear hT8
          go_wp2
          go_ret2
          exact ⟨⟨_, rfl⟩, HB.out⟩
        have hpar : (k < z ∧ tr ((qs x).take (k - 1)) % 2 = 0) ∨ (k = z ∧ tr ((qs x).take (k - 1)) % 2 = 1) := by
          rcases Nat.lt_or_ge k z with h | h
          · exact .inl ⟨h, (HQ.out.odd h HC1.out).2.2⟩
          · obtain rfl : k = z := by omega
            exact .inr ⟨rfl, HQ.out.even hk1 c3⟩
        have HPA := Lib.hid hpar
        rw [c3] at k1
        clear c3 hpar HC1
        obtain ⟨u, hu⟩ : ∃ u, u = s.extract 1 (k + 1) := ⟨_, rfl⟩
        rw [← hu] at kS HU
        clear hu
        have hk2 : ∃ q : Nat, k = q + 1 := ⟨k - 1, by omega⟩
        obtain ⟨q, hq⟩ := hk2
        have HQK := Lib.hid hq
        have hq1 : k ≤ q + 1 := by omega
        have hq2 : q + 1 ≤ k := by omega
        have e2 : (k : Int) + 1 - 2 = (q : Int) := by omega
        have e3 : (k : Int) - 1 = (q : Int) := by omega
        clear hq
        obtain ⟨g4, hg4⟩ : ∃ g4, g4 = gk - 1 := ⟨_, rfl⟩
        have HG4 := Lib.hid hg4
        clear hg4
        replace HPA : Hid ((k < z ∧ tr ((qs x).take q) % 2 = 0) ∨ (k = z ∧ tr ((qs x).take q) % 2 = 1)) := by
          have h := HPA.out
          rw [HQK.out, Nat.add_sub_cancel] at h
          rw [← HQK.out] at h
          exact Lib.hid h
        go_wp2
        go_loopg [5, 6] q (fun kq v5 v6 w' => Hid (∃ n : Nat, v5 = .int .i64 (n : Int) ∧ v6 = .int .i64 (kq : Int) ∧ n + kq = q ∧ tr ((qs x).take q) = n + tr ((qs x).take kq) ∧ w' = wr))
        case atStart => exact Lib.hid ⟨0, rfl, by go_num, by omega, by simp, rfl⟩
        case round =>
          obtain ⟨n, rfl, rfl, hn, ht, rfl⟩ := hrel.out
          clear hrel
          rcases Nat.eq_zero_or_pos gk with hg | hg
          · have ht' : tr ((qs x).take q) = n := by rw [ht, hg, List.take_zero, tr_nil]; omega
            clear ht
            subst hg
            rcases HPA.out with ⟨hkz', hp'⟩ | ⟨hkz', hp'⟩
            · have p1 : ((n : Int) % 2 == 0) = true := beq_iff_eq.mpr (by omega)
              clear hp' HPA HU
              go_wp2
              go_roundg g4
              case rel => exact Lib.hid ⟨k + 1, by go_num, by have := HG4.out; omega, by omega, by omega, rfl⟩
              case measure => have := HG4.out; omega
            · have p1 : ((n : Int) % 2 == 0) = false := beq_eq_false_iff_ne.mpr (by omega)
              have HV := Lib.hid (HU.out hkz')
              clear hp' hkz' HPA HU
              go_wp2
              refine wp_region_quiet (C := fun W => Below wr.heap.size wr W) (by kernel_rfl) (by kernel_rfl) (below_drew (Below.refl _ _)) ?_
              refine wpQuiet_step (fun K hK => ?_)
              rw [if_pos (by rfl)]
              refine quiet_val (.string s) ?_ (hK _ ?_)
              · intro W hW
                clear hK
                go_simp
              simp only [Act.put, List.setIfInBounds_toArray, List.set_cons_zero, List.set_cons_succ]
              clear hK K
              refine wpQuiet_step (fun K hK => ?_)
              rw [if_pos (by rfl)]
              refine quiet_val (.int .i64 ((k : Int) + 1)) ?_ (hK _ ?_)
              · intro W hW
                clear hK
                go_simp
              simp only [Act.put, List.setIfInBounds_toArray, List.set_cons_zero, List.set_cons_succ]
              clear hK K
              refine wpQuiet_step (fun K hK => ?_)
              rw [if_pos (by rfl)]
              refine quiet_val (.int .i64 ((k : Int) + 1 + 1)) ?_ (hK _ ?_)
              · intro W hW
                clear hK
                go_simp
              simp only [Act.put, List.setIfInBounds_toArray, List.set_cons_zero, List.set_cons_succ]
              clear hK K
              refine wpQuiet_step (fun K hK => ?_)
              rw [if_pos (by rfl)]
              refine quiet_val (.string (s.extract 0 (k + 1 + 1))) ?_ (hK _ ?_)
              · intro W hW
                clear hK
                go_simp
              simp only [Act.put, List.setIfInBounds_toArray, List.set_cons_zero, List.set_cons_succ]
              clear hK K
              refine wpQuiet_step (fun K hK => ?_)
              rw [if_pos (by rfl)]
              refine quiet_val (.string s) ?_ (hK _ ?_)
              · intro W hW
                clear hK
                go_simp
              simp only [Act.put, List.setIfInBounds_toArray, List.set_cons_zero, List.set_cons_succ]
              clear hK K
              refine wpQuiet_step (fun K hK => ?_)
              rw [if_pos (by rfl)]
              refine quiet_val (.int .i64 ((k : Int) + 1)) ?_ (hK _ ?_)
              · intro W hW
                clear hK
                go_simp
              simp only [Act.put, List.setIfInBounds_toArray, List.set_cons_zero, List.set_cons_succ]
              clear hK K
              refine wpQuiet_step (fun K hK => ?_)
              rw [if_pos (by rfl)]
              refine quiet_val (.string u) ?_ (hK _ ?_)
              · intro W hW
                clear hK
                go_simp
              simp only [Act.put, List.setIfInBounds_toArray, List.set_cons_zero, List.set_cons_succ]
              clear hK K
              refine wpQuiet_step (fun K hK => ?_)
              rw [if_pos (by rfl)]
              refine quiet_call 21 #[.string u] (.string (strOfNums x)) ?_ ?_ (hK _ ?_)
              · intro W hW
                clear hK
                go_simp
              · intro W hW
                refine (HV.out W).mono ?_
                rintro e w1 ⟨rfl, hb⟩
                exact ⟨rfl, below_then hW hW.size hb⟩
              simp only [Act.put, List.setIfInBounds_toArray, List.set_cons_zero, List.set_cons_succ]
              clear hK K
              refine wpQuiet_step (fun K hK => ?_)
              rw [if_pos (by rfl)]
              refine quiet_val (.string (s.extract 0 (k + 1 + 1))) ?_ (hK _ ?_)
              · intro W hW
                clear hK
                go_simp
              simp only [Act.put, List.setIfInBounds_toArray, List.set_cons_zero, List.set_cons_succ]
              clear hK K
              refine wpQuiet_step (fun K hK => ?_)
              rw [if_pos (by rfl)]
              refine quiet_val (.string (strOfNums x)) ?_ (hK _ ?_)
              · intro W hW
                clear hK
                go_simp
              simp only [Act.put, List.setIfInBounds_toArray, List.set_cons_zero, List.set_cons_succ]
              clear hK K
              refine wpQuiet_nil ?_
              intro W8 hT8
              have HB := Lib.hid hT8
              clear hT8
              go_wp2
              go_ret2
              exact ⟨⟨_, rfl⟩, HB.out⟩
          · have dg : decide ((0 : Int) < (gk : Int)) = true := decide_eq_true (by omega)
            have dg2 : decide (0 < gk) = true := decide_eq_true (by omega)
            obtain ⟨d, hd⟩ : ∃ d, d = bt s (gk : Int) := ⟨_, rfl⟩
            have kJ : ∀ W : World, (Instr.index 9 (.string s) (.int .i64 (gk : Int))).run Tryd.prog W = .ok (.int .u8 d) W := by rw [hd]; exact kI.out gk (by omega)
            have hd' : d = (qs x).getD (gk - 1) 0 := by
              rw [hd, ← HQ.out.at (k := gk - 1) (by omega), show ((gk - 1 : Nat) : Int) + 1 = (gk : Int) by omega]
            have hlz : gk - 1 < (qs x).length := by rw [← HQ.out.len]; omega
            have HT := Lib.hid ht
            have HD := Lib.hid hd'
            clear hd hd' ht
            by_cases h92 : d = 92
            · have dd : (d != 92) = false := by rw [h92]; rfl
              have HN := Lib.hid (show tr ((qs x).take q) = (n + 1) + tr ((qs x).take (gk - 1)) by
                rw [HT.out]
                have := tr_take_bs _ _ hlz (HD.out.symm.trans h92)
                rw [show gk - 1 + 1 = gk by omega] at this
                omega)
              clear h92 HD HT hlz
              go_wp2
              go_roundg (gk - 1)
              case rel => exact Lib.hid ⟨n + 1, by go_num, by go_num, by omega, HN.out, rfl⟩
              case measure => omega
            · have dd : (d != 92) = true := by simpa [bne] using h92
              have ht' : tr ((qs x).take q) = n := by
                rw [HT.out]
                have := tr_take_no _ _ hlz (fun e => h92 (HD.out.trans e))
                rw [show gk - 1 + 1 = gk by omega] at this
                omega
              clear h92 HD HT hlz
              rcases HPA.out with ⟨hkz', hp'⟩ | ⟨hkz', hp'⟩
              · have p1 : ((n : Int) % 2 == 0) = true := beq_iff_eq.mpr (by omega)
                clear hp' HPA HU
                go_wp2
                go_roundg g4
                case rel => exact Lib.hid ⟨k + 1, by go_num, by have := HG4.out; omega, by omega, by omega, rfl⟩
                case measure => have := HG4.out; omega
              · have p1 : ((n : Int) % 2 == 0) = false := beq_eq_false_iff_ne.mpr (by omega)
                have HV := Lib.hid (HU.out hkz')
                clear hp' hkz' HPA HU
                go_wp2
                refine wp_region_quiet (C := fun W => Below wr.heap.size wr W) (by kernel_rfl) (by kernel_rfl) (below_drew (Below.refl _ _)) ?_
                refine wpQuiet_step (fun K hK => ?_)
                rw [if_pos (by rfl)]
                refine quiet_val (.string s) ?_ (hK _ ?_)
                · intro W hW
                  clear hK
                  go_simp
                simp only [Act.put, List.setIfInBounds_toArray, List.set_cons_zero, List.set_cons_succ]
                clear hK K
                refine wpQuiet_step (fun K hK => ?_)
                rw [if_pos (by rfl)]
                refine quiet_val (.int .i64 ((k : Int) + 1)) ?_ (hK _ ?_)
                · intro W hW
                  clear hK
                  go_simp
                simp only [Act.put, List.setIfInBounds_toArray, List.set_cons_zero, List.set_cons_succ]
                clear hK K
                refine wpQuiet_step (fun K hK => ?_)
                rw [if_pos (by rfl)]
                refine quiet_val (.int .i64 ((k : Int) + 1 + 1)) ?_ (hK _ ?_)
                · intro W hW
                  clear hK
                  go_simp
                simp only [Act.put, List.setIfInBounds_toArray, List.set_cons_zero, List.set_cons_succ]
                clear hK K
                refine wpQuiet_step (fun K hK => ?_)
                rw [if_pos (by rfl)]
                refine quiet_val (.string (s.extract 0 (k + 1 + 1))) ?_ (hK _ ?_)
                · intro W hW
                  clear hK
                  go_simp
                simp only [Act.put, List.setIfInBounds_toArray, List.set_cons_zero, List.set_cons_succ]
                clear hK K
                refine wpQuiet_step (fun K hK => ?_)
                rw [if_pos (by rfl)]
                refine quiet_val (.string s) ?_ (hK _ ?_)
                · intro W hW
                  clear hK
                  go_simp
                simp only [Act.put, List.setIfInBounds_toArray, List.set_cons_zero, List.set_cons_succ]
                clear hK K
                refine wpQuiet_step (fun K hK => ?_)
                rw [if_pos (by rfl)]
                refine quiet_val (.int .i64 ((k : Int) + 1)) ?_ (hK _ ?_)
                · intro W hW
                  clear hK
                  go_simp
                simp only [Act.put, List.setIfInBounds_toArray, List.set_cons_zero, List.set_cons_succ]
                clear hK K
                refine wpQuiet_step (fun K hK => ?_)
                rw [if_pos (by rfl)]
                refine quiet_val (.string u) ?_ (hK _ ?_)
                · intro W hW
                  clear hK
                  go_simp
                simp only [Act.put, List.setIfInBounds_toArray, List.set_cons_zero, List.set_cons_succ]
                clear hK K
                refine wpQuiet_step (fun K hK => ?_)
                rw [if_pos (by rfl)]
                refine quiet_call 21 #[.string u] (.string (strOfNums x)) ?_ ?_ (hK _ ?_)
                · intro W hW
                  clear hK
                  go_simp
                · intro W hW
                  refine (HV.out W).mono ?_
                  rintro e w1 ⟨rfl, hb⟩
                  exact ⟨rfl, below_then hW hW.size hb⟩
                simp only [Act.put, List.setIfInBounds_toArray, List.set_cons_zero, List.set_cons_succ]
                clear hK K
                refine wpQuiet_step (fun K hK => ?_)
                rw [if_pos (by rfl)]
                refine quiet_val (.string (s.extract 0 (k + 1 + 1))) ?_ (hK _ ?_)
                · intro W hW
                  clear hK
                  go_simp
                simp only [Act.put, List.setIfInBounds_toArray, List.set_cons_zero, List.set_cons_succ]
                clear hK K
                refine wpQuiet_step (fun K hK => ?_)
                rw [if_pos (by rfl)]
                refine quiet_val (.string (strOfNums x)) ?_ (hK _ ?_)
                · intro W hW
                  clear hK
                  go_simp
                simp only [Act.put, List.setIfInBounds_toArray, List.set_cons_zero, List.set_cons_succ]
                clear hK K
                refine wpQuiet_nil ?_
                intro W8 hT8
                have HB := Lib.hid hT8
                clear hT8
                go_wp2
                go_ret2
                exact ⟨⟨_, rfl⟩, HB.out⟩
    have b2 : (c == 92) = false := beq_eq_false_iff_ne.mpr c2
    have hlt : k < z := by
      rcases Nat.lt_or_ge k z with h | h
      · exact h
      · exfalso
        have := HC.out
        rw [show k = z by omega, HQ.out.last] at this
        exact c1 this
    have hno : (qs x).getD k 0 ≠ 92 := by rw [← HQ.out.at hlt, ← HC.out]; exact c2
    replace hno := Lib.hid hno
    clear c1 c2
    go_wp2
    go_roundg (gk - 1)
    case rel => exact Lib.hid ⟨k + 1, by go_num, by omega, by omega, fun j hj => by
      rcases Nat.lt_or_ge j k with h | h
      · exact HP.out j h
      · rw [show j = k by omega]; exact hno.out, rfl⟩
    case measure => omega
end Go.Proofs.YtbpiooeklkjilaaDoor.Gl
