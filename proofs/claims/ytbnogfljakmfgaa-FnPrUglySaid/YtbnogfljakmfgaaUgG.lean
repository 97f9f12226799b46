/- The walk of the law FnPrUgly. -/
import Derived.Test.YtbnogfljakmfgaaUgF
import Derived.Deep.Quiet
import Derived.BigQuiet
set_option linter.unusedVariables false
set_option linter.unusedSimpArgs false
namespace Go.Proofs.Ytbnogfljakmfgaa.J
open Go.RowKit Go.Proofs.YtbnogfljakmfgaaW.PrintWords Go.Proofs.YtbnogfljakmfgaaW.PrintLast Go.Proofs.YtbnogfljakmfgaaW.PrintMore Go.Proofs.Ytbnogfljakmfgaa.Aid

theorem ug_le : ∀ l : L, (ugO l).length ≤ l.length ∧ ∀ p, (ugI p l).length ≤ l.length
  | [] => ⟨by simp [ugO], fun p => by simp [ugI]⟩
  | c :: t => by
    obtain ⟨h1, h2⟩ := ug_le t
    refine ⟨?_, fun p => ?_⟩
    · rw [ugO]
      split
      · simp only [List.length_cons]; omega
      · split
        · have := h2 false
          simp only [List.length_cons]; omega
        · simp only [List.length_cons]; omega
    · rw [ugI]
      have a1 := h2 false
      have a2 := h2 (!p)
      simp only [List.length_cons]
      split
      · split <;> omega
      · split <;> omega
theorem ugO_le (l : L) : (ugO l).length ≤ l.length := (ug_le l).1

section
variable {P : Program} {ops : Array Oper} {C : World → Prop} {a : Act} {o : Oper} {K : Act → Prop}
theorem quiet_val (v : Value) (h : ∀ W, C W → (execOp a.eval o).run P W = .ok (.value v) W) (hk : K (a.put o.dst v)) : o.quiet P a C K :=
  ⟨v, fun W hW => by unfold Oper.quietAt; rw [h W hW]; exact ⟨rfl, rfl⟩, hk⟩
theorem quiet_call (f : FuncId) (args : Array Value) (v : Value) (he : ∀ W, C W → (execOp a.eval o).run P W = .ok (.enter f args) W) (h : ∀ W, C W → Calls P f args W fun e w'' => e = .returned v ∧ C w'') (hk : K (a.put o.dst v)) : o.quiet P a C K :=
  ⟨v, fun W hW => by unfold Oper.quietAt; rw [he W hW]; exact ⟨rfl, h W hW⟩, hk⟩
end

set_option maxHeartbeats 4000000 in
set_option maxRecDepth 100000 in
theorem law_any (s : ByteArray) (w : World) (hs : s.size ≤ 140737488351232) :
    Calls Try.prog 5 #[.string s] w fun e w' => e = .returned (.bool true) ∧ Below w.heap.size w w' := by
  rcases Nat.lt_or_ge 2147483647 s.size with h | h
  · have hb : decide ((s.size : Int) > 2147483647) = true := decide_eq_true (by omega)
    go_enter Try.func5, Try.ntmps5
    go_wp2
    go_ret
    exact ⟨rfl, Below.refl _ _⟩
  · have hb : decide ((s.size : Int) > 2147483647) = false := decide_eq_false (by omega)
    have HP := Lib.hid (prPlaces_any s h)
    go_enter Try.func5, Try.ntmps5
    go_wp2_with fail
    refine (HP.out _).mono ?_
    cases F : prP s with
    | none =>
      rintro e w' ⟨hb, rfl⟩
      have HB := Lib.hid hb
      clear hb F
      go_wp2
      go_quiet (fail)
      go_wp2
      go_ret
      exact ⟨rfl, pw_below_drewN (HB.out.alloc HB.out.size _) _⟩
    | some p =>
      rintro e w' ⟨A3, c3, A4, c4, hb, h3, h4, rfl⟩
      have hsz : s.size ≤ 4096 := by
        unfold prP at F
        split at F
        · cases F
        · omega
      have ht : text (bytesOf s) = some p := by
        unfold prP at F
        rw [if_neg (by omega)] at F
        exact F
      have hug : strOfNums (ugO (bytesOf s)) = strOfNums (bare (bytesOf s) p) := by rw [text_ug ht]
      have hok : okP s.size p := by have := text_ok ht; rwa [bytesOf_length] at this
      have hlen : (bare (bytesOf s) p).length ≤ 100000 := by rw [← text_ug ht]; have := ugO_le (bytesOf s); rw [bytesOf_length] at this; omega
      have e3 := Kd.R_reads' h3
      have e4 := Kd.R_reads' h4
      obtain ⟨w1, hw1⟩ : ∃ z, z = w'.alloc (.cells #[.int .i64 p.kind, .int .i64 p.b, .int .i64 p.e, .slice A3 p.names.length c3, .slice A4 p.kids.length c4] tPl) := ⟨_, rfl⟩
      have hbx : w1.heap[w'.heap.size]? = some (.cells #[.int .i64 p.kind, .int .i64 p.b, .int .i64 p.e, .slice A3 p.names.length c3, .slice A4 p.kids.length c4] tPl (0, 0)) := by rw [hw1]; exact blk_new _ _
      have hb1 : Below w'.heap.size w' w1 := by rw [hw1]; exact below_alloc (Below.refl _ _) _
      have g3 := Lib.hid (Kd.C_below e3.2.2 hb1)
      have g4 := Lib.hid (Kd.C_below e4.2.2 hb1)
      have l3 := Lib.hid e3.2.1
      have l4 := Lib.hid e4.2.1
      have HB := Lib.hid (below_then hb hb.size hb1)
      have HBX := Lib.hid hbx
      have HUG := Lib.hid hug
      have HOK := Lib.hid hok
      have HLN := Lib.hid hlen
      have hw1 := Lib.hid hw1
      clear hb h3 h4 e3 e4 hbx hb1 hug hok hlen ht F
      go_wp2
      rw [← hw1.out]
      refine wp_region_quiet (C := fun W => Below w1.heap.size w1 W) (by kernel_rfl) (by kernel_rfl) (below_drew (Below.refl _ _)) ?_
      refine wpQuiet_step (fun K hK => ?_)
      rw [if_pos (by rfl)]
      refine quiet_val (.bool true) ?_ (hK _ ?_)
      · intro W hW
        clear hK
        go_simp
      simp only [Act.put, List.setIfInBounds_toArray, List.set_cons_zero, List.set_cons_succ]
      clear hK K
      refine wpQuiet_step (fun K hK => ?_)
      rw [if_pos (by rfl)]
      refine quiet_val (.bool false) ?_ (hK _ ?_)
      · intro W hW
        clear hK
        go_simp
      simp only [Act.put, List.setIfInBounds_toArray, List.set_cons_zero, List.set_cons_succ]
      clear hK K
      refine wpQuiet_step (fun K hK => ?_)
      rw [if_pos (by rfl)]
      refine quiet_val (.bool false) ?_ (hK _ ?_)
      · intro W hW
        clear hK
        go_simp
      simp only [Act.put, List.setIfInBounds_toArray, List.set_cons_zero, List.set_cons_succ]
      clear hK K
      refine wpQuiet_step (fun K hK => ?_)
      rw [if_pos (by rfl)]
      refine quiet_val (.string s) ?_ (hK _ ?_)
      · intro W hW
        clear hK
        go_simp
      simp only [Act.put, List.setIfInBounds_toArray, List.set_cons_zero, List.set_cons_succ]
      clear hK K
      refine wpQuiet_step (fun K hK => ?_)
      rw [if_pos (by rfl)]
      refine quiet_call 12 #[.string s] (.string (strOfNums (ugO (bytesOf s)))) ?_ ?_ (hK _ ?_)
      · intro W hW
        clear hK
        go_simp
      · intro W hW
        refine (PrUgly_any s hsz W).mono ?_
        rintro e w'' ⟨rfl, hb⟩
        exact ⟨rfl, below_then hW hW.size hb⟩
      simp only [Act.put, List.setIfInBounds_toArray, List.set_cons_zero, List.set_cons_succ]
      clear hK K
      refine wpQuiet_step (fun K hK => ?_)
      rw [if_pos (by rfl)]
      refine quiet_val (.string s) ?_ (hK _ ?_)
      · intro W hW
        clear hK
        go_simp
      simp only [Act.put, List.setIfInBounds_toArray, List.set_cons_zero, List.set_cons_succ]
      clear hK K
      refine wpQuiet_step (fun K hK => ?_)
      rw [if_pos (by rfl)]
      refine quiet_val (.agg #[.int .i64 p.kind, .int .i64 p.b, .int .i64 p.e, .slice A3 p.names.length c3, .slice A4 p.kids.length c4]) ?_ (hK _ ?_)
      · intro W hW
        have B := blk_below HBX.out hW
        have c0 : W.cell? ⟨w'.heap.size, 0, none⟩ = some (.int .i64 p.kind) := (blk_cell B 0).trans rfl
        have c1 : W.cell? ⟨w'.heap.size, 1, none⟩ = some (.int .i64 p.b) := (blk_cell B 1).trans rfl
        have c2 : W.cell? ⟨w'.heap.size, 2, none⟩ = some (.int .i64 p.e) := (blk_cell B 2).trans rfl
        have d3 : W.cell? ⟨w'.heap.size, 3, none⟩ = some (.slice A3 p.names.length c3) := (blk_cell B 3).trans rfl
        have d4 : W.cell? ⟨w'.heap.size, 4, none⟩ = some (.slice A4 p.kids.length c4) := (blk_cell B 4).trans rfl
        clear B
        clear hK
        go_simp
      simp only [Act.put, List.setIfInBounds_toArray, List.set_cons_zero, List.set_cons_succ]
      clear hK K
      refine wpQuiet_step (fun K hK => ?_)
      rw [if_pos (by rfl)]
      refine quiet_call 13 #[.string s, .agg #[.int .i64 p.kind, .int .i64 p.b, .int .i64 p.e, .slice A3 p.names.length c3, .slice A4 p.kids.length c4]] (.string (strOfNums (ugO (bytesOf s)))) ?_ ?_ (hK _ ?_)
      · intro W hW
        clear hK
        go_simp
      · intro W hW
        refine (Bare_any s p A3 A4 c3 c4 W l3.out (Kd.C_below g3.out hW) l4.out (Kd.C_below g4.out hW) HLN.out HOK.out).mono ?_
        rintro e w'' ⟨rfl, hb⟩
        exact ⟨by rw [HUG.out], below_then hW hW.size hb⟩
      simp only [Act.put, List.setIfInBounds_toArray, List.set_cons_zero, List.set_cons_succ]
      clear hK K
      refine wpQuiet_step (fun K hK => ?_)
      rw [if_pos (by rfl)]
      refine quiet_val (.bool true) ?_ (hK _ ?_)
      · intro W hW
        clear hK
        go_simp
      simp only [Act.put, List.setIfInBounds_toArray, List.set_cons_zero, List.set_cons_succ]
      clear hK K
      refine wpQuiet_step (fun K hK => ?_)
      rw [if_pos (by rfl)]
      refine quiet_val (.bool true) ?_ (hK _ ?_)
      · intro W hW
        clear hK
        go_simp
      simp only [Act.put, List.setIfInBounds_toArray, List.set_cons_zero, List.set_cons_succ]
      clear hK K
      refine wpQuiet_step (fun K hK => ?_)
      rw [if_pos (by rfl)]
      refine quiet_val (.bool true) ?_ (hK _ ?_)
      · intro W hW
        clear hK
        go_simp
      simp only [Act.put, List.setIfInBounds_toArray, List.set_cons_zero, List.set_cons_succ]
      clear hK K
      refine wpQuiet_nil ?_
      intro W hW
      go_wp2
      go_ret
      exact ⟨rfl, below_then HB.out HB.out.size hW⟩
end Go.Proofs.Ytbnogfljakmfgaa.J
