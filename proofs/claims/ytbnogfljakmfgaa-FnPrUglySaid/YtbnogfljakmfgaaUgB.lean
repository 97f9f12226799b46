/- The walk of spec's bareTo: arrays. -/
import Derived.Test.YtbnogfljakmfgaaUgA
import Derived.Deep.DeepCutAuto
set_option linter.unusedVariables false
set_option linter.unusedSimpArgs false
namespace Go.Proofs.Ytbnogfljakmfgaa.J
open Go.RowKit Go.Proofs.YtbnogfljakmfgaaW.PrintWords Go.Proofs.YtbnogfljakmfgaaW.PrintLast Go.Proofs.YtbnogfljakmfgaaW.PrintMore Go.Proofs.Ytbnogfljakmfgaa.Aid

/-- The row v holds what lies ahead of r in goal. -/
def BInv (w0 wb W : World) (v : Value) (r goal : List Int) : Prop := ∃ acc, Own W w0.heap.size v acc ∧ Below w0.heap.size w0 W ∧ NU wb W ∧ acc ++ r = goal
theorem BInv.eq {w0 wb W : World} {v : Value} {r r' goal : List Int} (h : BInv w0 wb W v r goal) (e : r = r') : BInv w0 wb W v r' goal := e ▸ h
theorem BInv.size {w0 wb W : World} {v : Value} {r goal : List Int} (h : BInv w0 wb W v r goal) : w0.heap.size ≤ W.heap.size := by
  obtain ⟨acc, _, hB, _, _⟩ := h
  exact hB.size
theorem BInv.below {w0 wb W W' : World} {v : Value} {r goal : List Int} (h : BInv w0 wb W v r goal) (k : Below W.heap.size W W') : BInv w0 wb W' v r goal := by
  obtain ⟨acc, hO, hB, hN, e⟩ := h
  exact ⟨acc, hO.below k, below_then hB hB.size k, hN.below k, e⟩
theorem BInv.alloc {w0 wb W : World} {v : Value} {r goal : List Int} (h : BInv w0 wb W v r goal) (o : Obj) : BInv w0 wb (W.alloc o) v r goal := h.below (below_alloc (Below.refl _ _) o)
theorem BInv.cell {w0 wb W : World} {v : Value} {r goal : List Int} (h : BInv w0 wb W v r goal) {a : Addr} {u : Value} (hc : w0.cell? a = some u) : W.cell? a = some u := by
  obtain ⟨acc, _, hB, _, _⟩ := h
  exact pw_cell_below hB hc
theorem BInv.box {w0 wb W : World} {v : Value} {r goal : List Int} (h : BInv w0 wb W v r goal) {g : Nat} {cs : Array Value} {t : TypeId} {fr : Nat × Nat} (hb : wb.heap[g]? = some (.cells cs t fr)) (ht : t ≠ tU8) : W.heap[g]? = some (.cells cs t fr) := by
  obtain ⟨acc, _, _, hN, _⟩ := h
  exact hN.blk hb ht
section
variable {ops : Array Oper} {rest : List Oper} {o : Oper} {a : Act} {Q : Exit → Act → World → Prop}
theorem binv_num {w0 wb W : World} (hgd : o.guard = none) (s x : Operand) (ho : o.op = .call { callee := .builtin .append, args := #[s, x], argTypes := #[41, 41] }) (v : Value) (y : Int) (r goal : List Int)
    (hs : a.eval s = v) (hx : a.eval x = .slice (some ⟨W.heap.size, 0, none⟩) 1 1) (H : BInv w0 wb W v (y :: r) goal) (hg : goal.length ≤ 100000)
    (h : ∀ v1 w1, BInv w0 wb w1 v1 r goal → wpList Try.prog ops Q rest (a.put o.dst v1) w1) : wpList Try.prog ops Q (o :: rest) a (W.alloc (.cells #[.int .u8 y] tU8)) := by
  obtain ⟨acc, hO, hB, hN, e⟩ := H
  have hl : acc.length + 1 ≤ 100000 := by rw [← e] at hg; simp only [List.length_append, List.length_cons] at hg; omega
  refine print_append_num (w0 := w0) w0.heap.size hgd s x 41 tU8 .u8 1 ho Try.underlying41 infoU8 (by decide) v acc y hs hx hO hB hB.size (by omega) ?_
  intro v1 w1 hown hb1 hg1 hat1
  exact h v1 w1 ⟨acc ++ [y], hown, hb1, hN.grown hO hg1, by rw [← e]; simp⟩
theorem binv_str {w0 wb W : World} (hgd : o.guard = none) (s x : Operand) (ho : o.op = .call { callee := .builtin .append, args := #[s, x], argTypes := #[41, 9] }) (v : Value) (y : ByteArray) (r goal : List Int)
    (hs : a.eval s = v) (hx : a.eval x = .string y) (H : BInv w0 wb W v (bytesOf y ++ r) goal) (hg : goal.length ≤ 100000)
    (h : ∀ v1 w1, BInv w0 wb w1 v1 r goal → wpList Try.prog ops Q rest (a.put o.dst v1) w1) : wpList Try.prog ops Q (o :: rest) a W := by
  obtain ⟨acc, hO, hB, hN, e⟩ := H
  have hl : acc.length + y.size ≤ 100000 := by rw [← e] at hg; simp only [List.length_append, bytesOf_length] at hg; omega
  refine print_append_str (w0 := w0) w0.heap.size hgd s x 41 9 tU8 ho Try.underlying41 Try.underlying9 infoU8 v acc y hs hx hO hB hB.size (by omega) ?_
  intro v1 w1 hown hb1 hg1
  exact h v1 w1 ⟨acc ++ bytesOf y, hown, hb1, hN.grown hO hg1, by rw [← e]; simp⟩
end
theorem binv_call {w0 wb W W' : World} {v : Value} {acc r goal xs : List Int} {e : Ending} (hO : Own W w0.heap.size v acc) (hB : Below w0.heap.size w0 W) (hN : NU wb W) (he : (acc ++ xs) ++ r = goal) (h : BPost w0 W (acc ++ xs) e W') :
    ∃ v', e = .returned v' ∧ BInv w0 wb W' v' r goal := by
  obtain ⟨v', rfl, ho, hb, hn⟩ := h
  exact ⟨v', rfl, acc ++ xs, ho, hb, hN.trans hn, he⟩
theorem BInv.done {w0 w W : World} {o : Obj} {v : Value} {goal : List Int} (h : BInv w0 (w.alloc o) W v [] goal) : BPost w0 w goal (.returned v) W := by
  obtain ⟨acc, hO, hB, hN, e⟩ := h
  rw [List.append_nil] at e
  subst e
  exact ⟨v, rfl, hO, hB, ((NU.refl w).alloc o).trans hN⟩
theorem blk_new (w : World) (o : Obj) : (w.alloc o).heap[w.heap.size]? = some o := heap_alloc_new w o
theorem getD_mem {α : Type} {xs : List α} {k : Nat} (d : α) (h : k < xs.length) : xs.getD k d ∈ xs := by
  rw [List.getD_eq_getElem?_getD, List.getElem?_eq_getElem h]; exact List.getElem_mem h

set_option maxHeartbeats 8000000 in
set_option maxRecDepth 100000 in
theorem bare_arr_any (s : ByteArray) (b e : Int) (ns : List Sp) (ks : List Pl) (hk : ∀ p ∈ ks, BareC s p) : BareC s ⟨5, b, e, ns, ks⟩ := by
  intro w0 w A3 A4 c3 c4 v out h3 g3 h4 g4 hB hO hlen hok
  rw [okP] at hok
  obtain ⟨_, _, _, hok⟩ := hok
  rw [bare_arr] at hlen ⊢
  obtain ⟨goal, hg⟩ : ∃ z, z = out ++ 91 :: (bareKs (bytesOf s) false true ns ks ++ [93]) := ⟨_, rfl⟩
  have hgl : goal.length ≤ 100000 := by rw [hg, List.length_append]; exact hlen
  rw [← hg]
  obtain ⟨wb, hwb⟩ : ∃ z, z = w.alloc (.cells #[.int .i64 5, .int .i64 b, .int .i64 e, .slice A3 ns.length c3, .slice A4 ks.length c4] tPl) := ⟨_, rfl⟩
  have HI := Lib.hid (show BInv w0 wb wb v (91 :: (bareKs (bytesOf s) false true ns ks ++ [93])) goal from ⟨out, by rw [hwb]; exact hO.alloc _, by rw [hwb]; exact hB.alloc hB.size _, NU.refl _, hg.symm⟩)
  have hbx := Lib.hid (show wb.heap[w.heap.size]? = some (.cells #[.int .i64 5, .int .i64 b, .int .i64 e, .slice A3 ns.length c3, .slice A4 ks.length c4] tPl (0, 0)) by rw [hwb]; exact blk_new _ _)
  replace hwb := Lib.hid hwb
  have HK := Lib.hid hk
  have HX := Lib.hid hok
  have G4 := Lib.hid g4
  have hgl := Lib.hid hgl
  clear hlen hO hB hk hok g3 g4 hg
  go_enter Try.func21, Try.ntmps21
  go_wp2_with (at_builtin; rw [← hwb.out]; refine binv_num rfl (.tmp 29) (.tmp 31) rfl v 91 _ goal rfl (by rw [hwb.out]; simp [go_sem]) HI.out hgl.out ?_; intro v1 w1 hI; have c4' : w1.cell? ⟨w.heap.size, 4, none⟩ = some (.slice A4 ks.length c4) := (blk_cell (hI.box hbx.out (by decide)) 4).trans rfl; replace HI := Lib.hid hI; clear hI)
  clear c4'
  go_loopg [0, 36] ks.length (fun kq v0 v36 w' => Hid (∃ k, v36 = .int .i64 (k : Nat) ∧ k + kq = ks.length ∧ BInv w0 wb w' v0 (bareKs (bytesOf s) false (decide (k = 0)) (ns.drop k) (ks.drop k) ++ [93]) goal))
  case atStart => exact Lib.hid ⟨0, rfl, by omega, HI.out⟩
  case round =>
    obtain ⟨k, rfl, hkq, hI⟩ := hrel.out
    clear hrel
    have HI := Lib.hid hI
    clear hI
    rcases Nat.lt_or_ge k ks.length with hkk | hkk
    · have HD := Lib.hid (bareKs_drop (bytesOf s) false ns ks k (decide (k = 0)) hkk)
      go_upto_if 40 with (fail)
      go_cut [0] (fun v0 w' => Hid (BInv w0 wb w' v0 (bare (bytesOf s) (ks.getD k ⟨0, 0, 0, [], []⟩) ++ bareKs (bytesOf s) false false (ns.drop (k + 1)) (ks.drop (k + 1)) ++ [93]) goal))
      case first =>
        rcases Nat.eq_zero_or_pos k with rfl | hp
        · replace HI := Lib.hid (HI.out.eq (show _ = bare (bytesOf s) (ks.getD 0 ⟨0, 0, 0, [], []⟩) ++ bareKs (bytesOf s) false false (ns.drop 1) (ks.drop 1) ++ [93] by rw [HD.out]; simp))
          clear HD
          go_wp2
          go_meet
          case rel => exact HI
        · have hp' : decide ((k : Int) > 0) = true := decide_eq_true (by omega)
          replace HI := Lib.hid (HI.out.eq (show _ = 44 :: (bare (bytesOf s) (ks.getD k ⟨0, 0, 0, [], []⟩) ++ bareKs (bytesOf s) false false (ns.drop (k + 1)) (ks.drop (k + 1)) ++ [93]) by rw [HD.out]; simp [show k ≠ 0 by omega]))
          clear HD
          go_wp2_with (at_builtin; refine binv_num rfl (.tmp 41) (.tmp 42) rfl u0 44 _ goal rfl (by simp [go_sem]) HI.out hgl.out ?_; intro v2 w2 hI; replace HI := Lib.hid hI; clear hI)
          go_meet
          case rel => exact HI
      case rest =>
        have c0' : wc.cell? ⟨w.heap.size, 0, none⟩ = some (.int .i64 5) := (blk_cell (hcut.out.box hbx.out (by decide)) 0).trans rfl
        have c4' : wc.cell? ⟨w.heap.size, 4, none⟩ = some (.slice A4 ks.length c4) := (blk_cell (hcut.out.box hbx.out (by decide)) 4).trans rfl
        obtain ⟨ad, B3, d3, B4, d4, rfl, e0, e1, e2, e3, e4, q3, p3, q4, p4⟩ := at_Pl G4.out k hkk
        replace e0 := hcut.out.cell e0
        replace e1 := hcut.out.cell e1
        replace e2 := hcut.out.cell e2
        replace e3 := hcut.out.cell e3
        replace e4 := hcut.out.cell e4
        obtain ⟨p, hp⟩ : ∃ z, z = ks.getD k zPl := ⟨_, rfl⟩
        rw [← hp] at e0 e1 e2 e3 e4 q3 p3 q4 p4
        have P3 := Lib.hid p3
        have P4 := Lib.hid p4
        replace hp := Lib.hid hp
        replace q3 := Lib.hid q3
        replace q4 := Lib.hid q4
        clear p3 p4 HD HI
        go_wp2_with fail
        clear e0 e1 e2 e3 e4 c0' c4'
        obtain ⟨acc, hO, hB, hN, he⟩ := hcut.out
        have hmem : p ∈ ks := by rw [hp.out]; exact getD_mem zPl hkk
        have he' : (acc ++ bare (bytesOf s) p) ++ (bareKs (bytesOf s) false (decide (k + 1 = 0)) (ns.drop (k + 1)) (ks.drop (k + 1)) ++ [93]) = goal := by
          rw [← he, hp.out]
          simp [zPl]
        have hl : acc.length + (bare (bytesOf s) p).length ≤ 100000 := by
          have := hgl.out
          rw [← he'] at this
          simp only [List.length_append] at this
          omega
        have hw : k + 1 ≤ 9223372036854775807 := by have := G4.out.2.1; omega
        refine (HK.out p hmem w0 wc B3 B4 d3 d4 u0 acc q3.out P3.out q4.out P4.out hB hO hl (okPs_mem HX.out p hmem)).mono ?_
        intro e' w' hp'
        obtain ⟨v', rfl, hI⟩ := binv_call hO hB hN he' hp'
        replace HI := Lib.hid hI
        clear hp' hI he he' hl hmem hO hB hN hcut
        go_wp2
        go_roundg (gk - 1)
        case rel => exact Lib.hid ⟨k + 1, rfl, by omega, HI.out⟩
        case measure => omega
    · replace HI := Lib.hid (HI.out.eq (show _ = [93] by rw [List.drop_eq_nil_of_le hkk, bareKs_nil]; rfl))
      go_wp2_with (at_builtin; refine binv_num rfl (.tmp 75) (.tmp 77) rfl u0 93 _ goal rfl (by simp [go_sem]) HI.out hgl.out ?_; intro v2 w2 hI; replace HI := Lib.hid hI; clear hI)
      go_ret
      exact (hwb.out ▸ HI.out).done
end Go.Proofs.Ytbnogfljakmfgaa.J
