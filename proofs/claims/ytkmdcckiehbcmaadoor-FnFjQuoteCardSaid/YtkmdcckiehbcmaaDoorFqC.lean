/- The walks of escapeString, of the arena, of MarshalTo at a string. -/
import Derived.Test.YtkmdcckiehbcmaaDoorFqB
import Derived.Test.YtkmdcckiehbcmaaDoorFuB
import Derived.StillTailTactics
import Derived.Lib.LaidU8
set_option linter.unusedVariables false
set_option linter.unusedSimpArgs false
namespace Go.Proofs.YtkmdcckiehbcmaaDoor.J
open Go.RowKit Go.Proofs.YtkmdcckiehbcmaaDoorW.PrintWords Go.Proofs.YtkmdcckiehbcmaaDoorW.PrintLast Go.Proofs.YtkmdcckiehbcmaaDoorW.PrintMore Go.Proofs.YtkmdcckiehbcmaaDoor.Aid

theorem Outp.toF {w0 W : World} {v : Value} {xs : L} (h : Outp w0 W v xs) (hn : 0 < xs.length) : OutF w0 W v xs := by
  obtain ⟨⟨h1, h2⟩, hB⟩ := h
  rcases h2 with ⟨_, h0⟩ | ⟨g, cap, cur, e1, e2, e3, e4, e5, e6, e7⟩
  · omega
  · rw [Nat.mul_one] at e6 e7
    exact ⟨hB, g, cap, cur.toList, e1, e2, ⟨_, 0, 0, by simpa using e3, .inl (Nat.le_refl _)⟩, e4, by simpa using e6.symm, e5, e7⟩
set_option maxHeartbeats 4000000 in
set_option maxRecDepth 100000 in
theorem escs_any (s : ByteArray) (w : World) (hs : s.size ≤ 1000) (hp : (bytesOf s).all pl1 = true ∨ (bytesOf s).all pl2 = true) :
    Calls Tryd.prog 44 #[.slice none 0 0, .string s] w (OuPost w (34 :: (qs (bytesOf s) ++ [34]))) := by
  have HS := Lib.hid (fun W => special_any s W hs)
  have hlen := bytesOf_length s
  cases h1 : (bytesOf s).all pl1 with
  | true =>
    rw [h1] at HS
    have H0 := Lib.hid (Outp.nil (Below.refl w.heap.size w))
    have e : Hid (([34] ++ bytesOf s) ++ [34] = 34 :: (qs (bytesOf s) ++ [34])) := Lib.hid (by rw [pl1_qs h1]; rfl)
    have l1 : ([34] : L).length + s.size ≤ 4294967296 := by simp; omega
    have l2 : ([34] ++ bytesOf s).length + 1 ≤ 4294967296 := by rw [List.length_append, hlen]; simp; omega
    clear hp h1
    go_enter Tryd.func44, Tryd.ntmps44
    go_wp2_with (first
      | (go_at_call 56; refine (HS.out _).mono ?_; rintro e w3 ⟨rfl, hw⟩; replace hw := hw.symm; subst hw)
      | (at_builtin; refine out_num rfl (.tmp 8) (.tmp 9) rfl _ 34 [] rfl (by simp [go_sem]) H0.out (by decide) ?_; intro v1 w1 ho _; have H1 := Lib.hid (ho.toF (by decide)); clear ho)
      | (at_builtin; refine outF_str rfl (.tmp 11) (.tmp 12) rfl _ s [34] rfl rfl H1.out l1 ?_; intro v2 w2 ho; have H2 := Lib.hid ho; clear ho)
      | (at_builtin; refine outF_row rfl (.tmp 14) (.tmp 15) rfl _ [34] ([34] ++ bytesOf s) 1 1 rfl (by simp [go_sem]) rfl H2.out l2 ?_; intro v3 w3 ho; have H3 := Lib.hid ho; clear ho))
    go_ret
    exact ⟨_, rfl, by rw [← e.out]; exact H3.out⟩
  | false =>
    rw [h1] at HS
    have h2 : (bytesOf s).all pl2 = true := hp.resolve_left (by rw [h1]; decide)
    have h0 : 0 < s.size := by
      rcases Nat.eq_zero_or_pos s.size with h | h
      · have : bytesOf s = [] := List.eq_nil_of_length_eq_zero (by omega)
        rw [this] at h1; cases h1
      · exact h
    have HQ := Lib.hid (show ∀ W, Calls Tryd.prog 57 #[.slice none 0 0, .string s] W (OuPost W (34 :: (qs (bytesOf s) ++ [34]))) from fun W => aq_any s W hs h0 h2)
    clear hp h1 h2
    go_enter Tryd.func44, Tryd.ntmps44
    go_wp2_with (first
      | (go_at_call 56; refine (HS.out _).mono ?_; rintro e w3 ⟨rfl, hw⟩; replace hw := hw.symm; subst hw)
      | (go_at_call 57; refine (HQ.out _).mono ?_; rintro e w3 ⟨v1, rfl, ho⟩; have H1 := Lib.hid ho; clear ho))
    go_ret
    exact ⟨_, rfl, H1.out⟩

/-! ### the arena -/
abbrev tV : Nat := 79
abbrev tVs : Nat := 37
abbrev tAr : Nat := 41
def zV : Value := .agg #[.slice none 0 0, .bool false, .slice none 0 0, .string ByteArray.empty, .int .i64 0]
theorem infoV : (Tryd.prog.info? tV).map (fun i => (i.zero, i.size, i.bytes)) = some (some zV, 5, 80) := by kernel_rfl
section
variable {ops : Array Oper} {rest : List Oper} {o : Oper} {a : Act} {Q : Exit → Act → World → Prop}
/-- append(nil, Value) -/
theorem val_append {W : World} (hgd : o.guard = none) (s x : Operand) (ho : o.op = .call { callee := .builtin .append, args := #[s, x], argTypes := #[tVs, tVs] }) (g c : Nat) (Zl : List Value) (hz : Zl.length = 5)
    (hone : ∀ q ∈ Zl, q.oneCell' = true) (hs : a.eval s = .slice none 0 0) (hx : a.eval x = .slice (some ⟨g, 0, none⟩) 1 c) (hlit : ∀ j u, Zl[j]? = some u → W.cell? ⟨g, j, none⟩ = some u)
    (h : ∀ B cap (Z : Array Value) w1, B = W.heap.size → w1.heap[B]? = some (.cells Z tV (0, 0)) → 5 ≤ Z.size → Below W.heap.size W w1 → wpList Tryd.prog ops Q rest (a.put o.dst (.slice (some ⟨B, 0, none⟩) 1 cap)) w1) : wpList Tryd.prog ops Q (o :: rest) a W := by
  obtain ⟨i, hi, hz0, hz1, hz2⟩ := info_parts infoV
  have hsrc : Src Tryd.prog i.size tVs (.slice (some ⟨g, 0, none⟩) 1 c) 1 Zl W := by
    rw [hz1]
    exact Src.ofSlice _ Tryd.underlying37 _ 1 c _ (by rw [hz]) (fun j u hj => by rw [add_plain]; exact hlit j u hj) hone
  have hrun := run_append_grow_src (P := Tryd.prog) W tVs tVs o.type tV i zV Tryd.underlying37 hi hz0 none 0 0 [] (run_firstCells_none _ i.size 0 0 0) (.slice (some ⟨g, 0, none⟩) 1 c) 1 Zl hsrc (by omega) (by omega) (growslice_fits (by omega) (by rw [hz2]; omega))
  refine wpList_plain hgd fun K hK => ?_
  unfold Oper.wp execOp
  simp only [ho, resolve, invoke, builtin, Sem.run_bind, Sem.run_pure, Result.andThen_ok, List.map_toArray, List.map_cons, List.map_nil, hs, hx, hrun]
  refine hK _ _ (h _ _ _ _ rfl (heap_alloc_new W.drew _) ?_ ((below_drew (Below.refl _ _)).alloc (Nat.le_refl _) _))
  simp [hz]
end
theorem one5 : ∀ q ∈ [Value.slice none 0 0, .bool false, .slice none 0 0, .string ⟨#[]⟩, .int .i64 0], q.oneCell' = true := by
  intro q hq
  simp only [List.mem_cons, List.not_mem_nil, or_false] at hq
  rcases hq with rfl | rfl | rfl | rfl | rfl <;> rfl
/-- An arena. -/
structure Ar (w W : World) (A : Nat) (b vs : Value) : Prop where
  cells : W.heap[A]? = some (.cells #[b, vs] tAr (0, 0))
  low : w.heap.size ≤ A
  bel : Below w.heap.size w W
structure Vl (w W : World) (B : Nat) (Z : Array Value) : Prop where
  cells : W.heap[B]? = some (.cells Z tV (0, 0))
  low : w.heap.size ≤ B
  size : 5 ≤ Z.size
theorem Ar.lt {w W : World} {A : Nat} {b vs : Value} (h : Ar w W A b vs) : A < W.heap.size := blk_lt h.cells
theorem Ar.below {w W W' : World} {A : Nat} {b vs : Value} (h : Ar w W A b vs) (k : Below W.heap.size W W') : Ar w W' A b vs := ⟨blk_below h.cells k, h.low, below_step h.bel k⟩
theorem Vl.below {w W W' : World} {B : Nat} {Z : Array Value} (h : Vl w W B Z) (k : Below W.heap.size W W') : Vl w W' B Z := ⟨blk_below h.cells k, h.low, h.size⟩
theorem Vl.set {w W : World} {B : Nat} {Z : Array Value} (h : Vl w W B Z) (i : Nat) (u : Value) : Vl w (W.setCell ⟨B, i, none⟩ u) B (Z.setIfInBounds i u) := ⟨blk_set h.cells i u, h.low, by simp; exact h.size⟩
theorem Vl.far {w W : World} {B : Nat} {Z : Array Value} (h : Vl w W B Z) {p : Addr} (hp : B ≠ p.block) (u : Value) : Vl w (W.setCell p u) B Z := ⟨blk_far h.cells hp u, h.low, h.size⟩
theorem Ar.set0 {w W : World} {A : Nat} {b vs : Value} (h : Ar w W A b vs) (u : Value) : Ar w (W.setCell ⟨A, 0, none⟩ u) A u vs := ⟨blk_set h.cells 0 u, h.low, below_set h.bel h.low⟩
theorem Ar.far {w W : World} {A : Nat} {b vs : Value} (h : Ar w W A b vs) {B j : Nat} (hB : w.heap.size ≤ B) (hp : A ≠ B) (u : Value) : Ar w (W.setCell ⟨B, j, none⟩ u) A b vs := ⟨blk_far h.cells hp u, h.low, below_set h.bel hB⟩
theorem Ar.set1 {w W : World} {A : Nat} {b vs : Value} (h : Ar w W A b vs) (u : Value) : Ar w (W.setCell ⟨A, 1, none⟩ u) A b u := ⟨blk_set h.cells 1 u, h.low, below_set h.bel h.low⟩
set_option maxHeartbeats 4000000 in
set_option maxRecDepth 100000 in
theorem getValue_any (w W : World) (A : Nat) (b : Value) (h : Ar w W A b (.slice none 0 0)) :
    Calls Tryd.prog 43 #[.pointer (some ⟨A, 1, none⟩)] W fun e w' => ∃ B vs Z, e = .returned (.pointer (some ⟨B, 0, none⟩)) ∧ Ar w w' A b vs ∧ Vl w w' B Z ∧ A ≠ B := by
  have HA := Lib.hid h
  have c1 : W.cell? ⟨A, 1, none⟩ = some (.slice none 0 0) := (blk_cell h.cells 1).trans rfl
  have f1 : W.frozen? ⟨A, 1, none⟩ = false := blk_frozen h.cells 1
  clear h
  go_enter Tryd.func43, Tryd.ntmps43
  go_upto_region 1 with (fail)
  go_quiet (fail)
  go_upto_region 4 with (first
    | (refine val_append rfl (.tmp 32) (.tmp 34) rfl W.heap.size 1 [.slice none 0 0, .bool false, .slice none 0 0, .string ⟨#[]⟩, .int .i64 0] rfl one5 rfl rfl (fun j u hj => (blk_cell (blk_new _ (.cells #[.slice none 0 0, .bool false, .slice none 0 0, .string ⟨#[]⟩, .int .i64 0] tV)) j).trans (by simpa using hj)) ?_
       intro B cap Z w1 hB hZ hZs hb
       have HA1 := Lib.hid (((HA.out.below (pw_below_drewN (Below.refl _ _) nq)).below (below_alloc (Below.refl _ _) (.cells #[.slice none 0 0, .bool false, .slice none 0 0, .string ⟨#[]⟩, .int .i64 0] tV))).below hb)
       have hWB : W.heap.size ≤ B := by rw [hB]; simp
       have HZ := Lib.hid (And.intro hZ hZs)
       have d1 : w1.cell? ⟨A, 1, none⟩ = some (.slice none 0 0) := (blk_cell HA1.out.cells 1).trans rfl
       have g1 : w1.frozen? ⟨A, 1, none⟩ = false := blk_frozen HA1.out.cells 1
       clear hZ hZs hb hB))
  have hAB : A ≠ B := by have := HA.out.lt; omega
  have hlow : w.heap.size ≤ B := by have := HA.out.bel.size; omega
  generalize hW4 : World.setCell w1 ⟨A, 1, none⟩ (.slice (some ⟨B, 0, none⟩) 1 cap) = W4
  have HA4 := Lib.hid (show Ar w W4 A b (.slice (some ⟨B, 0, none⟩) 1 cap) by rw [← hW4]; exact HA1.out.set1 _)
  have HV4 := Lib.hid (show Vl w W4 B Z by rw [← hW4]; exact (Vl.mk HZ.out.1 hlow HZ.out.2).far (fun h => hAB h.symm) _)
  have e1 : W4.cell? ⟨A, 1, none⟩ = some (.slice (some ⟨B, 0, none⟩) 1 cap) := (blk_cell HA4.out.cells 1).trans rfl
  clear hW4 d1 g1 c1 f1 HA1
  go_quiet (fail)
  go_wp2
  go_ret
  exact ⟨B, _, Z, rfl, HA4.out.below (pw_below_drewN (Below.refl _ _) _), HV4.out.below (pw_below_drewN (Below.refl _ _) _), hAB⟩
set_option maxHeartbeats 4000000 in
set_option maxRecDepth 100000 in
theorem marshal_any (w W : World) (B : Nat) (Z : Array Value) (r : ByteArray) (h : Vl w W B Z) (h3 : Z[3]? = some (.string r)) (h4 : Z[4]? = some (.int .i64 7)) (hr : r.size ≤ 100000) :
    Calls Tryd.prog 25 #[.pointer (some ⟨B, 0, none⟩), .slice none 0 0] W (OuPost W (34 :: (bytesOf r ++ [34]))) := by
  have c3 : W.cell? ⟨B, 3, none⟩ = some (.string r) := (blk_cell h.cells 3).trans h3
  have c4 : W.cell? ⟨B, 4, none⟩ = some (.int .i64 7) := (blk_cell h.cells 4).trans h4
  have C3 := Lib.hid c3
  have hlen := bytesOf_length r
  have H0 := Lib.hid (Outp.nil (Below.refl W.heap.size W))
  have l1 : ([34] : L).length + r.size ≤ 4294967296 := by simp; omega
  have l2 : ([34] ++ bytesOf r).length + 1 ≤ 4294967296 := by rw [List.length_append, hlen]; simp; omega
  clear h h3 h4 c3
  go_enter Tryd.func25, Tryd.ntmps25
  go_wp2_with (first
    | (at_builtin; refine out_num rfl (.tmp 14) (.tmp 15) rfl _ 34 [] rfl (by simp [go_sem]) H0.out (by decide) ?_; intro v1 w1 ho _; have H1 := Lib.hid (ho.toF (by decide)); have c3 := pw_cell_below H1.out.1 C3.out; clear ho)
    | (at_builtin; refine outF_str rfl (.tmp 17) (.tmp 21) rfl _ r [34] rfl rfl H1.out l1 ?_; intro v2 w2 ho; have H2 := Lib.hid ho; clear ho)
    | (at_builtin; refine outF_row rfl (.tmp 23) (.tmp 24) rfl _ [34] ([34] ++ bytesOf r) 1 1 rfl (by simp [go_sem]) rfl H2.out l2 ?_; intro v3 w3 ho; have H3 := Lib.hid ho; clear ho))
  go_ret
  exact ⟨_, rfl, H3.out⟩
theorem in_string {w : World} {b o c : Nat} {q : L} (h : In w b o q) : (convert tBs 9 (.slice (some ⟨b, o, none⟩) q.length c)).run Tryd.prog w = .ok (.string (strOfNums q)) w :=
  run_convert_bytes_arg (P := Tryd.prog) w tBs tB Tryd.underlying36 Tryd.underlying5 b o q.length c q rfl (fun i hi => by rw [h i hi]) 9 Tryd.underlying9
theorem b2s_in (W : World) (b o c : Nat) (q : L) (h : In W b o q) : Calls Tryd.prog 45 #[.slice (some ⟨b, o, none⟩) q.length c] W fun e w' => e = .returned (.string (strOfNums q)) ∧ w' = W := by
  have ks := in_string (c := c) h
  clear h
  go_enter Tryd.func45, Tryd.ntmps45
  go_wp2
  go_ret
  exact ⟨rfl, rfl⟩
theorem cut_mid (b n c : Nat) (h2 : 2 ≤ n) (hc : n ≤ c) : ∃ o', (∀ W : World, (Instr.slice tBs (.slice (some ⟨b, 0, none⟩) n c) (some (.int .i64 1)) (some (.int .i64 ((n : Int) - 1))) none).run Tryd.prog W = .ok (.slice (some ⟨b, o', none⟩) (n - 2) (c - 1)) W) ∧ o' = 1 := by
  obtain ⟨i, hi, _, hsz, _⟩ := info_parts infoB
  refine ⟨1, fun W => ?_, rfl⟩
  have hel : Tryd.prog.elem tBs = tB := by simp [Program.elem, Tryd.underlying36]
  have hu : Tryd.prog.underlying tBs = some (.slice (Tryd.prog.elem tBs)) := by rw [hel]; exact Tryd.underlying36
  rw [run_slice_lh W tBs _ n c hu .i64 .i64 1 ((n : Int) - 1) (by omega) (by omega) (by omega), hel]
  have e1 : ((n : Int) - 1).toNat = n - 1 := by omega
  have e2 : c ≠ 1 := by omega
  simp [sizeOf, typeInfo, hi, hsz, sliced, Result.andThen, e1, e2]
  constructor
  · unfold Addr.add; simp
  · omega
set_option maxHeartbeats 4000000 in
set_option maxRecDepth 100000 in
theorem newstr_any (w W : World) (A : Nat) (s : ByteArray) (h : Ar w W A (.slice none 0 0) (.slice none 0 0)) (hs : s.size ≤ 1000) (hp : (bytesOf s).all pl1 = true ∨ (bytesOf s).all pl2 = true) :
    Calls Tryd.prog 24 #[.pointer (some ⟨A, 0, none⟩), .string s] W fun e w' => ∃ B Z, e = .returned (.pointer (some ⟨B, 0, none⟩)) ∧ Vl w w' B Z ∧ Z[3]? = some (.string (strOfNums (qs (bytesOf s)))) ∧ Z[4]? = some (.int .i64 7) ∧ Below w.heap.size w w' := by
  have HG := Lib.hid (getValue_any w W A _ h)
  have HE := Lib.hid (show ∀ W, Calls Tryd.prog 44 #[.slice none 0 0, .string s] W (OuPost W (34 :: (qs (bytesOf s) ++ [34]))) from fun W => escs_any s W hs hp)
  have hql := qs_len (bytesOf s)
  rw [bytesOf_length] at hql
  obtain ⟨q, hq⟩ : ∃ q, q = qs (bytesOf s) := ⟨_, rfl⟩
  rw [← hq] at HE hql ⊢
  clear h hp hq
  go_enter Tryd.func24, Tryd.ntmps24
  go_upto_region 2 with (go_at_call 43; refine HG.out.mono ?_; rintro e w1 ⟨B, vs, Z, rfl, hA, hV, hne⟩; have HA := Lib.hid hA; have HV := Lib.hid hV; clear hA hV)
  have b4 := (Array.getElem?_eq_getElem (show 4 < Z.size by have := HV.out.size; omega))
  have k4 := (blk_cell HV.out.cells 4).trans b4
  have f4 := blk_frozen HV.out.cells 4
  go_upto_region 3 with (fail)
  generalize hW2 : World.setCell w1 ⟨B, 4, none⟩ (.int .i64 7) = W2
  have HA2 := Lib.hid (show Ar w W2 A (.slice none 0 0) vs by rw [← hW2]; exact HA.out.far HV.out.low hne _)
  have HV2 := Lib.hid (show Vl w W2 B (Z.setIfInBounds 4 (.int .i64 7)) by rw [← hW2]; exact HV.out.set 4 _)
  have c0 : W2.cell? ⟨A, 0, none⟩ = some (.slice none 0 0) := (blk_cell HA2.out.cells 0).trans rfl
  have hz5 : 5 ≤ Z.size := HV.out.size
  clear hW2 b4 k4 f4 HA HV
  go_upto_region 5 with (go_at_call 44; refine (HE.out _).mono ?_; rintro e W3 ⟨v1, rfl, ho⟩; have HA3 := Lib.hid (HA2.out.below ho.1); have HV3 := Lib.hid (HV2.out.below ho.1); obtain ⟨hB3, g, cp, cur, rfl, hg, hRow, hlc, hcu, hcm, htk⟩ := ho; have d0 : W3.cell? ⟨A, 0, none⟩ = some (.slice none 0 0) := (blk_cell HA3.out.cells 0).trans rfl; have g0 : W3.frozen? ⟨A, 0, none⟩ = false := blk_frozen HA3.out.cells 0; have HI := Lib.hid (In.of_row hRow htk); have hgA : g ≠ A := (by have := HA2.out.lt; omega); obtain ⟨n, hn⟩ : ∃ n, n = (34 :: (q ++ [34])).length := ⟨_, rfl⟩; rw [← hn] at hlc ⊢; have hn2 := Lib.hid (show n = q.length + 2 by rw [hn]; simp); clear hn hB3 hRow hcu hcm htk)
  generalize hW4 : World.setCell W3 ⟨A, 0, none⟩ (.slice (some ⟨g, 0, none⟩) n cp) = W4
  have HA4 := Lib.hid (show Ar w W4 A (.slice (some ⟨g, 0, none⟩) n cp) vs by rw [← hW4]; exact HA3.out.set0 _)
  have HV4 := Lib.hid (show Vl w W4 B (Z.setIfInBounds 4 (.int .i64 7)) by rw [← hW4]; exact HV3.out.far (fun h => hne h.symm) _)
  have HI4 := Lib.hid (show In W4 g 1 q by
    have h1 : In W4 g 0 (34 :: (q ++ [34])) := by
      rw [← hW4]
      exact HI.out.block (Below.heap_setCell W3 _ _ g hgA)
    intro j hj
    have := h1 (j + 1) (by simp; omega)
    rw [show 0 + (j + 1) = 1 + j by omega] at this
    rw [this]
    have e : (34 :: (q ++ [34])).getD (j + 1) 0 = q.getD j 0 := by
      show (q ++ [34]).getD j 0 = _
      rw [List.getD_eq_getElem?_getD, List.getElem?_append_left hj, ← List.getD_eq_getElem?_getD]
    rw [e])
  clear hW4 d0 g0 c0 HA3 HV3 HI HA2 HV2
  refine wp_region_still_tail 17 (by kernel_rfl) (by kernel_rfl) ?_
  simp only [List.take_succ_cons, List.take_zero, List.drop_succ_cons, List.drop_zero]
  have e0 : W4.cell? ⟨A, 0, none⟩ = some (.slice (some ⟨g, 0, none⟩) n cp) := (blk_cell HA4.out.cells 0).trans rfl
  have n2 : 2 ≤ n := by have := hn2.out; omega
  have n3 : n ≤ 3000 := by have := hn2.out; omega
  have n4 : IntKind.i64.wrap ((n : Int) - 1) = (n : Int) - 1 := IntWalk.i64_in _ (by omega)
  have n5 : (n : Int) - 1 ≤ cp := by omega
  have n6 : (1 : Int) ≤ (n : Int) - 1 := by omega
  have n7 : (0 : Int) ≤ (n : Int) - 1 := by omega
  have n9 : max ((n : Int) - 1) 0 = (n : Int) - 1 := by omega
  have n8 : ((n : Int) - 1).toNat - 1 = n - 2 := by omega
  have m1 : cp ≠ 1 := by omega
  have m2 : (1 : Int) ≤ n := by omega
  have m3 : IntKind.i64.wrap 1 = 1 := by decide
  have m4 : (1 : Int) ≤ ((n - 1 : Nat) : Int) := by omega
  have m5 : n - 1 - 1 = n - 2 := by omega
  obtain ⟨o', ksl, ho'⟩ := cut_mid g n cp n2 hlc
  subst ho'
  have HI5 := Lib.hid (show In W4.drew g 1 q from HI4.out.block rfl)
  have HBS := Lib.hid (show Calls Tryd.prog 45 #[.slice (some ⟨g, 1, none⟩) (n - 2) (cp - 1)] W4.drew fun e w' => e = .returned (.string (strOfNums q)) ∧ w' = W4.drew by
    rw [show n - 2 = q.length by have := hn2.out; omega]
    exact b2s_in W4.drew g 1 (cp - 1) q HI5.out)
  repeat still_step
  still_call HBS.out
  repeat still_step
  refine wpStill_nil ?_
  have HV5 := Lib.hid (HV4.out.below (below_drew (Below.refl _ W4)))
  have hb5 := Lib.hid (below_step HA4.out.bel (below_drew (Below.refl _ W4)))
  have b3 := (Array.getElem?_eq_getElem (show 3 < (Z.setIfInBounds 4 (.int .i64 7)).size by simp; omega))
  have k3 := (blk_cell HV4.out.cells 3).trans b3
  have f3 := blk_frozen HV4.out.cells 3
  clear HA4 HV4 HI4 HI5 HBS e0 ksl b3
  go_wp2
  go_ret
  refine ⟨B, _, rfl, HV5.out.set 3 (.string (strOfNums q)), ?_, ?_, below_set hb5.out HV5.out.low⟩
  · rw [Array.getElem?_setIfInBounds_self_of_lt (by simp; omega)]
  · rw [Array.getElem?_setIfInBounds_ne (by decide), Array.getElem?_setIfInBounds_self_of_lt (by omega)]
end Go.Proofs.YtkmdcckiehbcmaaDoor.J
