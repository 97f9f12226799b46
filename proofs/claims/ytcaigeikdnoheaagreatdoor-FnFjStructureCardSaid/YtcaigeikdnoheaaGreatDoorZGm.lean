/- Several texts in one. -/
import Derived.Test.YtcaigeikdnoheaaGreatDoorZGc
import Derived.Test.YtcaigeikdnoheaaGreatDoorZWTab
import Derived.Deep.DrawnRows
import Derived.Test.YtcaigeikdnoheaaGreatDoorZGl
import Derived.Test.YtcaigeikdnoheaaGreatDoorZFp5
import Derived.Test.YtcaigeikdnoheaaGreatDoorZGk
set_option linter.unusedVariables false
set_option linter.unusedSimpArgs false
namespace Go.Proofs.YtcaigeikdnoheaaGreatDoor.J
open Go.RowKit Go.Proofs.YtcaigeikdnoheaaGreatDoorW.PrintWords Go.Proofs.YtcaigeikdnoheaaGreatDoorW.PrintLast Go.Proofs.YtcaigeikdnoheaaGreatDoorW.PrintMore Go.Proofs.YtcaigeikdnoheaaGreatDoor.Aid

theorem own_cell {w : World} {base : Nat} {e : TypeId} {size n g cap : Nat} {xs : List Value} (h : w.ownsRow base e size (.slice (some ⟨g, 0, none⟩) n cap) n xs) (i : Nat) (hi : i < xs.length) : w.cell? ⟨g, i, none⟩ = some xs[i] ∧ w.frozen? ⟨g, i, none⟩ = false := by
  obtain ⟨hl, ⟨hv, _⟩ | ⟨g', cap', cur, hv, hb, hh, hn, hm, hc, ht⟩⟩ := h
  · cases hv
  · injection hv with e1 e2 e3
    injection e1 with e1; injection e1 with e1 _ _
    subst e1
    refine ⟨?_, blk_frozen hh i⟩
    rw [blk_cell hh i]
    have hcl : i < cur.toList.length := by
      have := congrArg List.length ht
      rw [List.length_take] at this
      omega
    have h1 : (cur.toList.take (n * size))[i]? = some xs[i] := by rw [ht]; exact List.getElem?_eq_getElem hi
    rw [List.getElem?_take] at h1
    split at h1
    · rw [← Array.getElem?_toList]; exact h1
    · cases h1
theorem own_at {w : World} {base : Nat} {e : TypeId} {size n g cap : Nat} {xs : List Value} (h : w.ownsRow base e size (.slice (some ⟨g, 0, none⟩) n cap) n xs) : base ≤ g ∧ ∃ cur, w.heap[g]? = some (.cells cur e (0, 0)) := by
  obtain ⟨hl, ⟨hv, _⟩ | ⟨g', cap', cur, hv, hb, hh, hn, hm, hc, ht⟩⟩ := h
  · cases hv
  · injection hv with e1 e2 e3
    injection e1 with e1; injection e1 with e1 _ _
    subst e1
    exact ⟨hb, cur, hh⟩
theorem own_set {w : World} {base : Nat} {e : TypeId} {size n g cap : Nat} {xs : List Value} (h : w.ownsRow base e size (.slice (some ⟨g, 0, none⟩) n cap) n xs) (i : Nat) (u : Value) : (w.setCell ⟨g, i, none⟩ u).ownsRow base e size (.slice (some ⟨g, 0, none⟩) n cap) n (xs.set i u) := by
  obtain ⟨hl, ⟨hv, _⟩ | ⟨g', cap', cur, hv, hb, hh, hn, hm, hc, ht⟩⟩ := h
  · cases hv
  · injection hv with e1 e2 e3
    injection e1 with e1; injection e1 with e1 _ _
    subst e1; subst e3
    refine ⟨by rw [List.length_set]; exact hl, .inr ⟨g, cap, cur.setIfInBounds i u, rfl, hb, blk_set hh i u, hn, hm, by simpa using hc, ?_⟩⟩
    rw [Array.toList_setIfInBounds, List.take_set, ht]
theorem own_slice {w : World} {base : Nat} {e : TypeId} {size n : Nat} {v : Value} {xs : List Value} (h : w.ownsRow base e size v (n + 1) xs) : ∃ g cap, v = .slice (some ⟨g, 0, none⟩) (n + 1) cap := by
  obtain ⟨hl, ⟨_, hv⟩ | ⟨g', cap', cur, hv, hb, hh, hn, hm, hc, ht⟩⟩ := h
  · cases hv
  · exact ⟨_, _, hv⟩
theorem set4 {xs : List Value} {m : Nat} (hm : xs.length = m) (a b c d a' b' c' d' : Value) : ((((xs ++ [a, b, c, d]).set m a').set (m + 1) b').set (m + 2) c').set (m + 3) d' = xs ++ [a', b', c', d'] := by
  subst hm
  rw [List.set_append_right _ _ (Nat.le_refl _), List.set_append_right _ _ (by omega), List.set_append_right _ _ (by omega), List.set_append_right _ _ (by omega)]
  simp
theorem grown_set {W w1 : World} {row : Option Nat} (h : W.grownBy w1 row) {g : Nat} (hg : row = some g ∨ W.heap.size ≤ g) (i : Nat) (u : Value) : W.grownBy (w1.setCell ⟨g, i, none⟩ u) row :=
  ⟨h.os, h.tape, h.output, by simpa [World.setCell] using h.size, fun k hk hne => (Below.heap_setCell w1 ⟨g, i, none⟩ u k (by
    show k ≠ g
    rintro rfl
    rcases hg with hg | hg
    · exact hne hg.symm
    · omega)).trans (h.block k hk hne)⟩
theorem setCell_comm (w : World) (a b : Addr) (h : a.block ≠ b.block) (u v : Value) : (w.setCell a u).setCell b v = (w.setCell b v).setCell a u := by
  simp only [World.setCell]
  congr 1
  apply Array.ext_getElem?
  intro i
  simp only [Array.getElem?_modify]
  by_cases h1 : b.block = i
  · by_cases h2 : a.block = i
    · exact absurd (h2.trans h1.symm) h
    · simp [h1, h2]
  · by_cases h2 : a.block = i
    · simp [h1, h2]
    · simp [h1, h2]
section
variable {P : Program} {ops : Array Oper} {o : Oper} {a : Act} {Q : Exit → Act → World → Prop} {K : Act → World → Prop}
theorem step_append_box {w0 W : World} (base : Nat) (hw : Region.wanted o (yielded ops a.tmps) = true) (s x : Operand) (t e : TypeId) (z : Value) (size bytes : Nat)
    (ho : o.op = .call { callee := .builtin .append, args := #[s, x], argTypes := #[t, t] })
    (ht : P.underlying t = some (.slice e)) (hinfo : (P.info? e).map (fun i => (i.zero, i.size, i.bytes)) = some (some z, size, bytes)) (hz : z.cells.size = size) (hs0 : 0 < size) (hb0 : 0 < bytes)
    (v : Value) (n g : Nat) (xs ys : List Value) (hs : a.eval s = v) (hx : a.eval x = .slice (some ⟨g, 0, none⟩) 1 1) (hbox : W.heap[g]? = some (.cells ys.toArray e (0, 0))) (hys : ys.length = size) (h1 : ∀ u ∈ ys, u.oneCell' = true)
    (HO : W.ownsRow base e size v n xs) (HB : Below base w0 W) (hbase : base ≤ W.heap.size) (hl : (n + 1) * bytes ≤ 140737488355328)
    (h : ∀ v1 w1, w1.ownsRow base e size v1 (n + 1) (xs ++ ys) → Below base w0 w1 → W.grownBy w1 v.ownBlock → (v1.ownBlock = v.ownBlock ∨ ∃ b, v1.ownBlock = some b ∧ W.heap.size ≤ b) → K (a.put o.dst v1) w1) :
    if Region.wanted o (yielded ops a.tmps) = true then Oper.wp P o a W K Q else K (a.put o.dst undef) W := by
  obtain ⟨i0, hi, hzz⟩ := Option.map_eq_some_iff.1 hinfo
  simp only [Prod.mk.injEq] at hzz
  obtain ⟨hz0, hz1, hz2⟩ := hzz
  have hlen : n + 1 ≤ 140737488355328 := Nat.le_trans (Nat.le_mul_of_pos_right _ hb0) hl
  rw [if_pos hw]
  obtain ⟨v1, w1, hr, hown, hg, _, hat⟩ := run_append_own_at (P := P) W base t o.type e i0 z size bytes ht hi hz0 hz1 hz2 hz hs0 v n xs HO ⟨g, 0, none⟩ 1 1 ys (by rw [hys]; simp)
    (by simpa using World.news_of_block hbox) h1 (by simp only [maxLen]; omega) hl hbase
  unfold Oper.wp execOp
  simp only [ho, resolve, invoke, builtin, Sem.run_bind, Sem.run_pure, Result.andThen_ok, List.map_toArray, List.map_cons, List.map_nil, hs, hx, hr]
  refine h v1 w1 hown (HB.grown hg hbase (own_base HO)) hg ?_
  rcases hat with hat | hat
  · exact .inl hat
  · exact .inr ⟨_, hat, Nat.le_refl _⟩
end
section
variable {P : Program} {md : Region.Mode} {ops : Array Oper} {Q : Exit → Act → World → Prop} {S : World → Prop} {ds : List Nat}
theorem twoL_ {i j : Nat} {Ni Nj : Option Tmp} {oi oj : Oper} {fuel : Nat} {l : Array Bool} {a : Act} {w : World} (li lj : Array Bool) (hi : ops[i]? = some oi) (hj : ops[j]? = some oj) (hNi : oi.dst = Ni) (hNj : oj.dst = Nj)
    (hc : (Region.ready md ops l == [i, j] && l.setIfInBounds i true == li && l.setIfInBounds j true == lj) = true) (hdi : i ∈ ds) (hdj : j ∈ ds)
    (h1 : ∀ K : Act → World → Prop, Shut (∀ a' w', wpAnyLast P md ops Q S ds fuel li a' w' → K a' w') → if Region.wanted oi (yielded ops a.tmps) = true then Oper.wp P oi a w K Q else K (a.put Ni undef) w)
    (h2 : ∀ K : Act → World → Prop, Shut (∀ a' w', wpAnyLast P md ops Q S ds fuel lj a' w' → K a' w') → if Region.wanted oj (yielded ops a.tmps) = true then Oper.wp P oj a w K Q else K (a.put Nj undef) w) :
    wpAnyLast P md ops Q S ds (fuel + 1) l a w := by
  subst hNi
  subst hNj
  simp only [Bool.and_eq_true, beq_iff_eq] at hc
  obtain ⟨⟨h3, h4⟩, h5⟩ := hc
  subst h4
  subst h5
  exact wpAnyLast_ready h3 (by simp) (AllReadyL.cons_last hi hdi (fun K hK => h1 K hK) (AllReadyL.cons_last hj hdj (fun K hK => h2 K hK) AllReadyL.nil))
end
end Go.Proofs.YtcaigeikdnoheaaGreatDoor.J

set_option linter.unusedVariables false
set_option linter.unusedSimpArgs false
namespace Go.Proofs.YtcaigeikdnoheaaGreatDoor.Fp
open Go.RowKit Go.Proofs.YtcaigeikdnoheaaGreatDoorW.PrintWords Go.Proofs.YtcaigeikdnoheaaGreatDoorW.PrintLast Go.Proofs.YtcaigeikdnoheaaGreatDoorW.PrintMore Go.Proofs.YtcaigeikdnoheaaGreatDoor.Aid Go.Proofs.YtcaigeikdnoheaaGreatDoor.J

set_option maxRecDepth 100000 in
theorem get0_any (W : World) (b o : Nat) : Calls Tryz.prog 101 #[.pointer (some ⟨b, o, none⟩), .slice none 0 0] W fun e w' => e = .returned (.pointer (some ⟨b, o, none⟩)) ∧ w' = W := by
  go_enter Tryz.func101, Tryz.ntmps101
  go_wp2
  refine wp_loop_rounds 1 ?_
  rw [rounds_succ]
  go_wp2
  go_ret
  exact ⟨rfl, rfl⟩
set_option maxRecDepth 100000 in
theorem getObj_any (W : World) (b o : Nat) (h : W.cell? ⟨b, o + 4, none⟩ = some (.int .i64 1)) : Calls Tryz.prog 72 #[.pointer (some ⟨b, o, none⟩), .slice none 0 0] W fun e w' => e = .returned (.pointer (some ⟨b, o, none⟩)) ∧ w' = W := by
  go_enter Tryz.func72, Tryz.ntmps72
  go_wp2_with (go_at_call 101; refine (get0_any _ _ _).mono ?_; rintro e w1 ⟨rfl, rfl⟩)
  go_ret
  exact ⟨rfl, rfl⟩
set_option maxRecDepth 100000 in
theorem getArr_any (W : World) (b o : Nat) (v : Option Addr) (n c : Nat) (h : W.cell? ⟨b, o + 4, none⟩ = some (.int .i64 2)) (h2 : W.cell? ⟨b, o + 2, none⟩ = some (.slice v n c)) : Calls Tryz.prog 74 #[.pointer (some ⟨b, o, none⟩), .slice none 0 0] W fun e w' => e = .returned (.slice v n c) ∧ w' = W := by
  go_enter Tryz.func74, Tryz.ntmps74
  go_wp2_with (go_at_call 101; refine (get0_any _ _ _).mono ?_; rintro e w1 ⟨rfl, rfl⟩)
  go_ret
  exact ⟨rfl, rfl⟩
set_option maxRecDepth 100000 in
theorem getStr_any (W : World) (b o : Nat) (s : ByteArray) (h : W.cell? ⟨b, o + 4, none⟩ = some (.int .i64 3)) (h3 : W.cell? ⟨b, o + 3, none⟩ = some (.string s)) : Calls Tryz.prog 75 #[.pointer (some ⟨b, o, none⟩), .slice none 0 0] W fun e w' => e = .returned (.slice (some ⟨W.heap.size, 0, none⟩) s.size (grownCap W s.size 0 tB)) ∧ w' = Lib.bytesWorld W tB s := by
  have HT := Lib.hid (type_plain W b o 3 h (by decide))
  go_enter Tryz.func75, Tryz.ntmps75
  go_wp2_with (first
    | (go_at_call 101; refine (get0_any _ _ _).mono ?_; rintro e w1 ⟨rfl, rfl⟩)
    | (go_at_call 70; refine HT.out.mono ?_; rintro e w1 ⟨rfl, rfl⟩)
    | (go_at_call 102; refine (s2b_any s _).mono ?_; rintro e w2 ⟨rfl, rfl⟩))
  go_ret
  exact ⟨rfl, rfl⟩
theorem outp_conv7 {B : Nat} {W : World} {v : Value} {xs : L} (h : W.ownsRow B 5 1 v xs.length (nums .u8 xs)) : (convert 30 9 v).run Tryz.prog W = .ok (.string (strOfNums xs)) W := own_string Tryz.underlying30 Tryz.underlying5 Tryz.underlying9 h
theorem own_shape7 {B : Nat} {W : World} {v : Value} {xs : L} (h : W.ownsRow B 5 1 v xs.length (nums .u8 xs)) : ∃ base c, v = .slice base xs.length c := by
  rcases h.2 with ⟨e, h0⟩ | ⟨g, cap, cur, e1, _⟩
  · exact ⟨none, 0, by rw [e, h0]⟩
  · exact ⟨_, _, e1⟩
theorem bytes_back (W : World) (s : ByteArray) (hs : s.size ≤ 2147483647) : (convert tBs 9 (.slice (some ⟨W.heap.size, 0, none⟩) s.size (grownCap W s.size 0 tB))).run Tryz.prog (Lib.bytesWorld W tB s) = .ok (.string s) (Lib.bytesWorld W tB s) := by
  have h := out_string (OutF.conv W W (Below.refl _ _) s hs s.size (Nat.le_refl _)).1
  rw [List.take_of_length_le (by rw [bytesOf_length]; exact Nat.le_refl _), str_of_bytes] at h
  exact h
theorem Ch.new {w0 W W1 : World} {P : Nat → Nat → Prop} (h : Ch w0 P W W1) (hl : w0.heap.size ≤ W.heap.size) {i j : Nat} (hi : W.heap.size ≤ i) (u : Value) : Ch w0 P W (W1.setCell ⟨i, j, none⟩ u) :=
  ⟨h.os, h.tape, h.output, by simpa [World.setCell] using h.size, fun k hk => (Below.heap_setCell W1 ⟨i, j, none⟩ u k (by show k ≠ i; omega)).trans (h.low k hk),
    fun k m hk hn => (World.cell?_setCell_other _ _ _ _ (fun e => by injection e with e1 e2 _; omega)).trans (h.cell k m hk hn), fun k t ht => (h.ty k t ht).set _ _ _,
    fun k hk hn => (Below.heap_setCell W1 ⟨i, j, none⟩ u k (by show k ≠ i; omega)).trans (h.blk k hk hn)⟩
abbrev zNd : Array Value := #[.int .i64 0, .string { data := #[] }, .slice none 0 0, .slice none 0 0]
/-- A call that makes a node: its result's block. -/
structure Ns (w0 W : World) (O : Nat → Nat → Prop) (W' : World) (N : Array Value) : Prop where
  r : W'.heap[W.heap.size]? = some (.cells N tNd (0, 0))
  c : Ch w0 O W W'
  l : w0.heap.size ≤ W.heap.size
section
variable {w0 W W1 W2 : World} {O O1 : Nat → Nat → Prop} {N : Array Value}
theorem Ns.start (hl : w0.heap.size ≤ W.heap.size) (N : Array Value) : Ns w0 W O (W.alloc (.cells N tNd)) N := ⟨blk_new _ _, (Ch.refl _ _ _).below hl (below_alloc (Below.refl _ _) _), hl⟩
theorem Ns.below (h : Ns w0 W O W1 N) (k : Below W1.heap.size W1 W2) : Ns w0 W O W2 N := ⟨blk_below h.r k, h.c.below h.l k, h.l⟩
theorem Ns.ch (h : Ns w0 W O W1 N) (k : Ch w0 O1 W1 W2) (hO : ∀ i j, O1 i j → O i j ∧ i < W.heap.size) : Ns w0 W O W2 N :=
  ⟨(k.blk _ (blk_lt h.r) (fun j q => by have := (hO _ _ q).2; omega)).trans h.r, h.c.trans (k.mono fun i j q => (hO i j q).1), h.l⟩
theorem Ns.set (h : Ns w0 W O W1 N) (i : Nat) (u : Value) : Ns w0 W O (W1.setCell ⟨W.heap.size, i, none⟩ u) (N.setIfInBounds i u) := ⟨blk_set h.r i u, h.c.new h.l (Nat.le_refl _) u, h.l⟩
end
/-- What fjNode hands back. -/
def NPost (w0 W : World) (S : Nat) (O : Nat → Nat → Prop) (x : Tn) (e : Ending) (w' : World) : Prop := ∃ A2 c2 A3 c3, Ch w0 O W w' ∧ Kd.string.R tSt w' W.heap.size (fun _ => True) (.slice A2 x.keys.length c2) x.keys ∧ kTn.R tNd w' W.heap.size (fun _ => True) (.slice A3 x.kids.length c3) x.kids ∧
  e = .returned (.agg #[.int .i64 x.kind, .string x.text, .slice A2 x.keys.length c2, .slice A3 x.kids.length c3])
def NT (t : T) : Prop := ∀ (w0 W : World) (S b o : Nat) (O : Nat → Nat → Prop), S ≤ W.heap.size → Below w0.heap.size w0 W → ErrV w0 → (∀ i j, O i j → i < S ∧ w0.heap.size ≤ i) → rep W O t b o → okN t → okT t → (out t).length ≤ 90000 →
  Calls Tryz.prog 37 #[.pointer (some ⟨b, o, none⟩)] W (NPost w0 W S O (tn t))
theorem npost_leaf {w0 W W' : World} {S : Nat} {O : Nat → Nat → Prop} {N : Array Value} (h : Ns w0 W O W' N) (k : Int) (x : ByteArray) : NPost w0 W S O ⟨k, x, [], []⟩ (.returned (.agg #[.int .i64 k, .string x, .slice none 0 0, .slice none 0 0])) W' :=
  ⟨none, 0, none, 0, h.c, Kd.R_nil _ _ _ _ _, Kd.R_nil _ _ _ _ _, rfl⟩
set_option maxHeartbeats 4000000 in
set_option maxRecDepth 100000 in
theorem ntLeaf (k : Int) (a : L) : NT (.leaf k a) := by
  intro w0 W S b o O hS hbel hE hO hr hN hk hl
  rw [okN] at hN
  rw [okT] at hk
  obtain ⟨hkk, hR⟩ := hk
  rw [rep] at hr
  obtain ⟨⟨hv, ho5⟩, ⟨h3, o3⟩, h4, o4⟩ := hr
  have hbS := hO _ _ o4
  have hb1 : Below W.heap.size W (W.alloc (.cells zNd tNd)) := below_alloc (Below.refl _ _) _
  replace h3 := pw_cell_below hb1 h3
  replace h4 := pw_cell_below hb1 h4
  replace hv := hv.below hb1
  have hbel1 := below_step hbel hb1
  have hz1 : (W.alloc (.cells zNd tNd)).heap.size = W.heap.size + 1 := by simp
  have HS0 := Lib.hid (Ns.start (O := O) hbel.size zNd)
  have HSN := Lib.hid (fun N => Ns.start (O := O) (W := W) hbel.size N)
  rcases hkk with rfl | rfl | rfl | rfl | rfl
  · have ha := hN rfl
    have hla : a.length ≤ 100000 := by rw [out, if_pos rfl] at hl; simp at hl; omega
    have hlone : J.lone a = false := raw_lone ha
    have HT := Lib.hid (type_str w0 (W.alloc (.cells zNd tNd)) b o a hR hla hlone hv h3 h4 hbS.2 hbel1 (hE.below hbel1))
    have hkl : (strOfNums (kp a)).size ≤ 2147483647 := by
      have := kp_len _ a (Nat.le_refl _)
      rw [sz_of]; omega
    obtain ⟨q, hq⟩ : ∃ q, q = strOfNums (kp a) := ⟨_, rfl⟩
    have HQ := Lib.hid (show tn (.leaf 7 a) = ⟨4, q, [], []⟩ by rw [tn, if_neg (by decide), if_pos rfl, hq])
    rw [← hq] at HT hkl
    rw [HQ.out]
    have HKL := Lib.hid hkl
    have HOO : Hid (∀ i j, P7 b o i j → O i j ∧ i < W.heap.size) := Lib.hid (fun i j h => by
      obtain ⟨rfl, h | h⟩ := h
      · rw [h]; exact ⟨o3, by omega⟩
      · rw [h]; exact ⟨o4, by omega⟩)
    clear hbel hE hN hR hl ha hla hlone hq h3 h4 hv hO o3 o4 hb1 hbel1 hz1 hkl
    go_enter Tryz.func37, Tryz.ntmps37
    go_wp2_with (first
      | (go_at_call 70; refine HT.out.mono ?_; rintro e w1 ⟨rfl, hch, c3, c4⟩; have HC := Lib.hid (HS0.out.ch hch HOO.out); have HG := Lib.hid (getStr_any w1 b o q c4 c3); clear hch c3 c4)
      | (go_at_call 75; refine HG.out.mono ?_; rintro e w2 ⟨rfl, hw2⟩; have ks := bytes_back w1 q HKL.out; rw [← hw2] at ks; have HD := Lib.hid (HC.out.below (W2 := w2) (by rw [hw2]; exact Lib.bytesWorld_below _ _ _)); clear hw2; have r0 := blk_cell HD.out.r 0; have r1 := blk_cell HD.out.r 1; have r2 := blk_cell HD.out.r 2; have r3 := blk_cell HD.out.r 3; have g0 := blk_frozen HD.out.r 0; have g1 := blk_frozen HD.out.r 1; have g2 := blk_frozen HD.out.r 2; have g3 := blk_frozen HD.out.r 3))
    refine bodyPost_ret (v := .agg #[.int .i64 4, .string q, .slice none 0 0, .slice none 0 0]) ?_ rfl ?_
    · simp [results, Tryz.results37, go_sem, r0, r1, r2, r3, g0, g1, g2, g3]
    · exact npost_leaf ((((HD.out.set 0 _).set 1 _).set 2 _).set 3 _) 4 q
  · have HM := Lib.hid (mt_all (.leaf 4 a) b o (W.alloc (.cells zNd tNd)) (W.alloc (.cells zNd tNd)) (.slice none 0 0) [] (by rw [okT]; exact ⟨.inr (.inl rfl), hR⟩) (Outp.nil (Below.refl _ _)) (by rw [rep]; exact ⟨⟨hv, ho5⟩, ⟨h3, by show _ < _; omega⟩, h4, by show _ < _; omega⟩) (by simp; omega))
    rw [List.nil_append, show out (.leaf 4 a) = a by rw [out, if_neg (by decide), if_pos rfl]] at HM
    have HT := Lib.hid (type_plain (W.alloc (.cells zNd tNd)) b o 4 h4 (by decide))
    have HQ := Lib.hid (show tn (.leaf 4 a) = ⟨3, strOfNums a, [], []⟩ by rw [tn, if_pos rfl])
    rw [HQ.out]
    clear hbel hE hN hR hl h3 h4 hv hO o3 o4 hb1 hbel1 hz1
    go_enter Tryz.func37, Tryz.ntmps37
    go_wp2_with (first
      | (go_at_call 70; refine HT.out.mono ?_; rintro e w1 ⟨rfl, rfl⟩)
      | (go_at_call 29; refine HM.out.mono ?_; rintro e w2 ⟨v, rfl, ho⟩; have HD := Lib.hid (HS0.out.below ho.2); obtain ⟨base, cc, rfl⟩ := own_shape7 ho.1; have kc := outp_conv7 ho.1; clear ho; have r0 := blk_cell HD.out.r 0; have r1 := blk_cell HD.out.r 1; have r2 := blk_cell HD.out.r 2; have r3 := blk_cell HD.out.r 3; have g0 := blk_frozen HD.out.r 0; have g1 := blk_frozen HD.out.r 1; have g2 := blk_frozen HD.out.r 2; have g3 := blk_frozen HD.out.r 3))
    refine bodyPost_ret (v := .agg #[.int .i64 3, .string (strOfNums a), .slice none 0 0, .slice none 0 0]) ?_ rfl ?_
    · simp [results, Tryz.results37, go_sem, r0, r1, r2, r3, g0, g1, g2, g3]
    · exact npost_leaf ((((HD.out.set 0 _).set 1 _).set 2 _).set 3 _) 3 _
  all_goals
    have HT := Lib.hid (type_plain (W.alloc (.cells zNd tNd)) b o _ h4 (by decide))
    clear h3 h4
    go_enter Tryz.func37, Tryz.ntmps37
    go_wp2_with (go_at_call 70; refine HT.out.mono ?_; rintro e w1 ⟨rfl, rfl⟩)
    try rw [show tn (.leaf 5 a) = ⟨2, ⟨#[]⟩, [], []⟩ by rw [tn, if_neg (by decide), if_neg (by decide), if_pos rfl]]
    try rw [show tn (.leaf 6 a) = ⟨1, ⟨#[]⟩, [], []⟩ by rw [tn, if_neg (by decide), if_neg (by decide), if_neg (by decide), if_pos rfl]]
    try rw [show tn (.leaf 0 a) = ⟨0, ⟨#[]⟩, [], []⟩ by rw [tn, if_neg (by decide), if_neg (by decide), if_neg (by decide), if_neg (by decide)]]
  · refine bodyPost_ret (v := .agg #[.int .i64 2, .string { data := #[] }, .slice none 0 0, .slice none 0 0]) ?_ rfl ?_
    · simp [results, Tryz.results37, go_sem]
    · exact npost_leaf (HSN.out _) 2 _
  · refine bodyPost_ret (v := .agg #[.int .i64 1, .string { data := #[] }, .slice none 0 0, .slice none 0 0]) ?_ rfl ?_
    · simp [results, Tryz.results37, go_sem]
    · exact npost_leaf (HSN.out _) 1 _
  · refine bodyPost_ret (v := .agg #[.int .i64 0, .string { data := #[] }, .slice none 0 0, .slice none 0 0]) ?_ rfl ?_
    · simp [results, Tryz.results37, go_sem]
    · exact npost_leaf (HSN.out _) 0 _
end Go.Proofs.YtcaigeikdnoheaaGreatDoor.Fp

set_option linter.unusedVariables false
set_option linter.unusedSimpArgs false
namespace Go.Proofs.YtcaigeikdnoheaaGreatDoor.Fp
open Go.RowKit Go.Proofs.YtcaigeikdnoheaaGreatDoorW.PrintWords Go.Proofs.YtcaigeikdnoheaaGreatDoorW.PrintLast Go.Proofs.YtcaigeikdnoheaaGreatDoorW.PrintMore Go.Proofs.YtcaigeikdnoheaaGreatDoor.Aid Go.Proofs.YtcaigeikdnoheaaGreatDoor.J

def NTL : TL → Prop
  | .nil => True
  | .cons t l => NT t ∧ NTL l
theorem outL_le (t : T) (l : TL) : (out t).length ≤ (outL (.cons t l)).length ∧ (outL l).length ≤ (outL (.cons t l)).length := by
  cases l with
  | nil => rw [outL1, outL]; simp
  | cons u m => rw [outL2]; simp; omega
theorem outL_lenT : ∀ l : TL, l.len ≤ (outL l).length + 1
  | .nil => by rw [TL.len]; omega
  | .cons t .nil => by rw [TL.len, TL.len]; omega
  | .cons t (.cons u m) => by
    have := outL_lenT (.cons u m)
    rw [TL.len, outL2]; simp only [List.length_append, List.length_cons]; omega
theorem Ch.above {w0 W W1 W2 : World} {P : Nat → Nat → Prop} (h : Ch w0 P W W1) (hl : w0.heap.size ≤ W.heap.size) (k : Below W.heap.size W1 W2) : Ch w0 P W W2 :=
  ⟨k.os.trans h.os, k.tape.trans h.tape, k.output.trans h.output, Nat.le_trans h.size k.size, fun i hi => (k.block i (by omega)).trans (h.low i hi),
    fun i j hi hp => (World.cell?_of_block (k.block i hi)).trans (h.cell i j hi hp), fun i t ht => by
      obtain ⟨Z, hZ⟩ := h.ty i t ht
      exact ⟨Z, (k.block i ht.lt).trans hZ⟩, fun i hi hn => (k.block i hi).trans (h.blk i hi hn)⟩
/-- What a call leaves alone. -/
theorem rest_keep {w0 W wr w1 w2 : World} {S : Nat} {O1 O2 : Nat → Nat → Prop} (h : Ch w0 O1 wr w1) (k : Below W.heap.size w1 w2) (hS : S ≤ W.heap.size) (hW : W.heap.size ≤ wr.heap.size) (hO : ∀ i j, O2 i j → i < S ∧ ¬ O1 i j) : Keep wr O2 w2 O2 := fun i j q => by
  obtain ⟨a, b⟩ := hO i j q
  refine ⟨q, (World.cell?_of_block (k.block i (by omega))).trans (h.cell i j (by omega) b), fun t ht => ?_⟩
  obtain ⟨Z, hZ⟩ := h.ty i t ht
  exact ⟨Z, (k.block i (by omega)).trans hZ⟩
/-- Where the loop stands. -/
def FL (w0 W : World) (O : Nat → Nat → Prop) (l : TL) (g kq : Nat) (v : Value) (w' : World) : Prop := ∃ A c' acc i l2 Or, v = .slice A (acc : List Tn).length c' ∧ tnL l = acc ++ tnL l2 ∧ i + l2.len = l.len ∧ kq = l2.len ∧ repL w' Or l2 g i ∧ (∀ x y, Or x y → O x y) ∧ Ch w0 O W w' ∧ kTn.R tNd w' W.heap.size (fun _ => True) (.slice A acc.length c') acc ∧ NTL l2 ∧ okNL l2 ∧ okL l2 ∧ (outL l2).length ≤ 90000
set_option maxHeartbeats 4000000 in
set_option maxRecDepth 100000 in
theorem fjNodes_any (l : TL) (hl : NTL l) (w0 W : World) (S g c : Nat) (O : Nat → Nat → Prop) (hS : S ≤ W.heap.size) (hbel : Below w0.heap.size w0 W) (hE : ErrV w0) (hO : ∀ i j, O i j → i < S ∧ w0.heap.size ≤ i) (hr : repL W O l g 0) (hN : okNL l) (hk : okL l) (hln : (outL l).length ≤ 90000) :
    Calls Tryz.prog 73 #[slc g l.len c] W fun e w' => ∃ A c', e = .returned (.slice A (tnL l).length c') ∧ Ch w0 O W w' ∧ kTn.R tNd w' W.heap.size (fun _ => True) (.slice A (tnL l).length c') (tnL l) := by
  obtain ⟨n, hn⟩ : ∃ n, n = l.len := ⟨_, rfl⟩
  rw [← hn]
  have HN := Lib.hid hn
  clear hn
  obtain ⟨base, cc, hsl⟩ : ∃ base cc, slc g n c = .slice base n cc := by
    unfold slc
    by_cases h : n = 0
    · rw [if_pos h, h]; exact ⟨_, _, rfl⟩
    · rw [if_neg h]; exact ⟨_, _, rfl⟩
  have HS := Lib.hid hsl
  rw [hsl]
  clear hsl
  go_enter Tryz.func73, Tryz.ntmps73
  go_wp2
  have HE := Lib.hid (And.intro hE hbel)
  have HA3 := Lib.hid (show l.len ≤ 90001 by have := outL_lenT l; omega)
  have HO := Lib.hid hO
  have HS2 := Lib.hid hS
  have H0 := Lib.hid (show FL w0 W O l g n (.slice none 0 0) W from ⟨none, 0, [], 0, l, O, rfl, rfl, by omega, HN.out, hr, fun _ _ h => h, Ch.refl _ _ _, Kd.R_nil _ _ _ _ _, hl, hN, hk, hln⟩)
  clear hE hbel hO hS hr hl hN hk hln
  go_loopg [3, 8] n (fun kq v3 v8 w' => Hid (FL w0 W O l g kq v3 w' ∧ v8 = .int .i64 ((n : Int) - kq) ∧ kq ≤ n))
  case atStart => exact Lib.hid ⟨H0.out, by go_num, Nat.le_refl _⟩
  case round =>
    obtain ⟨⟨A, c', acc, i, l2, Or, rfl, hacc, hil, hik, hr, hor, hch, hR, hl, hN, hk, hln⟩, rfl, hkn⟩ := hrel.out
    clear hrel H0
    have hin : i + gk = n := by rw [HN.out, hik]; exact hil
    have e8 : (n : Int) - gk = (i : Nat) := by omega
    rw [e8]
    clear e8 hil
    cases l2 with
    | nil =>
      rw [TL.len] at hik
      rw [tnL, List.append_nil] at hacc
      subst hik
      have HR := Lib.hid hR
      have HC := Lib.hid hch
      have HA := Lib.hid hacc
      clear hr hor hch hR hl hN hk hln hacc
      go_wp2
      go_ret
      rw [HA.out]
      exact ⟨_, _, rfl, HC.out, HR.out⟩
    | cons t l2 =>
      rw [TL.len] at hik
      rw [repL] at hr
      obtain ⟨hgt, b, o, X, ⟨hp, hgi⟩, hrt, hrl⟩ := hr
      rw [NTL] at hl
      rw [okNL] at hN
      rw [okL] at hk
      have hle := outL_le t l2
      obtain rfl : base = some ⟨g, 0, none⟩ := by
        have := HS.out
        unfold slc at this
        rw [if_neg (by omega)] at this
        injection this with e; exact e.symm
      have hE2 := HE.out
      have hWr : W.heap.size ≤ wr.heap.size := hch.size
      have HF := Lib.hid (hl.1 w0 wr S b o _ (Nat.le_trans HS2.out hWr) (hch.bel hE2.2) hE2.1 (fun x y q => HO.out x y (hor x y q.1)) hrt hN.1 hk.1 (by omega))
      have hii : i < n := by omega
      have hnn : n ≤ 90001 := by rw [HN.out]; exact HA3.out
      have HA := Lib.hid hacc
      have HR := Lib.hid hR
      have HX := Lib.hid (And.intro hrl (And.intro hor (And.intro hch (And.intro hl.2 (And.intro hN.2 (And.intro hk.2 (show (outL l2).length ≤ 90000 by omega)))))))
      have HK := Lib.hid (And.intro hik hin)
      have hown : ∀ k, wr.heap.size ≤ k → some k ≠ (Value.slice A acc.length c').ownBlock := by
        intro k hk he
        obtain ⟨inner, ho⟩ := Kd.R_own hR
        have := own_lt ho k he.symm
        omega
      have HOW := Lib.hid hown
      have hal : acc.length ≤ 100000 := by
        have := HA3.out
        have h5 := tnL_len (.cons t l2)
        have h6 := tnL_len l
        rw [HA.out, List.length_append, h5, TL.len] at h6
        omega
      obtain ⟨z, hz⟩ : ∃ z, z = tn t := ⟨_, rfl⟩
      rw [← hz] at HF
      have HZ := Lib.hid hz
      clear hl hN hk hln hle hacc hR hrl hor hch hrt hgt hgi hE2 hik hin hown hz
      go_wp2_with (first
        | (go_at_call 37; refine HF.out.mono ?_; rintro e w1 ⟨A2, c2, A3, c3, hch1, h2, h3, rfl⟩; have hz0 := hch1.size; have HR1 := Lib.hid (R_from HR.out (fun k hk hlt => hch1.blk k hlt (fun j q => by have h7 := (HO.out _ _ (HX.out.2.1 _ _ q.1)).1; have h8 := HS2.out; omega))); have HM := Lib.hid (kTn.M_lower hWr (Kd.M_mono kTn (fun k hk => hk.2.1) (kTn.M_bound (kTn_mkM _ _ _ z h2 h3)))); have HC1 := Lib.hid hch1; clear hch1 h2 h3)
        | (at_builtin; refine Kd.R_append kTn (w0 := w1) W.heap.size rfl (.tmp 12) (.tmp 15) 23 tNd _ 72 rfl Tryz.underlying23 infoTn rfl (by decide) (by decide) _ acc z [.int .i64 z.kind, .string z.text, .slice A2 z.keys.length c2, .slice A3 z.kids.length c3] (fun _ => True) (fun k => wr.heap.size ≤ k) rfl (by simp [go_sem]) HM.out (fun k hk => ⟨trivial, HOW.out k hk⟩) (fun _ _ => trivial) HR1.out (Below.refl _ _) (by omega) (by omega) ?_; intro v1 w2 hR2 hB2 hg2 hat2; have HR2 := Lib.hid hR2; have HB2 := Lib.hid hB2; clear hR2 hB2 hg2 hat2))
      obtain ⟨acc1, hA1⟩ : ∃ z1, z1 = acc ++ [z] := ⟨_, rfl⟩
      rw [← hA1] at HR2
      have HA1 := Lib.hid hA1
      clear hA1
      obtain ⟨A7, c7, rfl⟩ := Kd.R_slice HR2.out
      go_roundg (gk - 1)
      case rel =>
        obtain ⟨hrl, hor, hch, hl2, hN2, hk2, hln2⟩ := HX.out
        obtain ⟨hik, hin⟩ := HK.out
        refine Lib.hid ⟨⟨A7, c7, acc1, i + 1, l2, _, rfl, ?_, ?_, by omega, repL_keep (rest_keep HC1.out HB2.out HS2.out hWr (fun x y q => ⟨(HO.out x y (hor x y q.1)).1, ?_⟩)) _ _ _ hrl, fun x y q => hor x y q.1, ?_, HR2.out, hl2, hN2, hk2, hln2⟩, by go_num, by omega⟩
        · rw [HA.out, HA1.out, HZ.out, tnL]; simp
        · rw [← HN.out]; omega
        · rintro ⟨q1, q2, q3⟩
          rcases q.2 with h | h
          · exact q2 h
          · exact h q3
        · exact (hch.trans (HC1.out.mono fun x y q => hor x y q.1)).above HE.out.2.size HB2.out
      case measure => have := HK.out; omega
end Go.Proofs.YtcaigeikdnoheaaGreatDoor.Fp
