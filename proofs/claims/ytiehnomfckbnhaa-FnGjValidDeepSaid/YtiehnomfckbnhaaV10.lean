/- The walk of the law FnGjValidDeep. -/
import Derived.Test.YtiehnomfckbnhaaV9
import Derived.Laws.MakeOwn
import Derived.Deep.Quiet
import Derived.BigQuiet
set_option linter.unusedVariables false
set_option linter.unusedSimpArgs false
namespace Go.Proofs.Ytiehnomfckbnhaa.J
open Go.RowKit Go.Proofs.YtiehnomfckbnhaaW.PrintWords Go.Proofs.YtiehnomfckbnhaaW.PrintLast Go.Proofs.YtiehnomfckbnhaaW.PrintMore Go.Proofs.Ytiehnomfckbnhaa.Aid

set_option maxHeartbeats 4000000 in
set_option maxRecDepth 100000 in
theorem stringBytes_any (s : ByteArray) (w : World) :
    Calls Try.prog 20 #[.string s] w fun e w' => e = .returned (.slice (some ⟨w.heap.size, 0, none⟩) s.size (grownCap w s.size 0 5)) ∧ w' = Lib.bytesWorld w 5 s := by
  have kb := print_bytes (P := Try.prog) 9 29 5 Try.underlying9 Try.underlying29 Try.underlying5 s w
  go_enter Try.func20, Try.ntmps20
  go_wp2
  go_ret
  exact ⟨rfl, rfl⟩
set_option maxHeartbeats 4000000 in
set_option maxRecDepth 100000 in
theorem Valid_any (s : ByteArray) (hs : s.size ≤ 2147483647) (w : World) :
    Calls Try.prog 11 #[.string s] w fun e w' => e = .returned (.bool (good (bytesOf s))) ∧ Below w.heap.size w w' := by
  have HB := Lib.hid (show Below w.heap.size w (Lib.bytesWorld w 5 s) from bytes_below (Below.refl _ _) (Nat.le_refl _) _ _)
  have HP := payload_any _ w.heap.size (grownCap w s.size 0 5) (bytesOf s) (at_bytes w s hs)
  rw [bytesOf_length] at HP
  replace HP := Lib.hid HP
  have HS := Lib.hid (stringBytes_any s w)
  go_enter Try.func11, Try.ntmps11
  go_wp2_with fail
  refine HS.out.mono ?_
  rintro e w' ⟨rfl, hw⟩
  rw [← hw] at HP HB
  clear hw HS
  go_wp2_with fail
  refine HP.out.mono ?_
  rintro e w' ⟨j, rfl, rfl⟩
  go_wp2
  go_ret
  exact ⟨rfl, HB.out⟩
set_option maxHeartbeats 4000000 in
set_option maxRecDepth 100000 in
theorem GjValid_any (s : ByteArray) (hs : s.size ≤ 2147483647) (w : World) :
    Calls Try.prog 7 #[.string s] w fun e w' => e = .returned (.bool (good (bytesOf s))) ∧ Below w.heap.size w w' := by
  have HP := Lib.hid (Valid_any s hs w)
  go_enter Try.func7, Try.ntmps7
  go_wp2_with fail
  refine HP.out.mono ?_
  rintro e w' ⟨rfl, hb⟩
  go_wp2
  go_ret
  exact ⟨rfl, hb⟩

/-- The row of 2n bytes in block g, its first k (of each half) written. -/
def fill (n k j : Nat) : Int := if j < k then 91 else if n ≤ j ∧ j < n + k then 93 else 0
def Row (w W : World) (n k : Nat) : Prop := ∃ cs, W.heap[w.heap.size]? = some (.cells cs 5 (0, 0)) ∧ (∀ j, j < 2 * n → cs[j]? = some (.int .u8 (fill n k j))) ∧ Below w.heap.size w W
theorem Row.step {w W : World} {n k : Nat} (h : Row w W n k) (hk : k < n) : Row w ((W.setCell ⟨w.heap.size, k, none⟩ (.int .u8 91)).setCell ⟨w.heap.size, n + k, none⟩ (.int .u8 93)) n (k + 1) := by
  obtain ⟨cs, hb, hc, hB⟩ := h
  refine ⟨_, blk_set (blk_set hb k _) (n + k) _, ?_, (hB.setCell (Nat.le_refl _) _).setCell (Nat.le_refl _) _⟩
  intro j hj
  have hk0 := hc j hj
  have hj' : j < cs.size := (Array.getElem?_eq_some_iff.1 hk0).1
  rw [Array.getElem?_setIfInBounds, Array.getElem?_setIfInBounds]
  by_cases e1 : n + k = j
  · subst e1
    rw [if_pos rfl, if_pos (by simpa using hj')]
    unfold fill
    rw [if_neg (by omega), if_pos (by omega)]
  · rw [if_neg e1]
    by_cases e2 : k = j
    · subst e2
      rw [if_pos rfl, if_pos hj']
      unfold fill
      rw [if_pos (by omega)]
    · rw [if_neg e2, hk0]
      have : fill n (k + 1) j = fill n k j := by
        unfold fill
        by_cases a : j < k
        · rw [if_pos a, if_pos (by omega)]
        · rw [if_neg a, if_neg (by omega)]
          by_cases b : n ≤ j ∧ j < n + k
          · rw [if_pos b, if_pos (by omega)]
          · rw [if_neg b, if_neg (by omega)]
      rw [this]
theorem Row.cell {w W : World} {n k j : Nat} (h : Row w W n k) (hj : j < 2 * n) : W.cell? ⟨w.heap.size, j, none⟩ = some (.int .u8 (fill n k j)) := by
  obtain ⟨cs, hb, hc, hB⟩ := h
  exact (blk_cell hb j).trans (hc j hj)
theorem Row.frozen {w W : World} {n k : Nat} (h : Row w W n k) (j : Nat) : W.frozen? ⟨w.heap.size, j, none⟩ = false := by
  obtain ⟨cs, hb, hc, hB⟩ := h
  exact blk_frozen hb j
theorem Row.below {w W W' : World} {n k : Nat} (h : Row w W n k) (hb' : Below W.heap.size W W') : Row w W' n k := by
  obtain ⟨cs, hb, hc, hB⟩ := h
  exact ⟨cs, blk_below hb hb', hc, below_then hB hB.size hb'⟩
theorem Row.bel {w W : World} {n k : Nat} (h : Row w W n k) : Below w.heap.size w W := by
  obtain ⟨cs, hb, hc, hB⟩ := h
  exact hB
theorem opn_get (a b i : Nat) (h : i < a + b) : (opn a (cls b)).getD i 0 = if i < a then 91 else 93 := by
  rw [List.getD_eq_getElem?_getD]
  unfold opn cls
  by_cases e : i < a
  · rw [if_pos e, List.getElem?_append_left (by simpa using e), List.getElem?_replicate, if_pos e]; rfl
  · rw [if_neg e, List.getElem?_append_right (by simpa using e), List.length_replicate, List.getElem?_replicate, if_pos (by omega)]; rfl
theorem opn_range (a b : Nat) : ∀ x ∈ opn a (cls b), 0 ≤ x ∧ x < 256 := by
  intro x hx
  unfold opn cls at hx
  rcases List.mem_append.1 hx with h | h
  · rw [List.eq_of_mem_replicate h]; omega
  · rw [List.eq_of_mem_replicate h]; omega
/-- string(text[off:off+a+b]). -/
theorem conv (w W : World) (n off a b cap m : Nat) (hm : m = a + b) (h : Row w W n n) (hr : off + (a + b) ≤ 2 * n) (ha : off + a = n) :
    (convert 29 9 (.slice (some ⟨w.heap.size, off, none⟩) m cap)).run Try.prog W = .ok (.string (strOfNums (opn a (cls b)))) W := by
  subst hm
  refine run_convert_bytes_arg (P := Try.prog) W 29 5 Try.underlying29 Try.underlying5 w.heap.size off (a + b) cap (opn a (cls b)) (by rw [opn_length]; unfold cls; simp) ?_ 9 Try.underlying9
  intro i hi
  rw [h.cell (by omega), opn_get a b i hi]
  congr 2
  unfold fill
  by_cases e : i < a
  · rw [if_pos e, if_pos (by omega)]
  · rw [if_neg e, if_neg (by omega), if_pos (by omega)]
theorem valid_of (a b : Nat) (hab : a + b ≤ 10000) (W : World) : Calls Try.prog 7 #[.string (strOfNums (opn a (cls b)))] W fun e w' => e = .returned (.bool (good (opn a (cls b)))) ∧ Below W.heap.size W w' := by
  have e := bytes_of_str _ (opn_range a b)
  have hs : (strOfNums (opn a (cls b))).size = a + b := by
    rw [← bytesOf_length, e, opn_length]; unfold cls; simp
  have := GjValid_any (strOfNums (opn a (cls b))) (by rw [hs]; omega) W
  rwa [e] at this

set_option maxHeartbeats 4000000 in
set_option maxRecDepth 100000 in
theorem law_deep (deep : Int) (w : World) {p : Prop} (hd : p) :
    Calls Try.prog 4 #[.int .i64 deep] w fun e w' => e = .returned (.bool true) ∧ Below w.heap.size w w' := by
  by_cases h1 : deep < 1
  · go_enter Try.func4, Try.ntmps4
    go_wp2
    go_ret
    exact ⟨rfl, Below.refl _ _⟩
  by_cases h2 : 4096 < deep
  · go_enter Try.func4, Try.ntmps4
    go_wp2
    go_ret
    exact ⟨rfl, Below.refl _ _⟩
  obtain ⟨n, rfl⟩ : ∃ n : Nat, deep = n := ⟨deep.toNat, by omega⟩
  have hn1 : 1 ≤ n := by omega
  have hn2 : n ≤ 4096 := by omega
  clear h1 h2 hd
  obtain ⟨i0, hi, hzz⟩ := Option.map_eq_some_iff.1 (show (Try.prog.info? 5).map (fun i => (i.zero, i.size, i.bytes)) = some (some (.int .u8 0), 1, 1) by kernel_rfl)
  simp only [Prod.mk.injEq] at hzz
  obtain ⟨hz0, hz1, hz2⟩ := hzz
  have hrun := run_make (P := Try.prog) w 29 5 i0 _ Try.underlying29 hi hz0 .i64 .i64 (2 * (n : Int)) (2 * (n : Int)) (by omega) (Int.le_refl _) (by rw [hz2]; omega) (by omega)
  have en : (2 * (n : Int)).toNat = 2 * n := by omega
  rw [en, hz1, Nat.mul_one] at hrun
  obtain ⟨w1, hw1⟩ : ∃ z, z = w.alloc (.cells (madeCells (Value.int .u8 0).cells (2 * n)) 5) := ⟨_, rfl⟩
  rw [← hw1] at hrun
  have HR := Lib.hid (show Row w w1 n 0 from ⟨_, by rw [hw1]; exact heap_alloc_new w _, (by
    intro j hj
    have hsz := size_madeCells (Value.int .u8 0).cells (2 * n)
    rw [Array.getElem?_eq_getElem (by omega)]
    have hf : fill n 0 j = 0 := by unfold fill; rw [if_neg (by omega), if_neg (by omega)]
    rw [hf]
    simp [madeCells, Value.cells, Nat.mod_one]), by rw [hw1]; exact below_alloc (Below.refl _ _) _⟩)
  clear hw1 hi hz0 hz1 hz2 en
  go_enter Try.func4, Try.ntmps4
  go_wp2
  clear hrun
  go_loopg [4] n (fun kq v w' => Hid (∃ k : Nat, v = .int .i64 (k : Int) ∧ k + kq = n ∧ Row w w' n k))
  case atStart => exact Lib.hid ⟨0, rfl, by omega, HR.out⟩
  case round =>
    obtain ⟨k, rfl, hkq, hR⟩ := hrel.out
    have HR2 := Lib.hid hR
    clear hrel hR HR
    rcases Nat.lt_or_ge k n with hk | hk
    · have c1 := HR2.out.cell (j := k) (by omega)
      have c2 := HR2.out.cell (j := n + k) (by omega)
      have f1 := HR2.out.frozen k
      have f2 := HR2.out.frozen (n + k)
      go_wp2
      go_roundg (gk - 1)
      case rel => exact Lib.hid ⟨k + 1, by go_num, by omega, HR2.out.step hk⟩
      case measure => omega
    · obtain rfl : n = k := by omega
      have kc := conv w wr n 0 n n (2 * n) (2 * n) (by omega) HR2.out (by omega) (by omega)
      have V1 := Lib.hid (valid_of n n (by omega))
      rw [show good (opn n (cls n)) = true by obtain ⟨m, rfl⟩ : ∃ m, n = m + 1 := ⟨n - 1, by omega⟩; exact good_nest m] at V1
      go_wp2_with fail
      refine (V1.out _).mono ?_
      rintro e w2 ⟨rfl, hb2⟩
      have HR3 := Lib.hid (HR2.out.below hb2)
      clear kc hb2
      have kc := conv w w2 n 1 (n - 1) n (2 * n - 1) (2 * n - 1) (by omega) HR3.out (by omega) (by omega)
      have V2 := Lib.hid (valid_of (n - 1) n (by omega))
      rw [show good (opn (n - 1) (cls n)) = false by obtain ⟨m, rfl⟩ : ∃ m, n = m + 1 := ⟨n - 1, by omega⟩; exact good_less m] at V2
      go_wp2_with fail
      refine (V2.out _).mono ?_
      rintro e w3 ⟨rfl, hb3⟩
      have HR4 := Lib.hid (HR3.out.below hb3)
      clear kc hb3
      have kc := conv w w3 n 0 n (n - 1) (2 * n) (2 * n - 1) (by omega) HR4.out (by omega) (by omega)
      have V3 := Lib.hid (valid_of n (n - 1) (by omega))
      rw [show good (opn n (cls (n - 1))) = false by obtain ⟨m, rfl⟩ : ∃ m, n = m + 1 := ⟨n - 1, by omega⟩; exact good_more m] at V3
      go_wp2_with fail
      refine (V3.out _).mono ?_
      rintro e w4 ⟨rfl, hb4⟩
      have HR5 := Lib.hid (HR4.out.below hb4)
      clear kc hb4
      go_wp2
      go_ret
      exact ⟨rfl, HR5.out.bel⟩
end Go.Proofs.Ytiehnomfckbnhaa.J
