/- The walks of gjSmall, of gjson.Parse at a quoted text, of GjLess. -/
import Derived.Test.YtbpiooeklkjilaaDoorZGlC
import Derived.Test.YtbpiooeklkjilaaDoorZGlD
import Derived.Test.YtbpiooeklkjilaaDoorZGlE
set_option linter.unusedVariables false
set_option linter.unusedSimpArgs false
namespace Go.Proofs.YtbpiooeklkjilaaDoor.Gl
open Go.RowKit Go.Proofs.YtbpiooeklkjilaaDoorW.PrintWords Go.Proofs.YtbpiooeklkjilaaDoorW.PrintLast Go.Proofs.YtbpiooeklkjilaaDoorW.PrintMore Go.Proofs.YtbpiooeklkjilaaDoor.Aid Go.Proofs.YtbpiooeklkjilaaDoor.J Go.Proofs.YtbpiooeklkjilaaDoor.LessPure

theorem fold_byte {c : Int} (h : 0 ≤ c ∧ c < 256) : 0 ≤ fold c ∧ fold c < 256 := by unfold fold; split <;> omega
theorem run_store_float' (P : Program) (w : World) (a : Addr) (k : FloatKind) (n : Nat) (m : Mode) : (store a (.float k n) m).run P w = stored P w a (.float k n) m := run_store P w a _ m rfl
theorem OutF.at {w W : World} {g n cap : Nat} {xs : L} (h : OutF w W (.slice (some ⟨g, 0, none⟩) n cap) xs) (i : Nat) (hi : i < xs.length) : W.cell? ⟨g, i, none⟩ = some (.int .u8 (xs.getD i 0)) ∧ W.frozen? ⟨g, i, none⟩ = false := by
  have hr := h.reads
  obtain ⟨hB, g', cap', cur, hv, hg, hR, hl, hc, hm, ht⟩ := h
  injection hv with e1 e2 e3
  injection e1 with e1; injection e1 with e1 _ _
  subst e1
  obtain ⟨g2, c2, hv2, hI⟩ := hr
  injection hv2 with e4 e5 e6
  injection e4 with e4; injection e4 with e4 _ _
  subst e4
  exact ⟨by have := hI i hi; rwa [Nat.zero_add] at this, hR.frozen i (by omega)⟩
theorem set_fold (l : L) (i : Nat) (h : i < l.length) : ((l.take i).map fold ++ l.drop i).set i (fold (l.getD i 0)) = (l.take (i + 1)).map fold ++ l.drop (i + 1) := by
  rw [List.set_append_right _ _ (by rw [List.length_map, List.length_take]; omega), List.length_map, List.length_take, Nat.min_eq_left (by omega), Nat.sub_self, List.drop_eq_getElem_cons h, List.set_cons_zero, List.take_add_one, List.map_append, List.append_assoc, List.getElem?_eq_getElem h, List.getD_eq_getElem?_getD, List.getElem?_eq_getElem h]
  rfl
set_option maxHeartbeats 8000000 in
set_option maxRecDepth 100000 in
theorem small_any (s : ByteArray) (hs : s.size ≤ 100000) (w : World) : Calls Tryd.prog 7 #[.string s] w fun e w' => e = .returned (.string (strOfNums ((bytesOf s).map fold))) ∧ Below w.heap.size w w' := by
  have hz := bytesOf_length s
  have HZ := Lib.hid hz
  clear hz
  have kb := print_bytes (P := Tryd.prog) 9 35 5 Tryd.underlying9 Tryd.underlying35 Tryd.underlying5 s w
  obtain ⟨gc, hgc⟩ : ∃ gc, gc = grownCap w s.size 0 5 := ⟨_, rfl⟩
  obtain ⟨w1, hw1⟩ : ∃ w1, w1 = Lib.bytesWorld w 5 s := ⟨_, rfl⟩
  have ho := (OutF.conv w w (Below.refl _ _) s (by omega) s.size (Nat.le_refl _)).1
  rw [← hw1, ← hgc, List.take_of_length_le (by rw [HZ.out]; exact Nat.le_refl _)] at ho
  rw [← hw1, ← hgc] at kb
  have HO := Lib.hid ho
  clear ho hw1 hgc
  go_enter Tryd.func7, Tryd.ntmps7
  go_wp2
  go_loopg [10] s.size (fun kq v10 w' => Hid (∃ i : Nat, v10 = .int .i64 (i : Nat) ∧ i + kq = s.size ∧ OutF w w' (.slice (some ⟨w.heap.size, 0, none⟩) s.size gc) (((bytesOf s).take i).map fold ++ (bytesOf s).drop i)))
  case atStart => exact Lib.hid ⟨0, rfl, by omega, by rw [List.take_zero, List.drop_zero]; exact HO.out⟩
  case round =>
    obtain ⟨i, rfl, hik, ho⟩ := hrel.out
    clear hrel HO
    rcases Nat.lt_or_ge i s.size with hi | hi
    · have HI := Lib.hid (show i < (bytesOf s).length by rw [HZ.out]; exact hi)
      have hc := OutF.at ho i (by rw [List.length_append, List.length_map, List.length_take, List.length_drop, HZ.out]; omega)
      rw [List.getD_eq_getElem?_getD, List.getElem?_append_right (by rw [List.length_map, List.length_take]; omega), List.length_map, List.length_take, Nat.min_eq_left (by have := HI.out; omega), Nat.sub_self, List.getElem?_drop, Nat.add_zero, ← List.getD_eq_getElem?_getD] at hc
      obtain ⟨c, hcd⟩ : ∃ c, c = (bytesOf s).getD i 0 := ⟨_, rfl⟩
      rw [← hcd] at hc
      obtain ⟨e0, fz⟩ := hc
      have hcr : 0 ≤ c ∧ c < 256 := by
        have := bytesOf_range s c (by rw [hcd, List.getD_eq_getElem?_getD, List.getElem?_eq_getElem HI.out]; exact List.getElem_mem _)
        omega
      have HN := Lib.hid (OutF.set ho i (by rw [List.length_append, List.length_map, List.length_take, List.length_drop, HZ.out]; omega) (fold c))
      rw [hcd, set_fold _ _ HI.out, ← hcd] at HN
      have HC := Lib.hid hcd
      have HO := Lib.hid ho
      clear hcd ho
      by_cases h1 : 65 ≤ c ∧ c ≤ 90
      · have hf : fold c = c + 32 := by unfold fold; rw [if_pos h1]
        rw [hf] at HN
        clear hf
        obtain ⟨h1, h2⟩ := h1
        go_wp2
        go_roundg (gk - 1)
        case rel => exact Lib.hid ⟨i + 1, by go_num, by omega, HN.out⟩
        case measure => omega
      · have hf : fold c = c := by unfold fold; rw [if_neg h1]
        have HK := Lib.hid (show OutF w wr (.slice (some ⟨w.heap.size, 0, none⟩) s.size gc) (((bytesOf s).take (i + 1)).map fold ++ (bytesOf s).drop (i + 1)) by
          have h := HO.out
          have e : ((bytesOf s).take i).map fold ++ (bytesOf s).drop i = ((bytesOf s).take (i + 1)).map fold ++ (bytesOf s).drop (i + 1) := by
            have h3 := HI.out
            have h4 : (bytesOf s)[i] = c := by rw [HC.out, List.getD_eq_getElem?_getD, List.getElem?_eq_getElem h3]; rfl
            rw [List.drop_eq_getElem_cons h3, List.take_add_one, List.getElem?_eq_getElem h3, List.map_append, List.append_assoc, h4]
            simp [hf]
          rw [← e]; exact h)
        have h1' : c < 65 ∨ (65 ≤ c ∧ 90 < c) := by omega
        clear h1 hf HN HC HO
        rcases h1' with h1 | ⟨h1, h2⟩
        all_goals
          go_wp2
          go_roundg (gk - 1)
          case rel => exact Lib.hid ⟨i + 1, by go_num, by omega, HK.out⟩
          case measure => omega
    · obtain rfl : i = s.size := by omega
      have e9 : ((bytesOf s).take s.size).map fold ++ (bytesOf s).drop s.size = (bytesOf s).map fold := by
        rw [List.take_of_length_le (by rw [HZ.out]; exact Nat.le_refl _), List.drop_of_length_le (by rw [HZ.out]; exact Nat.le_refl _), List.append_nil]
      rw [e9] at ho
      have ks := out_string ho
      have HB := Lib.hid ho.1
      clear ho e9
      go_wp2
      go_ret
      exact ⟨rfl, HB.out⟩
abbrev tRes : Nat := 32
abbrev zRes : Array Value := #[.int .i64 0, .string { data := #[] }, .string { data := #[] }, .float .f64 0, .int .i64 0, .slice none 0 0]
/-- The blocks of Parse: the result, the value. -/
structure Pw (w W : World) (V : Array Value) : Prop where
  r : W.heap[w.heap.size]? = some (.cells zRes tRes (0, 0))
  v : W.heap[w.heap.size + 1]? = some (.cells V tRes (0, 0))
  b : Below w.heap.size w W
theorem Pw.start (w : World) (V : Array Value) : Pw w ((w.alloc (.cells zRes tRes)).alloc (.cells V tRes)) V where
  r := blk_alloc (blk_new _ _) _
  v := by have := blk_new (w.alloc (.cells zRes tRes)) (.cells V tRes); simpa using this
  b := ((Below.refl _ _).alloc (Nat.le_refl _) _).alloc (by simp) _
theorem Pw.below {w W W' : World} {V : Array Value} (h : Pw w W V) (k : Below W.heap.size W W') : Pw w W' V := ⟨blk_below h.r k, blk_below h.v k, below_then h.b h.b.size k⟩
theorem Pw.set {w W : World} {V : Array Value} (h : Pw w W V) (i : Nat) (u : Value) : Pw w (W.setCell ⟨w.heap.size + 1, i, none⟩ u) (V.setIfInBounds i u) :=
  ⟨blk_far h.r (by show w.heap.size ≠ w.heap.size + 1; omega) u, blk_set h.v i u, h.b.setCell (by simp) u⟩
attribute [local go_sem] run_store_float'
theorem exists_any (raw str : ByteArray) (num : Nat) (i : Int) (W : World) : Calls Tryd.prog 18 #[.agg #[.int .i64 3, .string raw, .string str, .float .f64 num, .int .i64 i, .slice none 0 0]] W fun e w' => e = .returned (.bool true) ∧ Below W.heap.size W w' := by
  go_enter Tryd.func18, Tryd.ntmps18
  go_wp2
  go_ret
  exact ⟨rfl, (Below.refl _ _).alloc (Nat.le_refl _) _⟩
theorem ext_all (s : ByteArray) : s.extract 0 s.size = s := by
  rw [← str_of_bytes (s.extract 0 s.size), by_from, List.drop_zero, str_of_bytes]
set_option maxHeartbeats 8000000 in
set_option maxRecDepth 100000 in
theorem parse_any (s : ByteArray) (x : L) (z : Nat) (hq : Qd s x z) (hl : s.size ≤ 100000) (w : World) :
    Calls Tryd.prog 9 #[.string s] w fun e w' => (∃ raw, e = .returned (.agg #[.int .i64 3, .string raw, .string (strOfNums x), .float .f64 0, .int .i64 0, .slice none 0 0])) ∧ Below w.heap.size w w' := by
  have HT := Lib.hid (fun W => tostr_any s x z hq hl W)
  have hsz : 0 < s.size := by have := hq.size; omega
  have k0 : ∀ W : World, (Instr.index 9 (.string s) (.int .i64 0)).run Tryd.prog W = .ok (.int .u8 34) W := fun W => by
    have h := ix s 0 (by omega) (by omega) W
    have e : bt s 0 = 34 := by
      have h1 := bytesOf_get? s 0 hsz
      rw [hq.txt] at h1
      exact (Option.some.inj h1).symm
    rwa [e] at h
  have k1 : ∀ W : World, (Instr.slice 9 (.string s) (some (.int .i64 0)) none none).run Tryd.prog W = .ok (.string s) W := fun W => by
    have := sl_from s 0 (by omega) W
    rwa [ext_all] at this
  have d0 : decide (0 < s.size) = true := decide_eq_true hsz
  have HP0 := Lib.hid (Pw.start w #[.int .i64 3, .string { data := #[] }, .string { data := #[] }, .float .f64 0, .int .i64 0, .slice none 0 0])
  clear hq hsz
  go_enter Tryd.func9, Tryd.ntmps9
  go_wp2
  refine wp_loop_rounds 1 ?_
  rw [rounds_succ]
  go_wp2_with (first
    | (go_at_call 17; refine (HT.out _).mono ?_; rintro e w1 ⟨⟨raw, rfl⟩, hb⟩; have HX := Lib.hid (HP0.out.below hb); clear hb; have v0 := blk_cell HX.out.v 0; have v1 := blk_cell HX.out.v 1; have v2 := blk_cell HX.out.v 2; have v3 := blk_cell HX.out.v 3; have v4 := blk_cell HX.out.v 4; have v5 := blk_cell HX.out.v 5; have f1 := blk_frozen HX.out.v 1; have f2 := blk_frozen HX.out.v 2)
    | (go_at_call 18; refine (exists_any _ _ _ _ _).mono ?_; rintro e w2 ⟨rfl, hb2⟩; have HY := Lib.hid (((HX.out.set 1 (.string raw)).set 2 (.string (strOfNums x))).below hb2); clear hb2; have y0 := blk_cell HY.out.v 0; have y1 := blk_cell HY.out.v 1; have y2 := blk_cell HY.out.v 2; have y3 := blk_cell HY.out.v 3; have y4 := blk_cell HY.out.v 4; have y5 := blk_cell HY.out.v 5; have f4 := blk_frozen HY.out.v 4; have r0 := blk_cell HY.out.r 0; have r1 := blk_cell HY.out.r 1; have r2 := blk_cell HY.out.r 2; have r3 := blk_cell HY.out.r 3; have r4 := blk_cell HY.out.r 4; have r5 := blk_cell HY.out.r 5; have g0 := blk_frozen HY.out.r 0; have g1 := blk_frozen HY.out.r 1; have g2 := blk_frozen HY.out.r 2; have g3 := blk_frozen HY.out.r 3; have g4 := blk_frozen HY.out.r 4; have g5 := blk_frozen HY.out.r 5))
  refine bodyPost_ret (v := .agg #[.int .i64 3, .string raw, .string (strOfNums x), .float .f64 0, .int .i64 0, .slice none 0 0]) ?_ rfl ?_
  · simp [results, Tryd.results9, go_sem, r0, r1, r2, r3, r4, r5, g0, g1, g2, g3, g4, g5]
  · refine ⟨⟨_, rfl⟩, ?_⟩
    refine (((((((HY.out.b.setCell ?_ _).setCell ?_ _).setCell ?_ _).setCell ?_ _).setCell ?_ _).setCell ?_ _).setCell ?_ _)
    all_goals first | exact Nat.le_refl _ | exact Nat.le_succ _
theorem qd_quote (s : ByteArray) : Qd (strOfNums (34 :: (qs (bytesOf s) ++ [34]))) (bytesOf s) (qs (bytesOf s)).length := by
  have hb : ∀ c ∈ bytesOf s, 0 ≤ c ∧ c < 256 := fun c hc => by have := bytesOf_range s c hc; omega
  have hx : bytesOf (strOfNums (34 :: (qs (bytesOf s) ++ [34]))) = 34 :: (qs (bytesOf s) ++ [34]) := bytes_of_str _ (fun c hc => by
    rcases List.mem_cons.1 hc with rfl | hc
    · decide
    rcases List.mem_append.1 hc with hc | hc
    · exact qs_byt hb c hc
    · rw [List.mem_singleton.1 hc]; decide)
  exact ⟨hb, hx, rfl, by rw [← bytesOf_length, hx]; simp⟩
end Go.Proofs.YtbpiooeklkjilaaDoor.Gl
