/- Several texts in one. -/
import Derived.Test.YtcaigeikdnoheaaGreatDoorZGc
import Derived.Deep.RegionHeld3
import Derived.Deep.DrawnRows
import Derived.Test.YtcaigeikdnoheaaGreatDoorZWTab
set_option linter.unusedVariables false
set_option linter.unusedSimpArgs false
namespace Go.Proofs.YtcaigeikdnoheaaGreatDoor.J
open Go.RowKit Go.Proofs.YtcaigeikdnoheaaGreatDoorW.PrintWords Go.Proofs.YtcaigeikdnoheaaGreatDoorW.PrintLast Go.Proofs.YtcaigeikdnoheaaGreatDoorW.PrintMore Go.Proofs.YtcaigeikdnoheaaGreatDoor.Aid

def Tr.T10 : Bool × List (List Nat × List Nat) := (true, [([], []), ([0], [0]), ([], []), ([], []), ([3], [3]), ([], []), ([4, 5], [4, 5]), ([6], [6]), ([7], [7]), ([], []), ([9], [9]), ([], []), ([10, 11], [10, 11]), ([12], [12]), ([13], [13]), ([2, 8, 14], [2, 8, 14]), ([15], [15]), ([16], [16]), ([1, 17, 16], [1, 17]), ([0, 1, 2, 3, 4, 5, 6, 7, 8, 9, 10, 11, 12, 13, 14, 15, 16, 17, 18], []), ([19, 18, 18, 0, 1, 2, 3, 4, 5, 6, 7, 8, 9, 10, 11, 12, 13, 14, 15, 16, 17, 18], [18, 19])])
def Tr.B10 : List Nat := [0, 1, 0, 0, 8, 0, 56, 120, 248, 0, 512, 0, 3584, 7680, 15872, 32764, 65532, 131068, 262143, 524287, 1048575]
theorem Tr.tab10 : rtab .any (opsOf Tryz.f39 10) = Tr.T10 := by kernel_rfl
theorem Tr.bits10 : waitsOk Tr.T10.2 Tr.B10 = true := by kernel_rfl
def Tr.T14 : Bool × List (List Nat × List Nat) := (true, [([], []), ([0], [0]), ([], []), ([], []), ([3], [3]), ([], []), ([4, 5], [4, 5]), ([6], [6]), ([2, 7], [2, 7]), ([8], [8]), ([1, 9, 8], [1, 9]), ([0, 1, 2, 3, 4, 5, 6, 7, 8, 9, 10], []), ([11, 10, 10, 0, 1, 2, 3, 4, 5, 6, 7, 8, 9, 10], [10, 11])])
def Tr.B14 : List Nat := [0, 1, 0, 0, 8, 0, 56, 120, 252, 508, 1023, 2047, 4095]
theorem Tr.tab14 : rtab .any (opsOf Tryz.f39 14) = Tr.T14 := by kernel_rfl
theorem Tr.bits14 : waitsOk Tr.T14.2 Tr.B14 = true := by kernel_rfl
theorem key_any (s : ByteArray) (b e : Int) (W : World) (hs : s.size ≤ 2147483647) (h : okQ s b e) : Calls Tryz.prog 76 #[.string (s.extract b.toNat e.toNat)] W fun e' w' => e' = .returned (.string (quo (cut s b e))) ∧ Below W.heap.size W w' := by
  obtain ⟨⟨h0, h1, h2⟩, hw⟩ := h
  have hz : (cut s b e).size = e.toNat - b.toNat := by unfold cut; rw [ByteArray.size_extract]; omega
  exact Unquote_any (cut s b e) W (by omega) (by omega) hw
theorem keys_snoc (s : ByteArray) (ns : List Sp) (k : Nat) (h : k < ns.length) : (ns.take (k + 1)).map (key s) = (ns.take k).map (key s) ++ [key s (ns.getD k zSp)] := by
  rw [List.take_add_one, List.map_append, List.getElem?_eq_getElem h, List.getD_eq_getElem?_getD, List.getElem?_eq_getElem h]; rfl
theorem kids_snoc (s : ByteArray) (ks : List Pl) (k : Nat) (h : k < ks.length) : (ks.take (k + 1)).map (tree s) = (ks.take k).map (tree s) ++ [tree s (ks.getD k zPl)] := by
  rw [List.take_add_one, List.map_append, List.getElem?_eq_getElem h, List.getD_eq_getElem?_getD, List.getElem?_eq_getElem h]; rfl

theorem getD_mem {α : Type} {xs : List α} {k : Nat} (d : α) (h : k < xs.length) : xs.getD k d ∈ xs := by
  rw [List.getD_eq_getElem?_getD, List.getElem?_eq_getElem h]; exact List.getElem_mem h
theorem cell_far (W : World) (a : Addr) (u : Value) (p : Addr) (h : p.block ≠ a.block) : (W.setCell a u).cell? p = W.cell? p := World.cell?_of_block (Below.heap_setCell W a u _ h)
theorem string_E : ∀ q, q ∈ tSt :: Kd.string.E → q ≠ tNd := by
  intro q hq
  have : q = tSt := by simpa [Kd.string, Kd.scalar] using hq
  subst this; decide
theorem Tw.cast {w W : World} {N N' P : Array Value} (h : Tw w W N P) (e : N = N') : Tw w W N' P := e ▸ h
theorem tree_done {w W : World} {k : Int} {x : ByteArray} {N P : Array Value} {A A' : Option Addr} {c c' : Nat} {keys : List ByteArray} {kids : List Tn} {ok : Nat → Prop} (hT : Tw w W N P) (h3 : Kd.string.R tSt W (w.heap.size + 3) (fun _ => True) (.slice A keys.length c) keys) (h4 : kTn.R tNd W (w.heap.size + 3) ok (.slice A' kids.length c') kids) (W' : World) (hS : Sets w.heap.size W W') :
    TPost w ⟨k, x, keys, kids⟩ (.returned (.agg #[.int .i64 k, .string x, .slice A keys.length c, .slice A' kids.length c'])) W' :=
  ⟨A, c, A', c', ⟨hS.os.trans hT.b.os, hS.tape.trans hT.b.tape, hS.output.trans hT.b.output, by rw [hS.size]; exact hT.b.size, fun j hj => (hS.block j (by omega) (by omega)).trans (hT.b.block j hj)⟩, hS.R h3 (by omega), hS.R (Kd.R_mono h4 (fun _ _ => trivial)) (by omega), rfl⟩
/-- The first loop: k names are taken. -/
def T1 (w W : World) (s : ByteArray) (K : Int) (x : ByteArray) (P : Array Value) (ns : List Sp) (k : Nat) : Prop := ∃ A c acc, acc = (ns.take k).map (key s) ∧ Tw w W #[.int .i64 K, .string x, .slice A (acc : List ByteArray).length c, .slice none 0 0] P ∧ Kd.string.R tSt W (w.heap.size + 3) (fun _ => True) (.slice A acc.length c) acc
/-- The second one. -/
def T2 (w W : World) (s : ByteArray) (K : Int) (x : ByteArray) (P : Array Value) (keys : List ByteArray) (ks : List Pl) (k : Nat) : Prop := ∃ A c A' c' acc, acc = (ks.take k).map (tree s) ∧ Tw w W #[.int .i64 K, .string x, .slice A keys.length c, .slice A' (acc : List Tn).length c'] P ∧ Kd.string.R tSt W (w.heap.size + 3) (fun _ => True) (.slice A keys.length c) keys ∧
  kTn.R tNd W (w.heap.size + 3) (fun k => True ∧ some k ≠ (Value.slice A keys.length c).ownBlock) (.slice A' acc.length c') acc

set_option maxHeartbeats 8000000 in
set_option maxRecDepth 100000 in
theorem tree_step (s : ByteArray) (hs : s.size ≤ 2147483647) (k b e : Int) (ns : List Sp) (ks : List Pl) (hk : ∀ p ∈ ks, TreeC s p) (hok : okT s ⟨k, b, e, ns, ks⟩) : TreeC s ⟨k, b, e, ns, ks⟩ := by
  intro w A3 A4 c3 c4 h3 g3 h4 g4
  rw [okT] at hok
  obtain ⟨⟨⟨h0, h1, h2⟩, hnl, hkl⟩, hq, hn, _⟩ := hok
  rw [tree_eq, trees_map]
  have ksl := slice_strI s b e h0 h1 h2
  have HK := Lib.hid hk
  have HN := Lib.hid hn
  have G3 := Lib.hid g3
  have G4 := Lib.hid g4
  clear hk hn g3 g4 h0 h1 h2
  have E3 : Hid (k = 3 → txt s k b e = s.extract b.toNat e.toNat) := Lib.hid (fun h => by subst h; rfl)
  have E4 : Hid (k = 4 → txt s k b e = quo (cut s b e)) := Lib.hid (fun h => by subst h; rfl)
  have E0 : Hid (k ≠ 3 → k ≠ 4 → txt s k b e = ⟨#[]⟩) := Lib.hid (fun h h' => by unfold txt; rw [if_neg h, if_neg h'])
  obtain ⟨x, hx⟩ : ∃ x, x = txt s k b e := ⟨_, rfl⟩
  rw [← hx] at E3 E4 E0 ⊢
  have HQ : Hid (k = 4 → ∀ W, Calls Tryz.prog 76 #[.string (s.extract b.toNat e.toNat)] W fun e' w' => e' = .returned (.string x) ∧ Below W.heap.size W w') := Lib.hid (fun h W => by rw [E4.out h]; exact key_any s b e W hs (hq h))
  clear hq hx E4
  have hc : k = 3 ∨ k = 4 ∨ (k ≠ 3 ∧ k ≠ 4) := by omega
  rcases hc with e3 | e4 | ⟨e3, e4⟩
  case' inl =>
    have b3 : (k == 3) = true := beq_iff_eq.mpr e3
    rw [← E3.out e3] at ksl
    clear e3 E3 E0 HQ
    go_enter Tryz.func39, Tryz.ntmps39
    go_wp2
    have HT0 := Lib.hid (Tw.start w #[.int .i64 k, .string x, .slice none 0 0, .slice none 0 0] #[.int .i64 k, .int .i64 b, .int .i64 e, .slice A3 ns.length c3, .slice A4 ks.length c4])
    clear b3
  case' inr.inl =>
    have b3 : (k == 3) = false := beq_eq_false_iff_ne.mpr (by omega)
    have b4 : (k == 4) = true := beq_iff_eq.mpr e4
    have HQ := Lib.hid (HQ.out e4)
    clear e4 E3 E0
    go_enter Tryz.func39, Tryz.ntmps39
    go_wp2_with (go_at_call 76; refine (HQ.out _).mono ?_; rintro e' w1 ⟨rfl, hb⟩; have HT := Lib.hid ((Tw.start w #[.int .i64 k, .string ⟨#[]⟩, .slice none 0 0, .slice none 0 0] #[.int .i64 k, .int .i64 b, .int .i64 e, .slice A3 ns.length c3, .slice A4 ks.length c4]).below hb); clear hb; have n0 := blk_cell HT.out.n 0; have n1 := blk_cell HT.out.n 1; have f1 := blk_frozen HT.out.n 1)
    have HT0 := Lib.hid (show Tw w _ #[.int .i64 k, .string x, .slice none 0 0, .slice none 0 0] #[.int .i64 k, .int .i64 b, .int .i64 e, .slice A3 ns.length c3, .slice A4 ks.length c4] from HT.out.set 1 (.string x))
    clear HT n0 n1 f1 b3 b4
  case' inr.inr =>
    have b3 : (k == 3) = false := beq_eq_false_iff_ne.mpr e3
    have b4 : (k == 4) = false := beq_eq_false_iff_ne.mpr e4
    have hx : x = ⟨#[]⟩ := E0.out e3 e4
    clear e3 e4 E3 E0 HQ
    go_enter Tryz.func39, Tryz.ntmps39
    go_wp2
    have HT0 := Lib.hid ((Tw.start w #[.int .i64 k, .string ⟨#[]⟩, .slice none 0 0, .slice none 0 0] #[.int .i64 k, .int .i64 b, .int .i64 e, .slice A3 ns.length c3, .slice A4 ks.length c4]).cast (show _ = #[.int .i64 k, .string x, .slice none 0 0, .slice none 0 0] by rw [hx]))
    clear hx
    clear b3 b4
  all_goals
    go_loopg [6] ns.length (fun kq v6 w' => Hid (∃ i : Nat, v6 = .int .i64 (i : Nat) ∧ i + kq = ns.length ∧ T1 w w' s k x #[.int .i64 k, .int .i64 b, .int .i64 e, .slice A3 ns.length c3, .slice A4 ks.length c4] ns i))
    case atStart => exact Lib.hid ⟨0, rfl, by omega, none, 0, [], rfl, HT0.out, Kd.R_nil _ _ _ _ _⟩
    case round =>
      obtain ⟨i, rfl, hik, A, c, acc, hacc, hT, hR⟩ := hrel.out
      clear hrel HT0
      rcases Nat.lt_or_ge i ns.length with hii | hii
      · have p3 : wr.cell? ⟨w.heap.size, 3, none⟩ = some (.slice A3 ns.length c3) := (blk_cell hT.p 3).trans rfl
        have n2 : wr.cell? ⟨w.heap.size + 1 + 1, 2, none⟩ = some (.slice A acc.length c) := (blk_cell hT.n 2).trans rfl
        have hsz := hT.size
        have hac : acc.length = i := by rw [hacc, List.length_map, List.length_take]; omega
        have hal : acc.length ≤ s.size := by omega
        replace hac := Lib.hid hac
        have fz := blk_frozen hT.n 2
        have HB0 := hT.b
        obtain ⟨ad, rfl, e0, e1⟩ := at_Sp G3.out i hii
        have e0b := World.block_lt_of_cell? w _ e0
        have e1b := World.block_lt_of_cell? w _ e1
        replace e0 := (HB0.cell e0b).trans e0
        replace e1 := (HB0.cell e1b).trans e1
        obtain ⟨n, hn⟩ : ∃ n, n = ns.getD i zSp := ⟨_, rfl⟩
        rw [← hn] at e0 e1
        have hq := HN.out n (by rw [hn]; exact getD_mem zSp hii)
        have ksl2 := slice_strI s n.b n.e hq.1.1 (by have := hq.1.2.1; omega) hq.1.2.2
        have KU := Lib.hid (fun W => key_any s n.b n.e W hs hq)
        have HT := Lib.hid hT
        have HR := Lib.hid hR
        have HA := Lib.hid hacc
        have HE := Lib.hid hn
        clear hT hR hacc hn hq ksl
        go_wp2
        have hne0 : w.heap.size ≠ w.heap.size + 1 + 1 := by omega
        have hne1 : (ad.add (i * 2)).block ≠ w.heap.size + 1 + 1 := by omega
        have hi0 : (0 : Int) ≤ (i : Int) := Int.natCast_nonneg _
        have hi1 : (i : Int) < (ns.length : Int) := by omega
        have n2d : wr.drew.cell? ⟨w.heap.size + 1 + 1, 2, none⟩ = some (.slice A acc.length c) := n2
        have hS0 : wr.drew.cell? ⟨w.heap.size, 3, none⟩ = some (.slice (some ad) ns.length c3) ∧ wr.drew.cell? (ad.add (i * 2)) = some (.int .i64 n.b) ∧ wr.drew.cell? ⟨(ad.add (i * 2)).block, (ad.add (i * 2)).off + 1, none⟩ = some (.int .i64 n.e) := ⟨p3, e0, e1⟩
        refine start_ (n := 21) (S := fun W : World => W.cell? ⟨w.heap.size + 1 + 1, 2, none⟩ = some (.slice A acc.length c) ∧ W.cell? ⟨w.heap.size, 3, none⟩ = some (.slice (some ad) ns.length c3) ∧ W.cell? (ad.add (i * 2)) = some (.int .i64 n.b) ∧ W.cell? ⟨(ad.add (i * 2)).block, (ad.add (i * 2)).off + 1, none⟩ = some (.int .i64 n.e)) (ds := [20]) #[false, false, false, false, false, false, false, false, false, false, false, false, false, false, false, false, false, false, false, false, false] (by kernel_rfl) rfl rfl ⟨n2d, hS0⟩ (fun hHeld => ?_)
        refine with_tabW Tr.tab10 Tr.bits10 (fun HT_ HW_ => ?_)
        refine pure_ (i := 0) (N := some 39) (v := ?_) (a' := ?_) #[true, false, false, false, false, false, false, false, false, false, false, false, false, false, false, false, false, false, false, false, false] rfl rfl (any_of HT_.out (by kernel_rfl)) (fun _ _ _ h => h) (Or.inl ⟨by rfl, ?_⟩) ?_ ?_
        rotate_left
        · intro w'
          go_simp
          with_reducible rfl
        rotate_left
        · simp only [Act.put, List.setIfInBounds_toArray, List.set_cons_zero, List.set_cons_succ, i64_w, i32_w]
          rfl
        refine pure_ (i := 2) (N := some 41) (v := ?_) (a' := ?_) #[true, false, true, false, false, false, false, false, false, false, false, false, false, false, false, false, false, false, false, false, false] rfl rfl (any_of HT_.out (by kernel_rfl)) (fun _ _ _ h => h) (Or.inl ⟨by rfl, ?_⟩) ?_ ?_
        rotate_left
        · intro w'
          go_simp
          with_reducible rfl
        rotate_left
        · simp only [Act.put, List.setIfInBounds_toArray, List.set_cons_zero, List.set_cons_succ, i64_w, i32_w]
          rfl
        refine pure_ (i := 3) (N := some 42) (v := ?_) (a' := ?_) #[true, false, true, true, false, false, false, false, false, false, false, false, false, false, false, false, false, false, false, false, false] rfl rfl (any_of HT_.out (by kernel_rfl)) (fun _ _ _ h => h) (Or.inl ⟨by rfl, ?_⟩) ?_ ?_
        rotate_left
        · intro w'
          go_simp
          with_reducible rfl
        rotate_left
        · simp only [Act.put, List.setIfInBounds_toArray, List.set_cons_zero, List.set_cons_succ, i64_w, i32_w]
          rfl
        refine pure_ (i := 5) (N := some 44) (v := ?_) (a' := ?_) #[true, false, true, true, false, true, false, false, false, false, false, false, false, false, false, false, false, false, false, false, false] rfl rfl (any_of HT_.out (by kernel_rfl)) (fun _ _ _ h => h) (Or.inl ⟨by rfl, ?_⟩) ?_ ?_
        rotate_left
        · intro w'
          go_simp
          with_reducible rfl
        rotate_left
        · simp only [Act.put, List.setIfInBounds_toArray, List.set_cons_zero, List.set_cons_succ, i64_w, i32_w]
          rfl
        refine pure_ (i := 9) (N := some 48) (v := ?_) (a' := ?_) #[true, false, true, true, false, true, false, false, false, true, false, false, false, false, false, false, false, false, false, false, false] rfl rfl (any_of HT_.out (by kernel_rfl)) (fun _ _ _ h => h) (Or.inl ⟨by rfl, ?_⟩) ?_ ?_
        rotate_left
        · intro w'
          go_simp
          with_reducible rfl
        rotate_left
        · simp only [Act.put, List.setIfInBounds_toArray, List.set_cons_zero, List.set_cons_succ, i64_w, i32_w]
          rfl
        refine pure_ (i := 11) (N := some 50) (v := ?_) (a' := ?_) #[true, false, true, true, false, true, false, false, false, true, false, true, false, false, false, false, false, false, false, false, false] rfl rfl (any_of HT_.out (by kernel_rfl)) (fun _ _ _ h => h) (Or.inl ⟨by rfl, ?_⟩) ?_ ?_
        rotate_left
        · intro w'
          go_simp
          with_reducible rfl
        rotate_left
        · simp only [Act.put, List.setIfInBounds_toArray, List.set_cons_zero, List.set_cons_succ, i64_w, i32_w]
          rfl
        refine take_ (i := 1) (N := some 40) (v := ?_) (a' := ?_) #[true, true, true, true, false, true, false, false, false, true, false, true, false, false, false, false, false, false, false, false, false] rfl rfl (take_ofW HT_.out HW_.out (by kernel_rfl)) (fun _ _ _ h => h) (Or.inl ⟨by rfl, ?_⟩) hHeld ?_ ?_
        rotate_left
        · rintro w' ⟨s0, s1, s2, s3⟩
          go_simp
          with_reducible rfl
        rotate_left
        · simp only [Act.put, List.setIfInBounds_toArray, List.set_cons_zero, List.set_cons_succ, i64_w, i32_w]
          rfl
        refine take_ (i := 4) (N := some 43) (v := ?_) (a' := ?_) #[true, true, true, true, true, true, false, false, false, true, false, true, false, false, false, false, false, false, false, false, false] rfl rfl (take_ofW HT_.out HW_.out (by kernel_rfl)) (fun _ _ _ h => h) (Or.inl ⟨by rfl, ?_⟩) hHeld ?_ ?_
        rotate_left
        · rintro w' ⟨s0, s1, s2, s3⟩
          go_simp
          with_reducible rfl
        rotate_left
        · simp only [Act.put, List.setIfInBounds_toArray, List.set_cons_zero, List.set_cons_succ, i64_w, i32_w]
          rfl
        refine pure_ (i := 6) (N := some 45) (v := ?_) (a' := ?_) #[true, true, true, true, true, true, true, false, false, true, false, true, false, false, false, false, false, false, false, false, false] rfl rfl (any_of HT_.out (by kernel_rfl)) (fun _ _ _ h => h) (Or.inl ⟨by rfl, ?_⟩) ?_ ?_
        rotate_left
        · intro w'
          go_simp
          with_reducible rfl
        rotate_left
        · simp only [Act.put, List.setIfInBounds_toArray, List.set_cons_zero, List.set_cons_succ, i64_w, i32_w]
          rfl
        refine pure_ (i := 7) (N := some 46) (v := ?_) (a' := ?_) #[true, true, true, true, true, true, true, true, false, true, false, true, false, false, false, false, false, false, false, false, false] rfl rfl (any_of HT_.out (by kernel_rfl)) (fun _ _ _ h => h) (Or.inl ⟨by rfl, ?_⟩) ?_ ?_
        rotate_left
        · intro w'
          go_simp
          with_reducible rfl
        rotate_left
        · simp only [Act.put, List.setIfInBounds_toArray, List.set_cons_zero, List.set_cons_succ, i64_w, i32_w]
          rfl
        refine take_ (i := 8) (N := some 47) (v := ?_) (a' := ?_) #[true, true, true, true, true, true, true, true, true, true, false, true, false, false, false, false, false, false, false, false, false] rfl rfl (take_ofW HT_.out HW_.out (by kernel_rfl)) (fun _ _ _ h => h) (Or.inl ⟨by rfl, ?_⟩) hHeld ?_ ?_
        rotate_left
        · rintro w' ⟨s0, s1, s2, s3⟩
          go_simp
          with_reducible rfl
        rotate_left
        · simp only [Act.put, List.setIfInBounds_toArray, List.set_cons_zero, List.set_cons_succ, i64_w, i32_w]
          rfl
        refine take_ (i := 10) (N := some 49) (v := ?_) (a' := ?_) #[true, true, true, true, true, true, true, true, true, true, true, true, false, false, false, false, false, false, false, false, false] rfl rfl (take_ofW HT_.out HW_.out (by kernel_rfl)) (fun _ _ _ h => h) (Or.inl ⟨by rfl, ?_⟩) hHeld ?_ ?_
        rotate_left
        · rintro w' ⟨s0, s1, s2, s3⟩
          go_simp
          with_reducible rfl
        rotate_left
        · simp only [Act.put, List.setIfInBounds_toArray, List.set_cons_zero, List.set_cons_succ, i64_w, i32_w]
          rfl
        refine pure_ (i := 12) (N := some 51) (v := ?_) (a' := ?_) #[true, true, true, true, true, true, true, true, true, true, true, true, true, false, false, false, false, false, false, false, false] rfl rfl (any_of HT_.out (by kernel_rfl)) (fun _ _ _ h => h) (Or.inl ⟨by rfl, ?_⟩) ?_ ?_
        rotate_left
        · intro w'
          go_simp
          with_reducible rfl
        rotate_left
        · simp only [Act.put, List.setIfInBounds_toArray, List.set_cons_zero, List.set_cons_succ, i64_w, i32_w]
          rfl
        refine pure_ (i := 13) (N := some 52) (v := ?_) (a' := ?_) #[true, true, true, true, true, true, true, true, true, true, true, true, true, true, false, false, false, false, false, false, false] rfl rfl (any_of HT_.out (by kernel_rfl)) (fun _ _ _ h => h) (Or.inl ⟨by rfl, ?_⟩) ?_ ?_
        rotate_left
        · intro w'
          go_simp
          with_reducible rfl
        rotate_left
        · simp only [Act.put, List.setIfInBounds_toArray, List.set_cons_zero, List.set_cons_succ, i64_w, i32_w]
          rfl
        refine take_ (i := 14) (N := some 53) (v := ?_) (a' := ?_) #[true, true, true, true, true, true, true, true, true, true, true, true, true, true, true, false, false, false, false, false, false] rfl rfl (take_ofW HT_.out HW_.out (by kernel_rfl)) (fun _ _ _ h => h) (Or.inl ⟨by rfl, ?_⟩) hHeld ?_ ?_
        rotate_left
        · rintro w' ⟨s0, s1, s2, s3⟩
          go_simp
          with_reducible rfl
        rotate_left
        · simp only [Act.put, List.setIfInBounds_toArray, List.set_cons_zero, List.set_cons_succ, i64_w, i32_w]
          rfl
        refine pure_ (i := 15) (N := some 54) (v := ?_) (a' := ?_) #[true, true, true, true, true, true, true, true, true, true, true, true, true, true, true, true, false, false, false, false, false] rfl rfl (any_of HT_.out (by kernel_rfl)) (fun _ _ _ h => h) (Or.inl ⟨by rfl, ?_⟩) ?_ ?_
        rotate_left
        · intro w'
          go_simp
          with_reducible rfl
        rotate_left
        · simp only [Act.put, List.setIfInBounds_toArray, List.set_cons_zero, List.set_cons_succ, i64_w, i32_w]
          rfl
        refine one_ (i := 16) (N := some 55) #[true, true, true, true, true, true, true, true, true, true, true, true, true, true, true, true, true, false, false, false, false] rfl rfl (one_of HT_.out (by kernel_rfl)) (by decide) (fun K hK => ?_)
        refine goes_ Tryz.func76 (by kernel_rfl) rfl #[.string (s.extract n.b.toNat n.e.toNat)] (by rfl) rfl rfl (by (try simp only [List.map_toArray, List.map_cons, List.map_nil]); first | done | rfl | (simp only [List.length_drop, List.length_take]; rfl)) ?_
        refine (KU.out _).mono ?_
        rintro e' w1 ⟨rfl, hb⟩
        refine ⟨_, rfl, ?_⟩
        have hb0 := below_then (below_drew (Below.refl wr.heap.size wr)) (Nat.le_refl _) hb
        have hR0 := Kd.R_below HR.out hb0
        have hT0 := HT.out.below hb0
        have hz0 := hb0.size
        have n2' := pw_cell_below hb0 n2
        have p3' := pw_cell_below hb0 p3
        have e0' := pw_cell_below hb0 e0
        have e1' := pw_cell_below hb0 e1
        have n2a : ∀ o, (w1.alloc o).cell? ⟨w.heap.size + 1 + 1, 2, none⟩ = some (.slice A acc.length c) := fun o => pw_cell_below (below_alloc (Below.refl _ _) o) n2'
        have hS1 : w1.cell? ⟨w.heap.size, 3, none⟩ = some (.slice (some ad) ns.length c3) ∧ w1.cell? (ad.add (i * 2)) = some (.int .i64 n.b) ∧ w1.cell? ⟨(ad.add (i * 2)).block, (ad.add (i * 2)).off + 1, none⟩ = some (.int .i64 n.e) := ⟨p3', e0', e1'⟩
        have hS1a : ∀ o, (w1.alloc o).cell? ⟨w.heap.size, 3, none⟩ = some (.slice (some ad) ns.length c3) ∧ (w1.alloc o).cell? (ad.add (i * 2)) = some (.int .i64 n.b) ∧ (w1.alloc o).cell? ⟨(ad.add (i * 2)).block, (ad.add (i * 2)).off + 1, none⟩ = some (.int .i64 n.e) := fun o => ⟨pw_cell_below (below_alloc (Below.refl _ _) o) p3', pw_cell_below (below_alloc (Below.refl _ _) o) e0', pw_cell_below (below_alloc (Below.refl _ _) o) e1'⟩
        refine hK.out _ _ ⟨n2', hS1⟩ (fun hHeld => ?_)
        clear hK K
        refine norm_ (a' := ?_) ?_ ?_
        rotate_left
        · show Act.put _ (some 55) _ = _
          simp only [Act.put, List.setIfInBounds_toArray, List.set_cons_zero, List.set_cons_succ, i64_w, i32_w]
          rfl
        refine one_ (i := 17) (N := some 56) #[true, true, true, true, true, true, true, true, true, true, true, true, true, true, true, true, true, true, false, false, false] rfl rfl (one_of HT_.out (by kernel_rfl)) (by decide) (fun K hK => ?_)
        refine value_ (w1 := ?_) (v := ?_) (by rfl) rfl ?_ ?_
        rotate_left 2
        · go_simp
          constructor
          · rfl
          · rfl
        refine hK.out _ _ ⟨n2a _, hS1a _⟩ (fun hHeld => ?_)
        clear hK K
        refine norm_ (a' := ?_) ?_ ?_
        rotate_left
        · show Act.put _ (some 56) _ = _
          simp only [Act.put, List.setIfInBounds_toArray, List.set_cons_zero, List.set_cons_succ, i64_w, i32_w]
          rfl
        refine one_ (i := 18) (N := some 57) #[true, true, true, true, true, true, true, true, true, true, true, true, true, true, true, true, true, true, true, false, false] rfl rfl (one_of HT_.out (by kernel_rfl)) (by decide) (fun K hK => ?_)
        refine Kd.R_append_step Kd.string (w0 := w1) (w.heap.size + 3) (by rfl) (.tmp 40) (.tmp 56) 22 tSt (.string ⟨#[]⟩) 16 (by rfl) Tryz.underlying22 infoSt rfl (by decide) (by decide) _ acc (quo (cut s n.b n.e)) [.string (quo (cut s n.b n.e))] (fun _ => True) (fun _ => False) (by rfl) (by first | rfl | simp [go_sem]) rfl (fun k hk => hk.elim) (fun _ _ => trivial) hR0 (Below.refl _ _) (by omega) (by omega) ?_
        intro v1 w2 hR1 hB1 hg1 hat1
        obtain ⟨acc1, hA1⟩ : ∃ z, z = acc ++ [quo (cut s n.b n.e)] := ⟨_, rfl⟩
        rw [← hA1] at hR1
        replace hA1 := Lib.hid hA1
        obtain ⟨A7, c7, rfl⟩ := Kd.R_slice hR1
        have n2q := (hB1.cell (p := ⟨w.heap.size + 1 + 1, 2, none⟩) (by simp <;> omega)).trans n2'
        have p3q := (hB1.cell (p := ⟨w.heap.size, 3, none⟩) (by simp <;> omega)).trans p3'
        have e0q := (hB1.cell (by omega)).trans e0'
        have e1q := (hB1.cell (p := ⟨(ad.add (i * 2)).block, (ad.add (i * 2)).off + 1, none⟩) (by show (ad.add (i * 2)).block < _; omega)).trans e1'
        have hS2 : w2.cell? ⟨w.heap.size, 3, none⟩ = some (.slice (some ad) ns.length c3) ∧ w2.cell? (ad.add (i * 2)) = some (.int .i64 n.b) ∧ w2.cell? ⟨(ad.add (i * 2)).block, (ad.add (i * 2)).off + 1, none⟩ = some (.int .i64 n.e) := ⟨p3q, e0q, e1q⟩
        have hS2s : ∀ u, (w2.setCell ⟨w.heap.size + 1 + 1, 2, none⟩ u).cell? ⟨w.heap.size, 3, none⟩ = some (.slice (some ad) ns.length c3) ∧ (w2.setCell ⟨w.heap.size + 1 + 1, 2, none⟩ u).cell? (ad.add (i * 2)) = some (.int .i64 n.b) ∧ (w2.setCell ⟨w.heap.size + 1 + 1, 2, none⟩ u).cell? ⟨(ad.add (i * 2)).block, (ad.add (i * 2)).off + 1, none⟩ = some (.int .i64 n.e) := fun u => ⟨(cell_far w2 _ u _ hne0).trans p3q, (cell_far w2 _ u _ hne1).trans e0q, (cell_far w2 _ u _ (by exact hne1)).trans e1q⟩
        have fz2 := (hB1.frozen (p := ⟨w.heap.size + 1 + 1, 2, none⟩) (by simp <;> omega)).trans (blk_frozen hT0.n 2)
        refine hK.out _ _ ⟨n2q, hS2⟩ (fun hHeld => ?_)
        clear hK K
        refine norm_ (a' := ?_) ?_ ?_
        rotate_left
        · show Act.put _ (some 57) _ = _
          simp only [Act.put, List.setIfInBounds_toArray, List.set_cons_zero, List.set_cons_succ, i64_w, i32_w]
          rfl
        refine pure_ (i := 19) (N := some 58) (v := ?_) (a' := ?_) #[true, true, true, true, true, true, true, true, true, true, true, true, true, true, true, true, true, true, true, true, false] rfl rfl (any_of HT_.out (by kernel_rfl)) (fun _ _ _ h => h) (Or.inl ⟨by rfl, ?_⟩) ?_ ?_
        rotate_left
        · intro w'
          go_simp
          with_reducible rfl
        rotate_left
        · simp only [Act.put, List.setIfInBounds_toArray, List.set_cons_zero, List.set_cons_succ, i64_w, i32_w]
          rfl
        refine last_ (i := 20) (N := none) #[true, true, true, true, true, true, true, true, true, true, true, true, true, true, true, true, true, true, true, true, true] rfl rfl (one_of HT_.out (by kernel_rfl)) (by decide) (fun K hK => ?_)
        refine skip_ (w1 := ?_) (by rfl) rfl ?_ ?_
        rotate_left
        · go_simp
          rfl
        refine hK.out _ _ ?_
        clear hK K
        refine done_ (done_of HT_.out (by kernel_rfl)) ?_
        all_goals
          have HT3 := Lib.hid ((hT0.from3 hB1).set 2 (.slice A7 acc1.length c7))
          have HR3 := Lib.hid (R_from hR1 (fun j hj _ => Below.heap_setCell w2 ⟨w.heap.size + 1 + 1, 2, none⟩ (.slice A7 acc1.length c7) j (by show j ≠ w.heap.size + 1 + 1; omega)))
          clear hR1 hB1 hT0 hR0 hb hb0 hS0 hS1 hS1a hS2 hS2s n2q p3q e0q e1q n2' p3' e0' e1' n2d n2a fz2 hg1 hat1 n2 p3 e0 e1 fz HB0 HT HR ksl2 KU
          go_wp2
          go_roundg (gk - 1)
          case rel => exact Lib.hid ⟨i + 1, by go_num, by omega, A7, c7, acc1, by rw [hA1.out, HA.out, HE.out]; exact (keys_snoc s ns i hii).symm, HT3.out, HR3.out⟩
          case measure => omega
      · obtain rfl : i = ns.length := by omega
        have hT2 : T2 w wr s k x #[.int .i64 k, .int .i64 b, .int .i64 e, .slice A3 ns.length c3, .slice A4 ks.length c4] acc ks 0 := ⟨A, c, none, 0, [], rfl, hT, hR, Kd.R_nil _ _ _ _ _⟩
        have HT2 := Lib.hid hT2
        have HKY := Lib.hid (show acc = ns.map (key s) by rw [hacc, List.take_length])
        have p3 : wr.cell? ⟨w.heap.size, 3, none⟩ = some (.slice A3 ns.length c3) := (blk_cell hT.p 3).trans rfl
        clear hT2 hT hR hacc ksl
        go_wp2
        clear p3
        go_loopg [7] ks.length (fun kq v7 w' => Hid (∃ i : Nat, v7 = .int .i64 (i : Nat) ∧ i + kq = ks.length ∧ T2 w w' s k x #[.int .i64 k, .int .i64 b, .int .i64 e, .slice A3 ns.length c3, .slice A4 ks.length c4] acc ks i))
        case atStart => exact Lib.hid ⟨0, rfl, by omega, HT2.out⟩
        case round =>
          obtain ⟨i, rfl, hik, A, c, A', c', kid, hkid, hT, hRk, hR⟩ := hrel.out
          clear hrel HT2
          rcases Nat.lt_or_ge i ks.length with hii | hii
          · have p4 : wr.cell? ⟨w.heap.size, 4, none⟩ = some (.slice A4 ks.length c4) := (blk_cell hT.p 4).trans rfl
            have n3 : wr.cell? ⟨w.heap.size + 1 + 1, 3, none⟩ = some (.slice A' kid.length c') := (blk_cell hT.n 3).trans rfl
            have hsz := hT.size
            have hac : kid.length = i := by rw [hkid, List.length_map, List.length_take]; omega
            have hal : kid.length ≤ s.size := by omega
            replace hac := Lib.hid hac
            have fz := blk_frozen hT.n 3
            have HB0 := hT.b
            obtain ⟨ad, B3, d3, B4, d4, rfl, e0, e1, e2, e3, e4, l3, g3, l4, g4⟩ := place_at G4.out i hii
            have eb := World.block_lt_of_cell? w _ e0
            replace e0 := (HB0.cell eb).trans e0
            replace e1 := (HB0.cell (by exact eb)).trans e1
            replace e2 := (HB0.cell (by exact eb)).trans e2
            replace e3 := (HB0.cell (by exact eb)).trans e3
            replace e4 := (HB0.cell (by exact eb)).trans e4
            obtain ⟨q, hq⟩ : ∃ q, q = ks.getD i zPl := ⟨_, rfl⟩
            rw [← hq] at e0 e1 e2 e3 e4 l3 g3 l4 g4
            have KU := Lib.hid (HK.out q (by rw [hq]; exact getD_mem zPl hii) wr.drew B3 B4 d3 d4 l3 (Kd.C_below g3 (below_drew HB0)) l4 (Kd.C_below g4 (below_drew HB0)))
            obtain ⟨z, hz⟩ : ∃ z, z = tree s q := ⟨_, rfl⟩
            rw [← hz] at KU
            have hown1 : ∀ j, wr.heap.size ≤ j → some j ≠ (Value.slice A acc.length c).ownBlock := by
              intro j hj he
              obtain ⟨inner, ho⟩ := Kd.R_own hRk
              have := own_lt ho j he.symm
              omega
            have hown2 : ∀ j, wr.heap.size ≤ j → some j ≠ (Value.slice A' kid.length c').ownBlock := by
              intro j hj he
              obtain ⟨inner, ho⟩ := Kd.R_own hR
              have := own_lt ho j he.symm
              omega
            have HT := Lib.hid hT
            have HRK := Lib.hid hRk
            have HR := Lib.hid hR
            have HA := Lib.hid hkid
            have HE := Lib.hid hq
            have HZ := Lib.hid hz
            have HO1 := Lib.hid hown1
            have HO2 := Lib.hid hown2
            replace l3 := Lib.hid l3
            replace l4 := Lib.hid l4
            clear hT hRk hR hkid hq hz hown1 hown2 g3 g4
            go_wp2
            have hne0 : w.heap.size ≠ w.heap.size + 1 + 1 := by omega
            have hne1 : (ad.add (i * 5)).block ≠ w.heap.size + 1 + 1 := by omega
            have hi0 : (0 : Int) ≤ (i : Int) := Int.natCast_nonneg _
            have hi1 : (i : Int) < (ks.length : Int) := by omega
            have n3d : wr.drew.cell? ⟨w.heap.size + 1 + 1, 3, none⟩ = some (.slice A' kid.length c') := n3
            have hS0 : wr.drew.cell? ⟨w.heap.size, 4, none⟩ = some (.slice (some ad) ks.length c4) ∧ wr.drew.cell? (ad.add (i * 5)) = some (.int .i64 q.kind) ∧ wr.drew.cell? ⟨(ad.add (i * 5)).block, (ad.add (i * 5)).off + 1, none⟩ = some (.int .i64 q.b) ∧ wr.drew.cell? ⟨(ad.add (i * 5)).block, (ad.add (i * 5)).off + 2, none⟩ = some (.int .i64 q.e) ∧ wr.drew.cell? ⟨(ad.add (i * 5)).block, (ad.add (i * 5)).off + 3, none⟩ = some (.slice B3 q.names.length d3) ∧ wr.drew.cell? ⟨(ad.add (i * 5)).block, (ad.add (i * 5)).off + 4, none⟩ = some (.slice B4 q.kids.length d4) := ⟨p4, e0, e1, e2, e3, e4⟩
            refine start_ (n := 13) (S := fun W : World => W.cell? ⟨w.heap.size + 1 + 1, 3, none⟩ = some (.slice A' kid.length c') ∧ W.cell? ⟨w.heap.size, 4, none⟩ = some (.slice (some ad) ks.length c4) ∧ W.cell? (ad.add (i * 5)) = some (.int .i64 q.kind) ∧ W.cell? ⟨(ad.add (i * 5)).block, (ad.add (i * 5)).off + 1, none⟩ = some (.int .i64 q.b) ∧ W.cell? ⟨(ad.add (i * 5)).block, (ad.add (i * 5)).off + 2, none⟩ = some (.int .i64 q.e) ∧ W.cell? ⟨(ad.add (i * 5)).block, (ad.add (i * 5)).off + 3, none⟩ = some (.slice B3 q.names.length d3) ∧ W.cell? ⟨(ad.add (i * 5)).block, (ad.add (i * 5)).off + 4, none⟩ = some (.slice B4 q.kids.length d4)) (ds := [12]) #[false, false, false, false, false, false, false, false, false, false, false, false, false] (by kernel_rfl) rfl rfl ⟨n3d, hS0⟩ (fun hHeld => ?_)
            refine with_tabW Tr.tab14 Tr.bits14 (fun HT_ HW_ => ?_)
            refine pure_ (i := 0) (N := some 66) (v := ?_) (a' := ?_) #[true, false, false, false, false, false, false, false, false, false, false, false, false] rfl rfl (any_of HT_.out (by kernel_rfl)) (fun _ _ _ h => h) (Or.inl ⟨by rfl, ?_⟩) ?_ ?_
            rotate_left
            · intro w'
              go_simp
              with_reducible rfl
            rotate_left
            · simp only [Act.put, List.setIfInBounds_toArray, List.set_cons_zero, List.set_cons_succ, i64_w, i32_w]
              rfl
            refine pure_ (i := 2) (N := some 68) (v := ?_) (a' := ?_) #[true, false, true, false, false, false, false, false, false, false, false, false, false] rfl rfl (any_of HT_.out (by kernel_rfl)) (fun _ _ _ h => h) (Or.inl ⟨by rfl, ?_⟩) ?_ ?_
            rotate_left
            · intro w'
              go_simp
              with_reducible rfl
            rotate_left
            · simp only [Act.put, List.setIfInBounds_toArray, List.set_cons_zero, List.set_cons_succ, i64_w, i32_w]
              rfl
            refine pure_ (i := 3) (N := some 69) (v := ?_) (a' := ?_) #[true, false, true, true, false, false, false, false, false, false, false, false, false] rfl rfl (any_of HT_.out (by kernel_rfl)) (fun _ _ _ h => h) (Or.inl ⟨by rfl, ?_⟩) ?_ ?_
            rotate_left
            · intro w'
              go_simp
              with_reducible rfl
            rotate_left
            · simp only [Act.put, List.setIfInBounds_toArray, List.set_cons_zero, List.set_cons_succ, i64_w, i32_w]
              rfl
            refine pure_ (i := 5) (N := some 71) (v := ?_) (a' := ?_) #[true, false, true, true, false, true, false, false, false, false, false, false, false] rfl rfl (any_of HT_.out (by kernel_rfl)) (fun _ _ _ h => h) (Or.inl ⟨by rfl, ?_⟩) ?_ ?_
            rotate_left
            · intro w'
              go_simp
              with_reducible rfl
            rotate_left
            · simp only [Act.put, List.setIfInBounds_toArray, List.set_cons_zero, List.set_cons_succ, i64_w, i32_w]
              rfl
            refine take_ (i := 1) (N := some 67) (v := ?_) (a' := ?_) #[true, true, true, true, false, true, false, false, false, false, false, false, false] rfl rfl (take_ofW HT_.out HW_.out (by kernel_rfl)) (fun _ _ _ h => h) (Or.inl ⟨by rfl, ?_⟩) hHeld ?_ ?_
            rotate_left
            · rintro w' ⟨s0, s1, s2, s3, s4, s5, s6⟩
              go_simp
              with_reducible rfl
            rotate_left
            · simp only [Act.put, List.setIfInBounds_toArray, List.set_cons_zero, List.set_cons_succ, i64_w, i32_w]
              rfl
            refine take_ (i := 4) (N := some 70) (v := ?_) (a' := ?_) #[true, true, true, true, true, true, false, false, false, false, false, false, false] rfl rfl (take_ofW HT_.out HW_.out (by kernel_rfl)) (fun _ _ _ h => h) (Or.inl ⟨by rfl, ?_⟩) hHeld ?_ ?_
            rotate_left
            · rintro w' ⟨s0, s1, s2, s3, s4, s5, s6⟩
              go_simp
              with_reducible rfl
            rotate_left
            · simp only [Act.put, List.setIfInBounds_toArray, List.set_cons_zero, List.set_cons_succ, i64_w, i32_w]
              rfl
            refine pure_ (i := 6) (N := some 72) (v := ?_) (a' := ?_) #[true, true, true, true, true, true, true, false, false, false, false, false, false] rfl rfl (any_of HT_.out (by kernel_rfl)) (fun _ _ _ h => h) (Or.inl ⟨by rfl, ?_⟩) ?_ ?_
            rotate_left
            · intro w'
              go_simp
              with_reducible rfl
            rotate_left
            · simp only [Act.put, List.setIfInBounds_toArray, List.set_cons_zero, List.set_cons_succ, i64_w, i32_w]
              rfl
            refine take_ (i := 7) (N := some 73) (v := ?_) (a' := ?_) #[true, true, true, true, true, true, true, true, false, false, false, false, false] rfl rfl (take_ofW HT_.out HW_.out (by kernel_rfl)) (fun _ _ _ h => h) (Or.inl ⟨by rfl, ?_⟩) hHeld ?_ ?_
            rotate_left
            · rintro w' ⟨s0, s1, s2, s3, s4, s5, s6⟩
              go_simp
              with_reducible rfl
            rotate_left
            · simp only [Act.put, List.setIfInBounds_toArray, List.set_cons_zero, List.set_cons_succ, i64_w, i32_w]
              rfl
            refine one_ (i := 8) (N := some 74) #[true, true, true, true, true, true, true, true, true, false, false, false, false] rfl rfl (one_of HT_.out (by kernel_rfl)) (by decide) (fun K hK => ?_)
            refine goes_ Tryz.func39 (by kernel_rfl) rfl #[.string s, .agg #[.int .i64 q.kind, .int .i64 q.b, .int .i64 q.e, .slice B3 q.names.length d3, .slice B4 q.kids.length d4]] (by rfl) rfl rfl (by (try simp only [List.map_toArray, List.map_cons, List.map_nil]); first | done | rfl | (simp only [List.length_drop, List.length_take]; rfl)) ?_
            refine KU.out.mono ?_
            rintro e' w1 ⟨D2, f2, D3, f3, hb, hk2, hk3, rfl⟩
            refine ⟨_, rfl, ?_⟩
            have hb0 := below_then (below_drew (Below.refl wr.heap.size wr)) (Nat.le_refl _) hb
            have hR0 := Kd.R_below HR.out hb0
            have hRK0 := Kd.R_below HRK.out hb0
            have hT0 := HT.out.below hb0
            have hz0 := hb0.size
            have n3' := pw_cell_below hb0 n3
            have n3a : ∀ o, (w1.alloc o).cell? ⟨w.heap.size + 1 + 1, 3, none⟩ = some (.slice A' kid.length c') := fun o => pw_cell_below (below_alloc (Below.refl _ _) o) n3'
            have hS1 : w1.cell? ⟨w.heap.size, 4, none⟩ = some (.slice (some ad) ks.length c4) ∧ w1.cell? (ad.add (i * 5)) = some (.int .i64 q.kind) ∧ w1.cell? ⟨(ad.add (i * 5)).block, (ad.add (i * 5)).off + 1, none⟩ = some (.int .i64 q.b) ∧ w1.cell? ⟨(ad.add (i * 5)).block, (ad.add (i * 5)).off + 2, none⟩ = some (.int .i64 q.e) ∧ w1.cell? ⟨(ad.add (i * 5)).block, (ad.add (i * 5)).off + 3, none⟩ = some (.slice B3 q.names.length d3) ∧ w1.cell? ⟨(ad.add (i * 5)).block, (ad.add (i * 5)).off + 4, none⟩ = some (.slice B4 q.kids.length d4) := ⟨pw_cell_below hb0 p4, pw_cell_below hb0 e0, pw_cell_below hb0 e1, pw_cell_below hb0 e2, pw_cell_below hb0 e3, pw_cell_below hb0 e4⟩
            have hS1a : ∀ o, (w1.alloc o).cell? ⟨w.heap.size, 4, none⟩ = some (.slice (some ad) ks.length c4) ∧ (w1.alloc o).cell? (ad.add (i * 5)) = some (.int .i64 q.kind) ∧ (w1.alloc o).cell? ⟨(ad.add (i * 5)).block, (ad.add (i * 5)).off + 1, none⟩ = some (.int .i64 q.b) ∧ (w1.alloc o).cell? ⟨(ad.add (i * 5)).block, (ad.add (i * 5)).off + 2, none⟩ = some (.int .i64 q.e) ∧ (w1.alloc o).cell? ⟨(ad.add (i * 5)).block, (ad.add (i * 5)).off + 3, none⟩ = some (.slice B3 q.names.length d3) ∧ (w1.alloc o).cell? ⟨(ad.add (i * 5)).block, (ad.add (i * 5)).off + 4, none⟩ = some (.slice B4 q.kids.length d4) := fun o => ⟨pw_cell_below (below_alloc (Below.refl _ _) o) hS1.1, pw_cell_below (below_alloc (Below.refl _ _) o) hS1.2.1, pw_cell_below (below_alloc (Below.refl _ _) o) hS1.2.2.1, pw_cell_below (below_alloc (Below.refl _ _) o) hS1.2.2.2.1, pw_cell_below (below_alloc (Below.refl _ _) o) hS1.2.2.2.2.1, pw_cell_below (below_alloc (Below.refl _ _) o) hS1.2.2.2.2.2⟩
            have hM := Lib.hid (kTn.M_lower (show w.heap.size + 3 ≤ wr.drew.heap.size from hsz) (Kd.M_mono kTn (fun k hk => hk.2.1) (kTn.M_bound (kTn_mkM _ _ _ z hk2 hk3))))
            clear hk2 hk3
            refine hK.out _ _ ⟨n3', hS1⟩ (fun hHeld => ?_)
            clear hK K
            refine norm_ (a' := ?_) ?_ ?_
            rotate_left
            · show Act.put _ (some 74) _ = _
              simp only [Act.put, List.setIfInBounds_toArray, List.set_cons_zero, List.set_cons_succ, i64_w, i32_w]
              rfl
            refine one_ (i := 9) (N := some 75) #[true, true, true, true, true, true, true, true, true, true, false, false, false] rfl rfl (one_of HT_.out (by kernel_rfl)) (by decide) (fun K hK => ?_)
            refine value_ (w1 := ?_) (v := ?_) (by rfl) rfl ?_ ?_
            rotate_left 2
            · go_simp
              constructor
              · rfl
              · rfl
            refine hK.out _ _ ⟨n3a _, hS1a _⟩ (fun hHeld => ?_)
            clear hK K
            refine norm_ (a' := ?_) ?_ ?_
            rotate_left
            · show Act.put _ (some 75) _ = _
              simp only [Act.put, List.setIfInBounds_toArray, List.set_cons_zero, List.set_cons_succ, i64_w, i32_w]
              rfl
            refine one_ (i := 10) (N := some 76) #[true, true, true, true, true, true, true, true, true, true, true, false, false] rfl rfl (one_of HT_.out (by kernel_rfl)) (by decide) (fun K hK => ?_)
            refine Kd.R_append_step kTn (w0 := w1) (w.heap.size + 3) (by rfl) (.tmp 67) (.tmp 75) 23 tNd (.agg #[.int .i64 0, .string ⟨#[]⟩, .slice none 0 0, .slice none 0 0]) 72 (by rfl) Tryz.underlying23 infoTn rfl (by decide) (by decide) _ kid z [.int .i64 z.kind, .string z.text, .slice D2 z.keys.length f2, .slice D3 z.kids.length f3] (fun k => True ∧ some k ≠ (Value.slice A acc.length c).ownBlock) (fun k => wr.heap.size ≤ k) (by rfl) (by first | rfl | simp [go_sem]) hM.out (fun k hk => ⟨⟨trivial, HO1.out k hk⟩, HO2.out k hk⟩) (fun k hk => ⟨trivial, HO1.out k (Nat.le_trans hz0 hk)⟩) hR0 (Below.refl _ _) (by omega) (by omega) ?_
            intro v1 w2 hR1 hB1 hg1 hat1
            obtain ⟨kid1, hA1⟩ : ∃ z1, z1 = kid ++ [z] := ⟨_, rfl⟩
            rw [← hA1] at hR1
            replace hA1 := Lib.hid hA1
            obtain ⟨A7, c7, rfl⟩ := Kd.R_slice hR1
            have hRK1 := Kd.R_over' hRK0 (Kd.R_typed hR0) string_E hg1
            have n3q := (hB1.cell (p := ⟨w.heap.size + 1 + 1, 3, none⟩) (by simp <;> omega)).trans n3'
            have hS2 : w2.cell? ⟨w.heap.size, 4, none⟩ = some (.slice (some ad) ks.length c4) ∧ w2.cell? (ad.add (i * 5)) = some (.int .i64 q.kind) ∧ w2.cell? ⟨(ad.add (i * 5)).block, (ad.add (i * 5)).off + 1, none⟩ = some (.int .i64 q.b) ∧ w2.cell? ⟨(ad.add (i * 5)).block, (ad.add (i * 5)).off + 2, none⟩ = some (.int .i64 q.e) ∧ w2.cell? ⟨(ad.add (i * 5)).block, (ad.add (i * 5)).off + 3, none⟩ = some (.slice B3 q.names.length d3) ∧ w2.cell? ⟨(ad.add (i * 5)).block, (ad.add (i * 5)).off + 4, none⟩ = some (.slice B4 q.kids.length d4) := ⟨(hB1.cell (p := ⟨w.heap.size, 4, none⟩) (by simp <;> omega)).trans hS1.1, (hB1.cell (by omega)).trans hS1.2.1, (hB1.cell (by show (ad.add (i * 5)).block < _; omega)).trans hS1.2.2.1, (hB1.cell (by show (ad.add (i * 5)).block < _; omega)).trans hS1.2.2.2.1, (hB1.cell (by show (ad.add (i * 5)).block < _; omega)).trans hS1.2.2.2.2.1, (hB1.cell (by show (ad.add (i * 5)).block < _; omega)).trans hS1.2.2.2.2.2⟩
            have hS2s : ∀ u, (w2.setCell ⟨w.heap.size + 1 + 1, 3, none⟩ u).cell? ⟨w.heap.size, 4, none⟩ = some (.slice (some ad) ks.length c4) ∧ (w2.setCell ⟨w.heap.size + 1 + 1, 3, none⟩ u).cell? (ad.add (i * 5)) = some (.int .i64 q.kind) ∧ (w2.setCell ⟨w.heap.size + 1 + 1, 3, none⟩ u).cell? ⟨(ad.add (i * 5)).block, (ad.add (i * 5)).off + 1, none⟩ = some (.int .i64 q.b) ∧ (w2.setCell ⟨w.heap.size + 1 + 1, 3, none⟩ u).cell? ⟨(ad.add (i * 5)).block, (ad.add (i * 5)).off + 2, none⟩ = some (.int .i64 q.e) ∧ (w2.setCell ⟨w.heap.size + 1 + 1, 3, none⟩ u).cell? ⟨(ad.add (i * 5)).block, (ad.add (i * 5)).off + 3, none⟩ = some (.slice B3 q.names.length d3) ∧ (w2.setCell ⟨w.heap.size + 1 + 1, 3, none⟩ u).cell? ⟨(ad.add (i * 5)).block, (ad.add (i * 5)).off + 4, none⟩ = some (.slice B4 q.kids.length d4) := fun u => ⟨(cell_far w2 _ u _ hne0).trans hS2.1, (cell_far w2 _ u _ hne1).trans hS2.2.1, (cell_far w2 _ u _ (by exact hne1)).trans hS2.2.2.1, (cell_far w2 _ u _ (by exact hne1)).trans hS2.2.2.2.1, (cell_far w2 _ u _ (by exact hne1)).trans hS2.2.2.2.2.1, (cell_far w2 _ u _ (by exact hne1)).trans hS2.2.2.2.2.2⟩
            have fz2 := (hB1.frozen (p := ⟨w.heap.size + 1 + 1, 3, none⟩) (by simp <;> omega)).trans (blk_frozen hT0.n 3)
            refine hK.out _ _ ⟨n3q, hS2⟩ (fun hHeld => ?_)
            clear hK K
            refine norm_ (a' := ?_) ?_ ?_
            rotate_left
            · show Act.put _ (some 76) _ = _
              simp only [Act.put, List.setIfInBounds_toArray, List.set_cons_zero, List.set_cons_succ, i64_w, i32_w]
              rfl
            refine pure_ (i := 11) (N := some 77) (v := ?_) (a' := ?_) #[true, true, true, true, true, true, true, true, true, true, true, true, false] rfl rfl (any_of HT_.out (by kernel_rfl)) (fun _ _ _ h => h) (Or.inl ⟨by rfl, ?_⟩) ?_ ?_
            rotate_left
            · intro w'
              go_simp
              with_reducible rfl
            rotate_left
            · simp only [Act.put, List.setIfInBounds_toArray, List.set_cons_zero, List.set_cons_succ, i64_w, i32_w]
              rfl
            refine last_ (i := 12) (N := none) #[true, true, true, true, true, true, true, true, true, true, true, true, true] rfl rfl (one_of HT_.out (by kernel_rfl)) (by decide) (fun K hK => ?_)
            refine skip_ (w1 := ?_) (by rfl) rfl ?_ ?_
            rotate_left
            · go_simp
              rfl
            refine hK.out _ _ ?_
            clear hK K
            refine done_ (done_of HT_.out (by kernel_rfl)) ?_
            all_goals
              have HT3 := Lib.hid ((hT0.from3 hB1).set 3 (.slice A7 kid1.length c7))
              have HR3 := Lib.hid (R_from hR1 (fun j hj _ => Below.heap_setCell w2 ⟨w.heap.size + 1 + 1, 3, none⟩ (.slice A7 kid1.length c7) j (by show j ≠ w.heap.size + 1 + 1; omega)))
              have HRK3 := Lib.hid (R_from hRK1 (fun j hj _ => Below.heap_setCell w2 ⟨w.heap.size + 1 + 1, 3, none⟩ (.slice A7 kid1.length c7) j (by show j ≠ w.heap.size + 1 + 1; omega)))
              clear hR1 hB1 hT0 hR0 hb hb0 hS0 hS1 hS1a hS2 hS2s n3q n3' n3d n3a fz2 hg1 hat1 n3 p4 e0 e1 e2 e3 e4 fz HB0 HT HR HRK KU hRK0 hRK1 hM
              go_wp2
              go_roundg (gk - 1)
              case rel => exact Lib.hid ⟨i + 1, by go_num, by omega, A, c, A7, c7, kid1, by rw [hA1.out, HA.out, HZ.out, HE.out]; exact (kids_snoc s ks i hii).symm, HT3.out, HRK3.out, HR3.out⟩
              case measure => omega
          · obtain rfl : i = ks.length := by omega
            have n0 := blk_cell hT.n 0
            have n1 := blk_cell hT.n 1
            have n2 := blk_cell hT.n 2
            have n3 := blk_cell hT.n 3
            have p4 : wr.cell? ⟨w.heap.size, 4, none⟩ = some (.slice A4 ks.length c4) := (blk_cell hT.p 4).trans rfl
            have r0 := blk_cell hT.r 0
            have r1 := blk_cell hT.r 1
            have r2 := blk_cell hT.r 2
            have r3 := blk_cell hT.r 3
            have f0 := blk_frozen hT.r 0
            have f1 := blk_frozen hT.r 1
            have f2 := blk_frozen hT.r 2
            have f3 := blk_frozen hT.r 3
            have HT := Lib.hid hT
            have HRK := Lib.hid hRk
            have HR := Lib.hid hR
            have HA := Lib.hid (show kid = ks.map (tree s) by rw [hkid, List.take_length])
            clear hT hRk hR hkid
            go_wp2
            refine bodyPost_ret (v := .agg #[.int .i64 k, .string x, .slice A acc.length c, .slice A' kid.length c']) ?_ rfl ?_
            · simp [results, Tryz.results39, go_sem, r0, r1, r2, r3, f0, f1, f2, f3]
            · rw [← HKY.out, ← HA.out]
              refine tree_done HT.out HRK.out HR.out _ ?_; repeat (first | with_reducible exact Sets.refl _ _ | with_reducible apply Sets.set0 | with_reducible apply Sets.set1)
mutual
theorem tree_any (s : ByteArray) (hs : s.size ≤ 2147483647) : ∀ p, okT s p → TreeC s p
  | ⟨k, b, e, ns, ks⟩, h => tree_step s hs k b e ns ks (by
      have h' := h
      rw [okT] at h'
      exact trees_any s hs ks h'.2.2.2) h
theorem trees_any (s : ByteArray) (hs : s.size ≤ 2147483647) : ∀ ks, okTs s ks → ∀ p ∈ ks, TreeC s p
  | [], _, p, hp => by cases hp
  | q :: ks, h, p, hp => by
      rw [okTs] at h
      rcases List.mem_cons.1 hp with e | hp
      · rw [e]; exact tree_any s hs q h.1
      · exact trees_any s hs ks h.2 p hp
end
end Go.Proofs.YtcaigeikdnoheaaGreatDoor.J

set_option linter.unusedVariables false
set_option linter.unusedSimpArgs false
namespace Go.Proofs.YtcaigeikdnoheaaGreatDoor.J
open Go.RowKit Go.Proofs.YtcaigeikdnoheaaGreatDoorW.PrintWords Go.Proofs.YtcaigeikdnoheaaGreatDoorW.PrintLast Go.Proofs.YtcaigeikdnoheaaGreatDoorW.PrintMore Go.Proofs.YtcaigeikdnoheaaGreatDoor.Aid

/-- The tree of a text. -/
def readT (s : ByteArray) : Option Tn := (text (bytesOf s)).map (tree s)
def RPost (w : World) : Option Tn → Ending → World → Prop
  | some x, e, w' => ∃ A2 c2 A3 c3, Below w.heap.size w w' ∧ Kd.string.R tSt w' w.heap.size (fun _ => True) (.slice A2 x.keys.length c2) x.keys ∧ kTn.R tNd w' w.heap.size (fun _ => True) (.slice A3 x.kids.length c3) x.kids ∧
      e = .returned (.tuple #[.agg #[.int .i64 x.kind, .string x.text, .slice A2 x.keys.length c2, .slice A3 x.kids.length c3], .bool true])
  | none, e, w' => Below w.heap.size w w' ∧ e = .returned (.tuple #[.agg #[.int .i64 0, .string ⟨#[]⟩, .slice none 0 0, .slice none 0 0], .bool false])
structure Rw (w W : World) : Prop where
  r : W.heap[w.heap.size]? = some (.cells #[.int .i64 0, .string { data := #[] }, .slice none 0 0, .slice none 0 0] tNd (0, 0))
  b : Below w.heap.size w W
theorem Rw.start (w : World) : Rw w (w.alloc (.cells #[.int .i64 0, .string { data := #[] }, .slice none 0 0, .slice none 0 0] tNd)) := ⟨blk_new _ _, (Below.refl _ _).alloc (Nat.le_refl _) _⟩
theorem Rw.below {w W W' : World} (h : Rw w W) (k : Below W.heap.size W W') : Rw w W' := ⟨blk_below h.r k, below_then h.b h.b.size k⟩
theorem Rw.size {w W : World} (h : Rw w W) : w.heap.size + 1 ≤ W.heap.size := blk_lt h.r
theorem read_no {w W : World} (h : Rw w W) (W' : World) (hS : Sets w.heap.size W W') : RPost w none (.returned (.tuple #[.agg #[.int .i64 0, .string ⟨#[]⟩, .slice none 0 0, .slice none 0 0], .bool false])) W' :=
  ⟨⟨hS.os.trans h.b.os, hS.tape.trans h.b.tape, hS.output.trans h.b.output, by rw [hS.size]; exact h.b.size, fun k hk => (hS.block k (by omega) (by omega)).trans (h.b.block k hk)⟩, rfl⟩
theorem read_yes {w W : World} {x : Tn} {A3 A4 : Option Addr} {c3 c4 B : Nat} (h : Rw w W) (h3 : Kd.string.R tSt W B (fun _ => True) (.slice A3 x.keys.length c3) x.keys) (h4 : kTn.R tNd W B (fun _ => True) (.slice A4 x.kids.length c4) x.kids) (hB : w.heap.size + 2 ≤ B) (W' : World) (hS : Sets w.heap.size W W') :
    RPost w (some x) (.returned (.tuple #[.agg #[.int .i64 x.kind, .string x.text, .slice A3 x.keys.length c3, .slice A4 x.kids.length c4], .bool true])) W' :=
  ⟨A3, c3, A4, c4, ⟨hS.os.trans h.b.os, hS.tape.trans h.b.tape, hS.output.trans h.b.output, by rw [hS.size]; exact h.b.size, fun k hk => (hS.block k (by omega) (by omega)).trans (h.b.block k hk)⟩, hS.R h3 hB, hS.R h4 hB, rfl⟩

set_option maxHeartbeats 4000000 in
set_option maxRecDepth 100000 in
theorem Read_any (s : ByteArray) (hs : s.size ≤ 2147483647) (w : World) :
    Calls Tryz.prog 19 #[.string s] w (RPost w (readT s)) := by
  obtain ⟨res, hres⟩ : ∃ res, res = readT s := ⟨_, rfl⟩
  rw [← hres]
  unfold readT at hres
  cases F : text (bytesOf s) with
  | none =>
    rw [F] at hres
    obtain rfl : res = none := hres
    have KP := Lib.hid (fun W => Places_any s hs W)
    rw [F] at KP
    clear F
    go_enter Tryz.func19, Tryz.ntmps19
    go_wp2_with (go_at_call 14; refine (KP.out _).mono ?_; rintro e w1 ⟨hb, rfl⟩; have HT := Lib.hid (((Rw.start w).below hb).below (below_alloc (Below.refl _ _) (.cells #[.int .i64 0, .int .i64 0, .int .i64 0, .slice none 0 0, .slice none 0 0] tPl))); clear hb; have r0 := blk_cell HT.out.r 0; have r1 := blk_cell HT.out.r 1; have r2 := blk_cell HT.out.r 2; have r3 := blk_cell HT.out.r 3; have g0 := blk_frozen HT.out.r 0; have g1 := blk_frozen HT.out.r 1; have g2 := blk_frozen HT.out.r 2; have g3 := blk_frozen HT.out.r 3)
    refine bodyPost_ret (v := .tuple #[.agg #[.int .i64 0, .string ⟨#[]⟩, .slice none 0 0, .slice none 0 0], .bool false]) ?_ rfl ?_
    · simp [results, Tryz.results19, go_sem, r0, r1, r2, r3, g0, g1, g2, g3]
    · refine read_no HT.out _ ?_; repeat (first | with_reducible exact Sets.refl _ _ | with_reducible apply Sets.set0 | with_reducible apply Sets.set1)
  | some p =>
    rw [F] at hres
    obtain rfl : res = some (tree s p) := hres
    have KP := Lib.hid (fun W => Places_any s hs W)
    rw [F] at KP
    have KT := Lib.hid (tree_any s hs p (text_okT F))
    obtain ⟨x, hx⟩ : ∃ x, x = tree s p := ⟨_, rfl⟩
    unfold TreeC at KT
    rw [← hx] at KT ⊢
    clear F hx
    go_enter Tryz.func19, Tryz.ntmps19
    go_wp2_with (first
      | (go_at_call 14; refine (KP.out _).mono ?_; rintro e w1 ⟨A3, c3, A4, c4, hb, h3, h4, rfl⟩; have HT := (Rw.start w).below hb; have hz := HT.size; have e3 := Kd.R_reads' h3; have e4 := Kd.R_reads' h4; have KU := Lib.hid (KT.out (w1.alloc (.cells #[.int .i64 p.kind, .int .i64 p.b, .int .i64 p.e, .slice A3 p.names.length c3, .slice A4 p.kids.length c4] tPl)) A3 A4 c3 c4 e3.2.1 (Kd.C_below e3.2.2 (below_alloc (Below.refl _ _) _)) e4.2.1 (Kd.C_below e4.2.2 (below_alloc (Below.refl _ _) _))); replace HT := HT.below (below_alloc (Below.refl _ _) (.cells #[.int .i64 p.kind, .int .i64 p.b, .int .i64 p.e, .slice A3 p.names.length c3, .slice A4 p.kids.length c4] tPl)); clear e3 e4 h3 h4 hb; replace HT := Lib.hid HT)
      | (go_at_call 39; refine KU.out.mono ?_; rintro e w2 ⟨B2, d2, B3, d3, hb2, h2, h3, rfl⟩; have HX := Lib.hid (HT.out.below hb2); have HK := Lib.hid (And.intro h2 h3); clear hb2 h2 h3 KU HT; have r0 := blk_cell HX.out.r 0; have r1 := blk_cell HX.out.r 1; have r2 := blk_cell HX.out.r 2; have r3 := blk_cell HX.out.r 3; have g0 := blk_frozen HX.out.r 0; have g1 := blk_frozen HX.out.r 1; have g2 := blk_frozen HX.out.r 2; have g3 := blk_frozen HX.out.r 3))
    refine bodyPost_ret (v := .tuple #[.agg #[.int .i64 x.kind, .string x.text, .slice B2 x.keys.length d2, .slice B3 x.kids.length d3], .bool true]) ?_ rfl ?_
    · simp [results, Tryz.results19, go_sem, r0, r1, r2, r3, g0, g1, g2, g3]
    · refine read_yes HX.out HK.out.1 HK.out.2 (by simp; omega) _ ?_; repeat (first | with_reducible exact Sets.refl _ _ | with_reducible apply Sets.set0 | with_reducible apply Sets.set1)
end Go.Proofs.YtcaigeikdnoheaaGreatDoor.J

set_option linter.unusedVariables false
set_option linter.unusedSimpArgs false
namespace Go.Proofs.YtcaigeikdnoheaaGreatDoor.J
open Go.RowKit Go.Proofs.YtcaigeikdnoheaaGreatDoorW.PrintWords Go.Proofs.YtcaigeikdnoheaaGreatDoorW.PrintLast Go.Proofs.YtcaigeikdnoheaaGreatDoorW.PrintMore Go.Proofs.YtcaigeikdnoheaaGreatDoor.Aid
/-- The node's block. -/
structure Dw (w W : World) (P : Array Value) : Prop where
  p : W.heap[w.heap.size]? = some (.cells P tNd (0, 0))
  b : Below w.heap.size w W
theorem Dw.start (w : World) (P : Array Value) : Dw w (w.alloc (.cells P tNd)) P := ⟨blk_new _ _, (Below.refl _ _).alloc (Nat.le_refl _) _⟩
theorem Dw.below {w W W' : World} {P : Array Value} (h : Dw w W P) (k : Below W.heap.size W W') : Dw w W' P := ⟨blk_below h.p k, below_then h.b h.b.size k⟩
theorem Dw.size {w W : World} {P : Array Value} (h : Dw w W P) : w.heap.size + 1 ≤ W.heap.size := blk_lt h.p

end Go.Proofs.YtcaigeikdnoheaaGreatDoor.J
