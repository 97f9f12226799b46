/- gjson's runeit at four digits, EncodeRune of a small number, slices of strings, the bytes of a row. -/
import Derived.Test.YtbpiooeklkjilaaDoorZGlHex
import Derived.Test.YtbpiooeklkjilaaDoorZGlPure
import Derived.Test.YtbpiooeklkjilaaDoorZGx5
set_option linter.unusedVariables false
set_option linter.unusedSimpArgs false
namespace Go.Proofs.YtbpiooeklkjilaaDoor.Gl
open Go.RowKit Go.Proofs.YtbpiooeklkjilaaDoorW.PrintWords Go.Proofs.YtbpiooeklkjilaaDoorW.PrintLast Go.Proofs.YtbpiooeklkjilaaDoorW.PrintMore Go.Proofs.YtbpiooeklkjilaaDoor.Aid Go.Proofs.YtbpiooeklkjilaaDoor.J

theorem fourAll : ((List.range 32).all fun n => four [48, 48, 48 + (n : Int) / 16, hx ((n : Int) % 16)] == some (n : Int)) = true := by kernel_rfl
theorem four_hx {c : Int} (h0 : 0 ≤ c) (h1 : c < 32) : four [48, 48, 48 + c / 16, hx (c % 16)] = some c := by
  have := List.all_eq_true.1 fourAll c.toNat (List.mem_range.2 (by omega))
  rw [Int.toNat_of_nonneg h0] at this
  exact beq_iff_eq.1 this
set_option maxHeartbeats 4000000 in
set_option maxRecDepth 100000 in
theorem ParseUint_any (s : ByteArray) (c : Int) (hs : s.size = 4) (h4 : four (bytesOf s) = some c) (w : World) :
    Calls Tryd.prog 33 #[.string s, .int .i64 16, .int .i64 64] w fun e w' => e = .returned (.tuple #[.int .u64 c, .nilIface]) ∧ Below w.heap.size w w' := by
  have HK := Lib.hid (parse16 s hs w)
  have hp : pRes (bytesOf s) = .tuple #[.int .u64 c, .nilIface] := by unfold pRes; rw [h4]
  rw [hp] at HK
  clear h4 hp
  go_enter Tryd.func33, Tryd.ntmps33
  go_wp2_with (go_at_call 40; refine HK.out.mono ?_; rintro e w1 ⟨rfl, hb⟩; have HB := Lib.hid hb; clear hb)
  go_ret2
  exact ⟨rfl, HB.out⟩
theorem sl_from (s : ByteArray) (b : Nat) (h1 : b ≤ s.size) (W : World) : (Instr.slice 9 (.string s) (some (.int .i64 (b : Int))) none none).run Tryd.prog W = .ok (.string (s.extract b s.size)) W := by
  go_simp
theorem sl_to (s : ByteArray) (k : Nat) (h1 : k ≤ s.size) (W : World) : (Instr.slice 9 (.string s) none (some (.int .i64 (k : Int))) none).run Tryd.prog W = .ok (.string (s.extract 0 k)) W := by
  have h2 : (k : Int) ≤ (s.size : Int) := by omega
  go_simp
theorem sl_mid (s : ByteArray) (j k : Nat) (h0 : j ≤ k) (h1 : k ≤ s.size) (W : World) : (Instr.slice 9 (.string s) (some (.int .i64 (j : Int))) (some (.int .i64 (k : Int))) none).run Tryd.prog W = .ok (.string (s.extract j k)) W := by
  have h2 : (k : Int) ≤ (s.size : Int) := by omega
  have h3 : (j : Int) ≤ (k : Int) := by omega
  go_simp
theorem by_from (s : ByteArray) (k : Nat) : bytesOf (s.extract k s.size) = (bytesOf s).drop k := by
  rw [bytesOf_extract, List.take_of_length_le]
  rw [List.length_drop, bytesOf_length]; exact Nat.le_refl _
set_option maxRecDepth 100000 in
theorem runeit_any (s : ByteArray) (c : Int) (h0 : 0 ≤ c) (h1 : c < 32) (r : L) (hs : bytesOf s = [48, 48, 48 + c / 16, hx (c % 16)] ++ r) (w : World) :
    Calls Tryd.prog 24 #[.string s] w fun e w' => e = .returned (.int .i32 c) ∧ Below w.heap.size w w' := by
  have hl := bytesOf_length s
  rw [hs, List.length_append] at hl
  simp only [List.length_cons, List.length_nil] at hl
  obtain ⟨x, hx'⟩ : ∃ x, x = s.extract 0 4 := ⟨_, rfl⟩
  have ks : ∀ W : World, (Instr.slice 9 (.string s) none (some (.int .i64 4)) none).run Tryd.prog W = .ok (.string x) W := by rw [hx']; exact sl_to s 4 (by omega)
  have hb : bytesOf x = [48, 48, 48 + c / 16, hx (c % 16)] := by rw [hx', bytesOf_extract, List.drop_zero, hs]; rfl
  have hz : x.size = 4 := by rw [← bytesOf_length, hb]; rfl
  have HP := Lib.hid (fun W => ParseUint_any x c hz (by rw [hb]; exact four_hx h0 h1) W)
  clear hx' hb hz hs hl
  go_enter Tryd.func24, Tryd.ntmps24
  go_wp2_with (go_at_call 33; refine (HP.out _).mono ?_; rintro e w1 ⟨rfl, hb⟩; have HB := Lib.hid hb; clear hb)
  go_ret
  exact ⟨rfl, HB.out⟩
theorem sur_any (c : Int) (h0 : 0 ≤ c) (h1 : c < 32) (w : World) : Calls Tryd.prog 25 #[.int .i32 c] w fun e w' => e = .returned (.bool false) ∧ Drawn0 w w' := by
  refine PFnGjLessFold.utf16_IsSurrogate.calls c false w ?_
  unfold PFnGjLessFold.utf16_IsSurrogate.f
  rw [if_neg (by omega)]
/-- EncodeRune of a small number writes one byte. -/
theorem enc_any (g off n c : Nat) (r : Int) (cur : List Value) (w : World) (h0 : 0 ≤ r) (h1 : r ≤ 127) (h : Row w g cur) (hf : w.frozen? ⟨g, off, none⟩ = false) (hn : off < cur.length) (hn1 : 1 ≤ n) :
    Calls Tryd.prog 27 #[.slice (some ⟨g, off, none⟩) n c, .int .i32 r] w fun e w' => e = .returned (.int .i64 1) ∧ w' = w.setCell ⟨g, off, none⟩ (.int .u8 r) := by
  obtain ⟨v0, hc0⟩ : ∃ v, w.cell? ⟨g, off, none⟩ = some v := ⟨_, (h.cell _).trans (List.getElem?_eq_getElem hn)⟩
  clear h
  go_enter Tryd.func27, Tryd.ntmps27
  go_wp2
  go_ret
  exact ⟨rfl, rfl⟩
theorem out_string {w0 W : World} {v : Value} {xs : L} (h : OutF w0 W v xs) : (convert tBs 9 v).run Tryd.prog W = .ok (.string (strOfNums xs)) W := by
  obtain ⟨g, c, rfl, hI⟩ := h.reads
  exact run_convert_bytes_arg (P := Tryd.prog) W tBs tB Tryd.underlying35 Tryd.underlying5 g 0 xs.length c xs rfl (fun i hi => by rw [hI i hi]) 9 Tryd.underlying9
theorem made_arr' (n : Nat) (v : Value) : madeCells #[v] n = (List.replicate n v).toArray := by
  simp [madeCells, Nat.mod_one]
  apply Array.ext
  · simp
  · intro i h1 h2; simp
section
variable {ops : Array Oper} {rest : List Oper} {o : Oper} {a : Act} {Q : Exit → Act → World → Prop}
/-- make([]byte, 0, n) -/
theorem outF_make {w0 W : World} (hgd : o.guard = none) (x y : Operand) (ho : o.op = .makeSlice tBs x y) (n : Int) (hx : a.eval x = .int .i64 0) (hy : a.eval y = .int .i64 n) (h0 : 0 ≤ n) (hn : n ≤ 1000000) (hB : Below w0.heap.size w0 W)
    (h : ∀ w1, OutF w0 w1 (.slice (some ⟨W.heap.size, 0, none⟩) 0 n.toNat) [] → wpList Tryd.prog ops Q rest (a.put o.dst (.slice (some ⟨W.heap.size, 0, none⟩) 0 n.toNat)) w1) : wpList Tryd.prog ops Q (o :: rest) a W := by
  obtain ⟨i, hi, hz0, hz1, hz2⟩ := info_parts infoB
  have hrun := run_make (P := Tryd.prog) W tBs tB i (.int .u8 0) Tryd.underlying35 hi hz0 .i64 .i64 0 n (by omega) h0 (by rw [hz2]; omega) (by omega)
  rw [hz1, Nat.mul_one] at hrun
  refine wpList_plain hgd fun K hK => ?_
  unfold Oper.wp execOp
  simp only [ho, hx, hy, Sem.run_bind, Sem.run_pure, Result.andThen_ok, hrun]
  refine hK _ _ (h _ ?_)
  refine ⟨hB.alloc hB.size _, W.heap.size, n.toNat, List.replicate n.toNat (.int .u8 0), rfl, hB.size, ⟨tB, 0, 0, ?_, .inl (Nat.le_refl _)⟩, Nat.zero_le _, by rw [List.length_replicate], by omega, rfl⟩
  have e : madeCells (Value.int .u8 0).cells n.toNat = (List.replicate n.toNat (Value.int .u8 0)).toArray := made_arr' _ _
  rw [e]
  exact heap_alloc_new W _
end
theorem ix (s : ByteArray) (i : Int) (h0 : 0 ≤ i) (h1 : i < s.size) (W : World) : (Instr.index 9 (.string s) (.int .i64 i)).run Tryd.prog W = .ok (.int .u8 (bt s i)) W := by
  rw [run_index_string _ _ _ _ _ Tryd.underlying9, dif_pos ⟨h0, h1⟩]
  unfold bt
  rw [dif_pos (by omega)]
end Go.Proofs.YtbpiooeklkjilaaDoor.Gl
