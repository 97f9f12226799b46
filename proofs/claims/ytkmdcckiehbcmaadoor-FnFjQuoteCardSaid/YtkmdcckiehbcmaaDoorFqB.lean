/- The walks of strconv's quoting of a plain string, of hasSpecialChars, of escapeString. -/
import Derived.Test.YtkmdcckiehbcmaaDoorFqA
import Derived.Test.YtkmdcckiehbcmaaDoorFuA
set_option linter.unusedVariables false
set_option linter.unusedSimpArgs false
namespace Go.Proofs.YtkmdcckiehbcmaaDoor.J
open Go.RowKit Go.Proofs.YtkmdcckiehbcmaaDoorW.PrintWords Go.Proofs.YtkmdcckiehbcmaaDoorW.PrintLast Go.Proofs.YtkmdcckiehbcmaaDoorW.PrintMore Go.Proofs.YtkmdcckiehbcmaaDoor.Aid

theorem made_arr' (n : Nat) (v : Value) : madeCells #[v] n = (List.replicate n v).toArray := by
  simp [madeCells, Nat.mod_one]
  apply Array.ext
  · simp
  · intro i h1 h2; simp
section
variable {ops : Array Oper} {rest : List Oper} {o : Oper} {a : Act} {Q : Exit → Act → World → Prop}
/-- make([]byte, 0, n) -/
theorem outF_make {w0 W : World} (hgd : o.guard = none) (x y : Operand) (ho : o.op = .makeSlice tBs x y) (n : Int) (hx : a.eval x = .int .i64 0) (hy : a.eval y = .int .i64 n) (h0 : 0 ≤ n) (hn : n ≤ 1000000) (hB : Below w0.heap.size w0 W)
    (h : ∀ w1, OutF w0 w1 (.slice (some ⟨W.heap.size, 0, none⟩) 0 n.toNat) [] → wpList Tryd.prog ops Q rest (a.put o.dst (.slice (some ⟨W.heap.size, 0, none⟩) 0 n.toNat)) w1) : wpList Tryd.prog ops Q (o :: rest) a W := by
  obtain ⟨i, hi, hz0, hz1, hz2⟩ := info_parts infoB
  have hrun := run_make (P := Tryd.prog) W tBs tB i (.int .u8 0) Tryd.underlying36 hi hz0 .i64 .i64 0 n (by omega) h0 (by rw [hz2]; omega) (by omega)
  rw [hz1, Nat.mul_one] at hrun
  refine wpList_plain hgd fun K hK => ?_
  unfold Oper.wp execOp
  simp only [ho, hx, hy, Sem.run_bind, Sem.run_pure, Result.andThen_ok, hrun]
  refine hK _ _ (h _ ?_)
  refine ⟨hB.alloc hB.size _, W.heap.size, n.toNat, List.replicate n.toNat (.int .u8 0), rfl, hB.size, ⟨tB, 0, 0, ?_, .inl (Nat.le_refl _)⟩, Nat.zero_le _, by rw [List.length_replicate], by omega, rfl⟩
  have e : madeCells (Value.int .u8 0).cells n.toNat = (List.replicate n.toNat (Value.int .u8 0)).toArray := made_arr' _ _
  rw [e]
  exact heap_alloc_new W _
/-- copy of nothing -/
theorem copy_none {W : World} (hgd : o.guard = none) (d s : Operand) (ho : o.op = .call { callee := .builtin .copy, args := #[d, s], argTypes := #[tBs, tBs] }) (A : Option Addr) (n c : Nat)
    (hd : a.eval d = .slice A n c) (hs : a.eval s = .slice none 0 0) (h : wpList Tryd.prog ops Q rest (a.put o.dst (goInt 0)) W) : wpList Tryd.prog ops Q (o :: rest) a W := by
  obtain ⟨i0, hi, _, hz1, _⟩ := info_parts infoB
  have hsz : (Tryd.prog.info? tB).map (·.size) = some 1 := by rw [hi]; simp [hz1]
  exact wpList_copy_nothing hgd d s tBs tBs ho tB Tryd.underlying36 hsz A none n c 0 0 hd hs (by simp) h
end
set_option maxHeartbeats 4000000 in
set_option maxRecDepth 100000 in
theorem fqq_any (s : ByteArray) (w : World) (hs : s.size ≤ 1000) (h0 : 0 < s.size) (hp : (bytesOf s).all pl2 = true) :
    Calls Tryd.prog 76 #[.slice none 0 0, .string s, .int .u8 34, .bool false, .bool false] w (OuPost w (34 :: (qs (bytesOf s) ++ [34]))) := by
  have HB := Lib.hid (Below.refl w.heap.size w)
  have hlen := bytesOf_length s
  obtain ⟨l, hl⟩ : ∃ l, l = bytesOf s := ⟨_, rfl⟩
  rw [← hl] at hp hlen ⊢
  have hq := qs_len l
  have HP := Lib.hid hp
  have HLs := Lib.hid hl
  have hd1 : decide (0 < s.size) = true := decide_eq_true h0
  have hd2 : decide ((0 : Int) < (s.size : Int)) = true := decide_eq_true (by omega)
  clear hp hl
  go_enter Tryd.func76, Tryd.ntmps76
  go_wp2_with (first
    | (refine outF_make rfl _ _ rfl ((s.size : Int) + 2) rfl (by first | rfl | (simp [go_sem]; omega)) (by omega) (by omega) HB.out ?_; intro w1 ho; have HO := Lib.hid ho; clear ho)
    | (refine copy_none rfl (.tmp 32) (.tmp 33) rfl _ _ _ rfl rfl ?_)
    | (at_builtin; refine outF_row rfl (.tmp 36) (.tmp 38) rfl _ [34] [] 1 1 rfl (by simp [go_sem]) rfl HO.out (by simp) ?_; intro v1 w2 ho; have H1 := Lib.hid ho; clear ho))
  go_loopg [0, 1] s.size (fun kq v0 v1 w' => Hid (∃ (sq : ByteArray) (dn : L), v1 = .string sq ∧ sq.size = kq ∧ l = dn ++ bytesOf sq ∧ OutF w w' v0 (34 :: qs dn)))
  case atStart => exact Lib.hid ⟨s, [], rfl, rfl, HLs.out, H1.out⟩
  case round =>
    obtain ⟨sq, dn, rfl, rfl, hld, hO⟩ := hrel.out
    clear hrel H1 HO
    have hsl := bytesOf_length sq
    have H2 := Lib.hid hO
    have hdl := qs_len dn
    have hdn : dn.length + sq.size = s.size := by rw [← hlen, hld, List.length_append, hsl]
    clear hO
    cases hb : bytesOf sq with
    | nil =>
      have z0 : sq.size = 0 := by rw [← hsl, hb]; rfl
      have e1 : decide (0 < sq.size) = false := decide_eq_false (by omega)
      have e2 : decide ((0 : Int) < (sq.size : Int)) = false := decide_eq_false (by omega)
      have n0 : ¬ 0 < sq.size := by omega
      have fin : Hid ((34 :: qs dn) ++ [34] = 34 :: (qs l ++ [34])) := Lib.hid (by rw [hld, hb, List.append_nil]; rfl)
      have hll : (34 :: qs dn).length + 1 ≤ 4294967296 := by rw [List.length_cons]; omega
      clear hb hsl hld
      go_wp2_with (at_builtin; refine outF_row rfl (.tmp 79) (.tmp 81) rfl _ [34] (34 :: qs dn) 1 1 rfl (by simp [go_sem]) rfl H2.out hll ?_; intro v1 w2 ho; have H3 := Lib.hid ho; clear ho)
      go_ret
      exact ⟨_, rfl, by rw [← fin.out]; exact H3.out⟩
    | cons c t =>
      have z0 : t.length + 1 = sq.size := by rw [← hsl, hb, List.length_cons]
      have hlt : 0 < sq.size := by omega
      have e1 : decide (0 < sq.size) = true := decide_eq_true hlt
      have e2 : decide ((0 : Int) < (sq.size : Int)) = true := decide_eq_true (by omega)
      have hc : pl2 c = true := List.all_eq_true.1 HP.out c (by rw [hld, hb]; simp)
      have hcr : 8 ≤ c ∧ c ≤ 126 := by
        unfold pl2 at hc
        simp only [Bool.or_eq_true, Bool.and_eq_true, decide_eq_true_eq, beq_iff_eq] at hc
        omega
      have h65 : (c == 65533) = false := beq_eq_false_iff_ne.mpr (by omega)
      have hll : (34 :: qs dn).length + 2 ≤ 4294967296 := by rw [List.length_cons]; omega
      have HD : Hid (∀ W, Calls Tryd.prog 85 #[.string sq] W fun e w' => e = .returned (.tuple #[.int .i32 c, .int .i64 1]) ∧ w' = W) := Lib.hid (fun W => by
        have hx : ((sq[0]'hlt).toNat : Int) = c := by rw [from_at0 sq 0 hlt]; unfold from_; rw [List.drop_zero, hb]; rfl
        have := Tryd.utf8_DecodeRuneInString_ascii sq (sq[0]'hlt) W (by rw [Array.getElem?_toList]; exact Array.getElem?_eq_getElem hlt) (by omega)
        rw [hx] at this
        exact this)
      have HE := Lib.hid (show ∀ W v, OutF w W v (34 :: qs dn) → Calls Tryd.prog 86 #[v, .int .i32 c, .int .u8 34, .bool false, .bool false] W (OuPost w ((34 :: qs dn) ++ qz c)) from fun W v ho => esc_any w W v _ c hc hll ho)
      obtain ⟨s2, hs2⟩ : ∃ s2, s2 = sq.extract 1 sq.size := ⟨_, rfl⟩
      have b2 : bytesOf s2 = t := by rw [hs2, by_from, hb]; rfl
      have z2 : s2.size + 1 = sq.size := by rw [← bytesOf_length, b2, z0]
      have ks2 : ∀ W : World, (Instr.slice 9 (.string sq) (some (.int .i64 1)) none none).run Tryd.prog W = .ok (.string s2) W := by rw [hs2]; exact sl_from sq 1 (by omega)
      have fin : Hid (∀ W v, OutF w W v ((34 :: qs dn) ++ qz c) → ∃ (sx : ByteArray) (dx : L), Value.string s2 = .string sx ∧ sx.size = s2.size ∧ l = dx ++ bytesOf sx ∧ OutF w W v (34 :: qs dx)) := Lib.hid (fun W v ho => ⟨s2, dn ++ [c], rfl, rfl, by rw [b2, hld, hb]; simp, by rw [qs_append]; simpa [qs] using ho⟩)
      clear hb hsl hld hc hs2 b2 hdl
      go_wp2_with (first
        | (go_at_call 85; refine (HD.out _).mono ?_; rintro e w3 ⟨rfl, hw⟩; replace hw := hw.symm; subst hw)
        | (go_at_call 86; refine (HE.out _ _ H2.out).mono ?_; rintro e w3 ⟨v3, rfl, ho⟩; have H3 := Lib.hid ho; clear ho))
      go_roundg s2.size
      case rel => exact Lib.hid (fin.out _ _ H3.out)
      case measure => omega
theorem aq_any (s : ByteArray) (w : World) (hs : s.size ≤ 1000) (h0 : 0 < s.size) (hp : (bytesOf s).all pl2 = true) :
    Calls Tryd.prog 57 #[.slice none 0 0, .string s] w (OuPost w (34 :: (qs (bytesOf s) ++ [34]))) := by
  have K := Lib.hid (fqq_any s w hs h0 hp)
  clear hp
  go_enter Tryd.func57, Tryd.ntmps57
  go_wp2_with (go_at_call 76; refine K.out.mono ?_; rintro e w1 ⟨v1, rfl, ho⟩; have H1 := Lib.hid ho; clear ho)
  go_ret
  exact ⟨_, rfl, H1.out⟩

/-! ### hasSpecialChars -/
theorem index_at (s : ByteArray) (b : UInt8) : (((b.toNat : Int) ∈ bytesOf s) ∧ ∃ n : Nat, Lib.indexByte s.data.toList b = (n : Int)) ∨ (((b.toNat : Int) ∉ bytesOf s) ∧ Lib.indexByte s.data.toList b = -1) := by
  have key : ∀ (l : List UInt8), (((b.toNat : Int) ∈ (l.map fun b => (b.toNat : Int))) ∧ ∃ n : Nat, Lib.indexByte l b = (n : Int)) ∨ (((b.toNat : Int) ∉ (l.map fun b => (b.toNat : Int))) ∧ Lib.indexByte l b = -1) := by
    intro l
    induction l with
    | nil => exact .inr ⟨by simp, rfl⟩
    | cons x t ih =>
      by_cases hb : x = b
      · subst hb
        exact .inl ⟨by simp, 0, by unfold Lib.indexByte; simp⟩
      · have hn : (b.toNat : Int) ≠ (x.toNat : Int) := fun h => hb (UInt8.toNat_inj.1 (by omega))
        have hb' : (x == b) = false := beq_eq_false_iff_ne.mpr hb
        rcases ih with ⟨e1, n, e2⟩ | ⟨e1, e2⟩
        · refine .inl ⟨by rw [List.map_cons]; exact List.mem_cons_of_mem _ e1, n + 1, ?_⟩
          unfold Lib.indexByte
          rw [hb', if_neg (by decide), e2, if_neg (by simp)]; rfl
        · refine .inr ⟨?_, ?_⟩
          · rw [List.map_cons, List.mem_cons, not_or]; exact ⟨hn, e1⟩
          · unfold Lib.indexByte
            rw [hb', if_neg (by decide), e2]; rfl
  exact key s.data.toList
theorem pl1_not {c : Int} {l : L} (hc : c ∈ l) (h : pl1 c = false) : l.all pl1 = false := by
  cases hh : l.all pl1 with
  | false => rfl
  | true => have := List.all_eq_true.1 hh c hc; rw [h] at this; cases this
set_option maxHeartbeats 4000000 in
set_option maxRecDepth 100000 in
theorem special_any (s : ByteArray) (w : World) (hs : s.size ≤ 1000) :
    Calls Tryd.prog 56 #[.string s] w fun e w' => e = .returned (.bool (!(bytesOf s).all pl1)) ∧ w' = w := by
  have H34 := Lib.hid (fun W => Tryd.strings_IndexByte s 34 W)
  have H92 := Lib.hid (fun W => Tryd.strings_IndexByte s 92 W)
  have a34 : (34 : Int).toNat.toUInt8 = 34 := rfl
  have a92 : (92 : Int).toNat.toUInt8 = 92 := rfl
  rw [a34] at H34
  rw [a92] at H92
  rcases index_at s 34 with ⟨m1, n1, e1⟩ | ⟨m1, e1⟩
  · rw [e1] at H34
    have e : Hid ((!(bytesOf s).all pl1) = true) := Lib.hid (by rw [pl1_not (c := 34) m1 rfl]; rfl)
    have d1 : decide (0 ≤ (n1 : Int)) = true := decide_eq_true (by omega)
    clear m1 e1
    go_enter Tryd.func56, Tryd.ntmps56
    go_wp2_with (go_at_call 64; refine (H34.out _).mono ?_; rintro e w3 ⟨rfl, hw⟩; replace hw := hw.symm; subst hw)
    go_ret
    exact ⟨by rw [e.out]; rfl, rfl⟩
  rw [e1] at H34
  rcases index_at s 92 with ⟨m2, n2, e2⟩ | ⟨m2, e2⟩
  · rw [e2] at H92
    have e : Hid ((!(bytesOf s).all pl1) = true) := Lib.hid (by rw [pl1_not (c := 92) m2 rfl]; rfl)
    have d1 : decide (0 ≤ (n2 : Int)) = true := decide_eq_true (by omega)
    clear m1 e1 m2 e2
    go_enter Tryd.func56, Tryd.ntmps56
    go_wp2_with (first
      | (go_at_call_of 64 (Value.int .u8 34); refine (H34.out _).mono ?_; rintro e w3 ⟨rfl, hw⟩; replace hw := hw.symm; subst hw)
      | (go_at_call_of 64 (Value.int .u8 92); refine (H92.out _).mono ?_; rintro e w3 ⟨rfl, hw⟩; replace hw := hw.symm; subst hw))
    go_ret
    exact ⟨by rw [e.out]; rfl, rfl⟩
  rw [e2] at H92
  have M := Lib.hid (show (34 : Int) ∉ bytesOf s ∧ (92 : Int) ∉ bytesOf s from ⟨m1, m2⟩)
  have hlen := bytesOf_length s
  clear m1 e1 m2 e2
  go_enter Tryd.func56, Tryd.ntmps56
  go_wp2_with (first
    | (go_at_call_of 64 (Value.int .u8 34); refine (H34.out _).mono ?_; rintro e w3 ⟨rfl, hw⟩; replace hw := hw.symm; subst hw)
    | (go_at_call_of 64 (Value.int .u8 92); refine (H92.out _).mono ?_; rintro e w3 ⟨rfl, hw⟩; replace hw := hw.symm; subst hw))
  go_loopg [14] s.size (fun kq v14 w' => w' = w ∧ Hid (∃ i : Nat, v14 = .int .i64 ((i : Nat) : Int) ∧ i + kq = s.size ∧ ((bytesOf s).take i).all pl1 = true))
  case atStart => exact ⟨rfl, Lib.hid ⟨0, rfl, by omega, by simp⟩⟩
  case round =>
    obtain ⟨rfl, hrel⟩ := hrel
    obtain ⟨i, rfl, hik, hal⟩ := hrel.out
    clear hrel
    rcases Nat.lt_or_ge i s.size with hlt | hge
    · have hx := from_at0 s i hlt
      obtain ⟨c, hc⟩ : ∃ c, c = (from_ s i).getD 0 0 := ⟨_, rfl⟩
      rw [← hc] at hx
      have hci : (bytesOf s)[i]? = some c := by
        rw [hc]; unfold from_
        rw [getD_drop', Nat.add_zero, List.getD_eq_getElem?_getD, List.getElem?_eq_getElem (by omega)]; rfl
      have hcm : c ∈ bytesOf s := List.mem_of_getElem? hci
      have n34 : c ≠ 34 := fun h => M.out.1 (h ▸ hcm)
      have n92 : c ≠ 92 := fun h => M.out.2 (h ▸ hcm)
      by_cases h32 : c < 32
      · have e : Hid ((!(bytesOf s).all pl1) = true) := Lib.hid (by
          rw [pl1_not hcm (by unfold pl1; rw [decide_eq_false (by omega)]; rfl)]; rfl)
        have d1 : decide (c < 32) = true := decide_eq_true h32
        clear hal hc hci hcm
        go_wp2
        go_ret
        exact ⟨by rw [e.out]; rfl, rfl⟩
      · have nx : Hid (((bytesOf s).take (i + 1)).all pl1 = true) := Lib.hid (by
          rw [List.take_add_one, hci, List.all_append, hal]
          unfold pl1
          simp [n34, n92]; omega)
        have d1 : decide (c < 32) = false := decide_eq_false h32
        clear hal hc hci hcm
        go_wp2
        go_roundg (s.size - (i + 1))
        case rel => exact ⟨rfl, Lib.hid ⟨i + 1, rfl, by omega, nx.out⟩⟩
        case measure => omega
    · have e : Hid ((!(bytesOf s).all pl1) = false) := Lib.hid (by
        rw [List.take_of_length_le (by omega)] at hal
        rw [hal]; rfl)
      clear hal
      go_wp2
      go_ret
      exact ⟨by rw [e.out]; rfl, rfl⟩
end Go.Proofs.YtkmdcckiehbcmaaDoor.J
