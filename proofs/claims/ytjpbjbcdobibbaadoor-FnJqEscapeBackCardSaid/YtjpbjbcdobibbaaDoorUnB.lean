/- The walks of the parser's unescaping: one escape. -/
import Derived.Test.YtjpbjbcdobibbaaDoorUnA
set_option linter.unusedVariables false
set_option linter.unusedSimpArgs false
namespace Go.Proofs.YtjpbjbcdobibbaaDoor.J
open Go.RowKit Go.Proofs.YtjpbjbcdobibbaaDoorW.PrintWords Go.Proofs.YtjpbjbcdobibbaaDoorW.PrintLast Go.Proofs.YtjpbjbcdobibbaaDoorW.PrintMore Go.Proofs.YtjpbjbcdobibbaaDoor.Aid Go.Proofs.YtjpbjbcdobibbaaDoor.PFnJpUnescape

/-- The table of the letters behind a backslash. -/
def Tab (w : World) : Prop := ∀ c : Int, plainEsc c = true → w.cell? ⟨3, c.toNat, none⟩ = some (.int .u8 (short c))
def cfg0 : Value := .agg #[.bool false, .bool false, .int .i64 0]
def UePost (g off : Nat) (cur : List Value) (w : World) (r : Option (Nat × L)) (e : Ending) (w' : World) : Prop :=
  But g w w' ∧ Row w' g (match r with | none => cur | some x => splice cur off (nums .u8 x.2)) ∧
  e = .returned (match r with | none => .tuple #[.int .i64 (-1), .int .i64 (-1)] | some x => .tuple #[.int .i64 (x.1 : Nat), .int .i64 x.2.length])
theorem But.drew0 {g : Nat} {a b c : World} (h : But g a b) (k : Drawn0 b c) : But g a c := by
  obtain ⟨n, rfl⟩ := k.out
  exact h.drewN n
theorem Row.drew0 {g : Nat} {b c : World} {cur : List Value} (h : Row b g cur) (k : Drawn0 b c) : Row c g cur := by
  obtain ⟨n, rfl⟩ := k.out
  exact h
theorem Row.alloc {g : Nat} {w : World} {cur : List Value} (h : Row w g cur) (o : Obj) : Row (w.alloc o) g cur := by
  obtain ⟨t, h⟩ := h
  exact ⟨t, blk_alloc h o⟩
theorem Row.lt {g : Nat} {w : World} {cur : List Value} (h : Row w g cur) : g < w.heap.size := by
  obtain ⟨t, h⟩ := h
  exact blk_lt h
theorem In.alloc {w : World} {b o : Nat} {l : L} (h : In w b o l) (x : Obj) : In (w.alloc x) b o l := fun j hj => pw_cell_below ((Below.refl _ _).alloc (Nat.le_refl _) x) (h j hj)

set_option maxHeartbeats 4000000 in
set_option maxRecDepth 100000 in
theorem ue_plain (b o c g off n cO : Nat) (l : L) (cur : List Value) (w : World) (x : Int) (hx : plainEsc x = true) (hl2 : 2 ≤ l.length) (h0 : l.getD 0 0 = 92) (h1 : l.getD 1 0 = x) (hlm : l.length ≤ 4294967296)
    (hi : In w b o l) (hr : Row w g cur) (hn : off + n ≤ cur.length) (hn1 : 1 ≤ n) (hT : Tab w) :
    Calls Tryd.prog 55 #[cfg0, .slice (some ⟨b, o, none⟩) l.length c, .slice (some ⟨g, off, none⟩) n cO] w (UePost g off cur w (some (2, [short x]))) := by
  have c0 := hi 0 (by omega)
  have c1 := hi 1 (by omega)
  rw [h0] at c0
  rw [h1] at c1
  simp only [Nat.add_zero] at c0
  have t := hT x hx
  have hbw : b < w.heap.size := block_lt_of_cell c1
  have h3w : 3 < w.heap.size := block_lt_of_cell t
  have hgw : g < w.heap.size := hr.lt
  obtain ⟨v0, hc0⟩ : ∃ v, w.cell? ⟨g, off, none⟩ = some v := ⟨_, (hr.cell _).trans (List.getElem?_eq_getElem (by omega))⟩
  have hf0 := hr.frozen off
  have hx' : x = 34 ∨ x = 92 ∨ x = 47 ∨ x = 98 ∨ x = 102 ∨ x = 110 ∨ x = 114 ∨ x = 116 := by unfold plainEsc at hx; simpa [or_assoc] using hx
  have R := Lib.hid hr
  have fin : Hid (∀ ob : Obj, UePost g off cur w (some (2, [short x])) (.returned (.tuple #[.int .i64 2, .int .i64 1])) ((w.setCell ⟨g, off, none⟩ (.int .u8 (short x))).alloc ob)) := Lib.hid (fun ob => ⟨((But.refl g w).set off _).alloc ob, by
    show Row _ g (splice cur off (nums .u8 [short x]))
    rw [show nums .u8 [short x] = [.int .u8 (short x)] from rfl, splice_cons _ _ _ _ (by omega), splice_nil]
    exact (R.out.set off _).alloc ob, rfl⟩)
  have hd0 : decide ((l.length : Int) < 2) = false := decide_eq_false (by omega)
  clear hi hr hT h0 h1 hx
  unfold cfg0
  rcases hx' with rfl | rfl | rfl | rfl | rfl | rfl | rfl | rfl
  all_goals
    simp only [Int.reduceToNat] at t
    go_enter Tryd.func55, Tryd.ntmps55
    go_wp2
    go_ret2
    exact fin.out _

set_option maxHeartbeats 4000000 in
set_option maxRecDepth 100000 in
theorem ue_none (b o c g off n cO : Nat) (l : L) (cur : List Value) (w : World) (hl1 : 1 ≤ l.length) (h0 : l.getD 0 0 = 92) (hu : l.length < 2 ∨ (¬ plainEsc (l.getD 1 0) = true ∧ l.getD 1 0 ≠ 117)) (hlm : l.length ≤ 4294967296)
    (hi : In w b o l) (hr : Row w g cur) :
    Calls Tryd.prog 55 #[cfg0, .slice (some ⟨b, o, none⟩) l.length c, .slice (some ⟨g, off, none⟩) n cO] w (UePost g off cur w none) := by
  have R := Lib.hid hr
  have fin : Hid (∀ w1 : World, But g w w1 → Row w1 g cur → UePost g off cur w none (.returned (.tuple #[.int .i64 (-1), .int .i64 (-1)])) w1) := Lib.hid (fun w1 b1 r1 => ⟨b1, r1, rfl⟩)
  unfold cfg0
  by_cases h2 : l.length < 2
  · have hd0 : decide ((l.length : Int) < 2) = true := decide_eq_true (by omega)
    clear hi hr h0 hu
    go_enter Tryd.func55, Tryd.ntmps55
    go_wp2
    go_ret2
    exact fin.out _ ((But.refl g w).alloc _) (R.out.alloc _)
  · have c0 := hi 0 (by omega)
    have c1 := hi 1 (by omega)
    rw [h0] at c0
    simp only [Nat.add_zero] at c0
    have hbw : b < w.heap.size := block_lt_of_cell c1
    have hgw : g < w.heap.size := hr.lt
    obtain ⟨hp, hne⟩ := hu.resolve_left h2
    obtain ⟨x, hx⟩ : ∃ x, x = l.getD 1 0 := ⟨_, rfl⟩
    rw [← hx] at c1 hp hne
    unfold plainEsc at hp
    simp only [Bool.or_eq_true, not_or, Bool.not_eq_true] at hp
    obtain ⟨⟨⟨⟨⟨⟨⟨p1, p2⟩, p3⟩, p4⟩, p5⟩, p6⟩, p7⟩, p8⟩ := hp
    have hd0 : decide ((l.length : Int) < 2) = false := decide_eq_false (by omega)
    have p9 : (x == 117) = false := beq_eq_false_iff_ne.mpr hne
    clear hi hr h0 hu hx hne
    by_cases e : x = 39
    · subst e
      clear p1 p2 p3 p4 p5 p6 p7 p8 p9
      go_enter Tryd.func55, Tryd.ntmps55
      go_wp2
      go_ret2
      exact fin.out _ ((But.refl g w).alloc _) (R.out.alloc _)
    · have p10 : (x == 39) = false := beq_eq_false_iff_ne.mpr e
      clear e
      go_enter Tryd.func55, Tryd.ntmps55
      go_wp2
      go_ret2
      exact fin.out _ ((But.refl g w).alloc _) (R.out.alloc _)

set_option maxHeartbeats 4000000 in
set_option maxRecDepth 100000 in
theorem ue_u (b o c g off n cO : Nat) (l : L) (cur : List Value) (w : World) (hb : ∀ x ∈ l, byt x) (hl2 : 2 ≤ l.length) (h0 : l.getD 0 0 = 92) (h1 : l.getD 1 0 = 117) (hlm : l.length ≤ 4294967296) (hlc : l.length ≤ c)
    (hi : In w b o l) (hr : Row w g cur) (hn : off + n ≤ cur.length) (hln : l.length ≤ n) :
    Calls Tryd.prog 55 #[cfg0, .slice (some ⟨b, o, none⟩) l.length c, .slice (some ⟨g, off, none⟩) n cO] w (UePost g off cur w (ue l)) := by
  have R := Lib.hid hr
  have c0 := hi 0 (by omega)
  have c1 := hi 1 (by omega)
  rw [h0] at c0
  rw [h1] at c1
  simp only [Nat.add_zero] at c0
  have HD : Hid (∀ W, In W b o l → Calls Tryd.prog 61 #[.slice (some ⟨b, o, none⟩) l.length c] W fun e w' => e = .returned (.tuple #[.int .i32 (duc l).1, .int .i64 (duc l).2]) ∧ Drawn0 W w') :=
    Lib.hid (fun W hW => jsonparser_decodeUnicodeEscape.calls 3 _ c l _ _ W (Kd.C_of_reads (hW.reads (by omega))) hlc (duc_f 0 l hb))
  have HI := Lib.hid hi
  have hbw : b < w.heap.size := block_lt_of_cell c1
  have hgw : g < w.heap.size := hr.lt
  have hd0 : decide ((l.length : Int) < 2) = false := decide_eq_false (by omega)
  unfold cfg0
  rcases duc_ue hl2 h0 h1 with ⟨hu, e2⟩ | ⟨k, oo, hu, e2, eo, r0, r1⟩
  · rw [hu]
    have fin : Hid (∀ w1 : World, But g w w1 → Row w1 g cur → UePost g off cur w none (.returned (.tuple #[.int .i64 (-1), .int .i64 (-1)])) w1) := Lib.hid (fun w1 b1 r1 => ⟨b1, r1, rfl⟩)
    rw [e2] at HD
    clear hi hr h0 h1 hu e2 hb
    go_enter Tryd.func55, Tryd.ntmps55
    go_wp2_with (go_at_call 61; refine (HD.out _ (HI.out.alloc _)).mono ?_; rintro e w1 ⟨rfl, hd⟩; replace hd := Lib.hid hd)
    go_ret2
    exact fin.out _ (((But.refl g w).alloc _).drew0 hd.out) ((R.out.alloc _).drew0 hd.out)
  · rw [hu]
    have pos := ue_pos hu
    have fin : Hid (∀ (w1 w2 : World) (e : Ending), But g w w1 → wasWritten g off cur oo w1 e w2 → e = .returned (.int .i64 oo.length) ∧ UePost g off cur w (some (k, oo)) (.returned (.tuple #[.int .i64 (k : Nat), .int .i64 oo.length])) w2) :=
      Lib.hid (fun w1 w2 e b1 h2 => ⟨h2.1, b1.trans h2.2.2, h2.2.1, rfl⟩)
    have hk : ((k : Int) == -1) = false := beq_eq_false_iff_ne.mpr (by omega)
    rw [e2] at HD
    have hol : (utf8 (duc l).1).length ≤ n := by rw [← eo]; omega
    have EO := Lib.hid eo
    clear hi hr h0 h1 hu e2 hb eo pos
    go_enter Tryd.func55, Tryd.ntmps55
    go_wp2_with (first | (go_at_call 61; refine (HD.out _ (HI.out.alloc _)).mono ?_; rintro e w1 ⟨rfl, hd⟩; replace hd := Lib.hid hd) | (go_at_call 62; refine (enc_any g off n cO (duc l).1 cur _ r0 r1 ((R.out.alloc _).drew0 hd.out) hn hol).mono ?_; rintro e w2 h2; rw [← EO.out] at h2; obtain ⟨rfl, h3⟩ := fin.out _ _ _ (((But.refl g w).alloc _).drew0 hd.out) h2; clear h2; replace h3 := Lib.hid h3))
    go_ret2
    exact h3.out

theorem ue_any (b o c g off n cO : Nat) (l : L) (cur : List Value) (w : World) (hb : ∀ x ∈ l, byt x) (hl1 : 1 ≤ l.length) (h0 : l.getD 0 0 = 92) (hlm : l.length ≤ 4294967296) (hlc : l.length ≤ c)
    (hi : In w b o l) (hr : Row w g cur) (hn : off + n ≤ cur.length) (hln : l.length ≤ n) (hT : Tab w) :
    Calls Tryd.prog 55 #[cfg0, .slice (some ⟨b, o, none⟩) l.length c, .slice (some ⟨g, off, none⟩) n cO] w (UePost g off cur w (ue l)) := by
  by_cases h2 : l.length < 2
  · have e : ue l = none := by unfold ue; rw [if_pos h2]
    rw [e]
    exact ue_none b o c g off n cO l cur w hl1 h0 (.inl h2) hlm hi hr
  by_cases hp : plainEsc (l.getD 1 0) = true
  · have e : ue l = some (2, [short (l.getD 1 0)]) := by unfold ue; rw [if_neg h2, if_pos hp]
    rw [e]
    exact ue_plain b o c g off n cO l cur w _ hp (by omega) h0 rfl hlm hi hr hn (by omega) hT
  by_cases hu : l.getD 1 0 = 117
  · exact ue_u b o c g off n cO l cur w hb (by omega) h0 hu hlm hlc hi hr hn hln
  · have e : ue l = none := by unfold ue; rw [if_neg h2, if_neg hp, if_neg hu]
    rw [e]
    exact ue_none b o c g off n cO l cur w hl1 h0 (.inr ⟨hp, hu⟩) hlm hi hr
end Go.Proofs.YtjpbjbcdobibbaaDoor.J
