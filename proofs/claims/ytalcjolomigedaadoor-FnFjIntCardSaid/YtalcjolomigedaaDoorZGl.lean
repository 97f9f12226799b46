/- Several texts in one. -/
import Derived.Test.YtalcjolomigedaaDoorZGk
import Derived.Test.YtalcjolomigedaaDoorZGj
import Derived.Test.YtalcjolomigedaaDoorZGf
import Derived.Test.YtalcjolomigedaaDoorZShelf
import Derived.Lib.AtoiErrMem
import Derived.Test.YtalcjolomigedaaDoorZFp5
import Derived.Test.YtalcjolomigedaaDoorZGg
set_option linter.unusedVariables false
set_option linter.unusedSimpArgs false
namespace Go.Proofs.YtalcjolomigedaaDoor.Fp
open Go.RowKit Go.Proofs.YtalcjolomigedaaDoorW.PrintWords Go.Proofs.YtalcjolomigedaaDoorW.PrintLast Go.Proofs.YtalcjolomigedaaDoorW.PrintMore Go.Proofs.YtalcjolomigedaaDoor.Aid Go.Proofs.YtalcjolomigedaaDoor.J

/-- What strconv's variable ErrRange holds. -/
def ErrR (w : World) : Prop := ∃ ev, w.cell? ⟨2, 0, none⟩ = some ev ∧ (ev = .nilIface ∨ ∃ te pe, ev = .iface te pe)
theorem ErrR.below {w w' : World} (h : ErrR w) (k : Below w.heap.size w w') : ErrR w' := by
  obtain ⟨ev, h1, h2⟩ := h
  exact ⟨ev, pw_cell_below k h1, h2⟩
/-- An error, or a number. -/
def PiPost (v : Int) (ok : Bool) (w : World) (e : Ending) (w' : World) : Prop := Below w.heap.size w w' ∧ if ok = true then e = .returned (.tuple #[.int .i64 v, .nilIface]) else ∃ x t p, e = .returned (.tuple #[.int .i64 x, .iface t p])
theorem PInt_any (s : ByteArray) (hs : s.size ≤ 100000) (sg ds fr : L) (h : Nw s sg ds fr) (hl : fr = [] → ds.length ≤ 18) (w : World) (hE : ErrV w) (hR : ErrR w) :
    Calls Tryd.prog 82 #[.string s, .int .i64 10, .int .i64 64] w (PiPost (sval sg ds) (decide (fr = [])) w) := by
  by_cases hf : fr = []
  · rw [decide_eq_true hf]
    rw [hf] at h
    refine (Tryd.strconv_ParseInt_10_at64_ok s (by omega) (sval sg ds) (piB_ok h (hl hf)) w).mono ?_
    rintro e w' ⟨rfl, hw⟩
    refine ⟨?_, rfl⟩
    rcases hw with rfl | ⟨t, rfl⟩
    · exact Below.refl _ _
    · exact Lib.bytesWorld_below _ _ _
  · rw [decide_eq_false hf]
    cases hp : Lib.parseIntB 64 s.data.toList with
    | ok v => exact absurd hp (piB_no h hf v)
    | «syntax» =>
      obtain ⟨ev, h1, h2⟩ := hE
      refine (Tryd.strconv_ParseInt_10_at64_syntax s (by omega) hp ev w h1 h2).mono ?_
      rintro e w' ⟨N, rfl, _, _, hb⟩
      exact ⟨hb, _, _, _, rfl⟩
    | range =>
      obtain ⟨ev, h1, h2⟩ := hR
      refine (Tryd.strconv_ParseInt_10_at64_range s (by omega) hp ev w h1 h2).mono ?_
      rintro e w' ⟨N, rfl, _, _, hb⟩
      exact ⟨hb, _, _, _, rfl⟩
set_option maxHeartbeats 8000000 in
set_option maxRecDepth 100000 in
theorem ParseInt64_any (s : ByteArray) (hs : s.size ≤ 100000) (sg ds fr : L) (h : Nw s sg ds fr) (hl : fr = [] → ds.length ≤ 18) (w : World) (hE : ErrV w) (hR : ErrR w) :
    Calls Tryd.prog 56 #[.string s] w (PiPost (sval sg ds) (decide (fr = [])) w) := by
  have HP := Lib.hid (fun W (hb : Below w.heap.size w W) => PInt_any s hs sg ds fr h hl W (hE.below hb) (hR.below hb))
  have hz0 : s.size ≠ 0 := by
    intro h0
    have := congrArg List.length h.eq
    rw [bytesOf_length, h0] at this
    simp only [List.length_append] at this
    exact h.ne (List.eq_nil_of_length_eq_zero (by omega))
  have b0 : ((s.size : Int) == 0) = false := beq_eq_false_iff_ne.mpr (by omega)
  have b1 : (s.size == 0) = false := beq_eq_false_iff_ne.mpr hz0
  have hbl := bytesOf_length s
  obtain ⟨g, hg⟩ : ∃ g, g = sg.length := ⟨_, rfl⟩
  have hz2 : s.size = g + (ds.length + fr.length) := by
    have := congrArg List.length h.eq
    rw [hbl] at this
    rw [hg]
    simpa using this
  have hf0 : ∀ pre rest : L, ds = pre ++ rest → from_ s (g + pre.length) = rest ++ fr := by
    intro pre rest he
    unfold from_
    rw [h.eq, he, List.append_nil, hg]
    simp
  have HF := Lib.hid hf0
  have HN := Lib.hid h
  have hdl := List.length_pos_iff.2 h.ne
  have HI : Hid (∀ pre rest : L, ds = pre ++ rest → ∀ hlt : g + pre.length < s.size, ((s[g + pre.length]'hlt).toNat : Int) = (rest ++ fr).getD 0 0) := Lib.hid (fun pre rest he hlt => by
    have := from_at s (g + pre.length) 0 (by omega)
    rw [hf0 pre rest he] at this
    exact this)
  clear hE hR hl h hf0
  have S0 : Hid (∃ h0 : 0 < s.size, (sg = [] → ((s[0]'h0).toNat : Int) ≠ 45) ∧ (sg = [45] → ((s[0]'h0).toNat : Int) = 45)) := Lib.hid (by
    have h0 : 0 < s.size := by omega
    have hfa := from_at s 0 0 h0
    have hb : from_ s 0 = sg ++ (ds ++ fr) := by
      show (bytesOf s).drop 0 = _
      rw [HN.out.eq, List.append_nil, List.drop_zero]
    rw [hb] at hfa
    refine ⟨h0, fun e => ?_, fun e => ?_⟩
    · rw [e] at hfa
      obtain ⟨d, u, hds⟩ : ∃ d u, ds = d :: u := by
        cases hds : ds with
        | nil => exact absurd hds HN.out.ne
        | cons d u => exact ⟨d, u, rfl⟩
      rw [hds] at hfa
      replace hfa : ((s[0]'h0).toNat : Int) = d := hfa
      have := dig_iff.1 (HN.out.dg d (by rw [hds]; exact List.mem_cons_self))
      omega
    · rw [e] at hfa
      exact hfa)
  have SV : Hid ((g = 0 → sval sg ds = dval ds) ∧ (g = 1 → sval sg ds = -(dval ds))) := Lib.hid (by
    refine ⟨fun h => ?_, fun h => ?_⟩
    · unfold sval; rw [if_pos (List.eq_nil_of_length_eq_zero (by omega))]
    · unfold sval; rw [if_neg (fun e => by rw [e] at hg; simp at hg; omega)])
  obtain ⟨h0, s1, s2⟩ := S0.out
  rcases HN.out.hsg with e | e
  case' inl =>
    have b45 : (((s[0]'h0).toNat : Int) == 45) = false := beq_eq_false_iff_ne.mpr (s1 e)
    have hg0 : g = 0 := by rw [hg, e]; rfl
    have hGs := Lib.hid (show (g = 0 ∧ sg = []) ∨ (g = 1 ∧ sg = [45]) from .inl ⟨hg0, e⟩)
    clear s1 s2 hbl
    replace hz2 := Lib.hid hz2
    have hgk := Lib.hid hg0
    clear hg hg0
    replace e := Lib.hid e
    go_enter Tryd.func56, Tryd.ntmps56
    go_wp2
  case' inr =>
    have b45 : (((s[0]'h0).toNat : Int) == 45) = true := beq_iff_eq.mpr (s2 e)
    have hg1 : g = 1 := by rw [hg, e]; rfl
    have hz3 : 2 ≤ s.size := by omega
    have hGs := Lib.hid (show (g = 0 ∧ sg = []) ∨ (g = 1 ∧ sg = [45]) from .inr ⟨hg1, e⟩)
    clear s1 s2 hbl
    replace hz2 := Lib.hid hz2
    replace e := Lib.hid e
    have hgk := Lib.hid hg1
    clear hg hg1
    go_enter Tryd.func56, Tryd.ntmps56
    go_wp2
  all_goals
    go_loopg [4, 6] ds.length (fun kq v4 v6 w' => Hid (∃ pre rest : L, ds = pre ++ rest ∧ rest.length = kq ∧ v4 = .int .u64 ((g + pre.length : Nat) : Int) ∧ v6 = .int .i64 (dval pre) ∧ g + pre.length ≤ 18 ∧ w' = w))
    case atStart => exact Lib.hid ⟨[], ds, rfl, rfl, by rw [hgk.out]; rfl, rfl, by rw [hgk.out]; decide, rfl⟩
    case round =>
      obtain ⟨pre, rest, he, hrl, rfl, rfl, h18, rfl⟩ := hrel.out
      clear hrel
      have hpl : Hid (pre.length + rest.length = ds.length) := Lib.hid (by rw [he, List.length_append])
      cases rest with
      | nil =>
        have hpd : Hid (pre = ds) := Lib.hid (by rw [he, List.append_nil])
        cases fr with
        | nil =>
          have hge : s.size ≤ g + pre.length := by have a := hz2.out; have b := hpl.out; simp only [List.length_nil] at a b; omega
          have hb := dval_bound (l := pre) (fun x hx => HN.out.dg x (by rw [he]; simp [hx])) (by omega)
          have hj0 : 0 < g + pre.length := by have a := hz2.out; have b := hpl.out; simp only [List.length_nil] at a b; omega
          try have hj1 : 1 < g + pre.length := by have a := hgk.out; have b := hpl.out; simp only [List.length_nil] at b; omega
          have hd : Hid (dval pre = dval ds) := Lib.hid (by rw [hpd.out])
          obtain ⟨d, hdd⟩ : ∃ d, d = dval pre := ⟨_, rfl⟩
          rw [← hdd] at hb hd ⊢
          clear he hrl hpd hdd
          go_wp2_with fail
          go_ret2
          refine ⟨Below.refl _ _, ?_⟩
          first
            | rw [SV.out.1 hgk.out, ← hd.out]; rfl
            | rw [SV.out.2 hgk.out, ← hd.out]; rfl
        | cons x t =>
          have hlt : g + pre.length < s.size := by have a := hz2.out; have b := hpl.out; simp only [List.length_cons] at a; simp only [List.length_nil] at b; omega
          have hx := HI.out pre [] he hlt
          replace hx : ((s[g + pre.length]'hlt).toNat : Int) = x := hx
          have hnd := HN.out.hhd x t rfl
          have hj0 : 0 < g + pre.length := by have a := hz2.out; have b := hpl.out; simp only [List.length_nil] at b; omega
          try have hj1 : 1 < g + pre.length := by have a := hgk.out; have b := hpl.out; simp only [List.length_nil] at b; omega
          have hx57 : ¬ (48 ≤ ((s[g + pre.length]'hlt).toNat : Int) ∧ ((s[g + pre.length]'hlt).toNat : Int) ≤ 57) := by rw [hx, ← dig_iff, hnd]; simp
          clear he hrl hpd hnd hx
          by_cases d1 : 48 ≤ ((s[g + pre.length]'hlt).toNat : Int)
          · have d2 : ¬ ((s[g + pre.length]'hlt).toNat : Int) ≤ 57 := fun h => hx57 ⟨d1, h⟩
            clear hx57
            go_wp2_with (go_at_call 48; refine (new_any _ _).mono ?_; rintro e w2 ⟨⟨N2, rfl⟩, hb⟩; have HB := Lib.hid hb; clear hb)
            go_ret2
            exact ⟨HB.out, _, _, _, rfl⟩
          · clear hx57
            go_wp2_with (go_at_call 48; refine (new_any _ _).mono ?_; rintro e w2 ⟨⟨N2, rfl⟩, hb⟩; have HB := Lib.hid hb; clear hb)
            go_ret2
            exact ⟨HB.out, _, _, _, rfl⟩
      | cons c r =>
        have hlt : g + pre.length < s.size := by have a := hz2.out; have b := hpl.out; simp only [List.length_cons] at b; omega
        have hx := HI.out pre (c :: r) he hlt
        replace hx : ((s[g + pre.length]'hlt).toNat : Int) = c := hx
        obtain ⟨d1, d2⟩ := dig_iff.1 (HN.out.dg c (by rw [he]; simp))
        have c1 : 48 ≤ ((s[g + pre.length]'hlt).toNat : Int) := by omega
        have c2 : ((s[g + pre.length]'hlt).toNat : Int) ≤ 57 := by omega
        have HX := Lib.hid hx
        have HRL := Lib.hid hrl
        rcases Nat.lt_or_ge (g + pre.length) 18 with hlt18 | hge18
        · have hb := dval_bound (l := pre) (fun x hx => HN.out.dg x (by rw [he]; simp [hx])) (by omega)
          have hv := dval_snoc pre c
          have hb2 := dval_bound (l := pre ++ [c]) (fun x hx => HN.out.dg x (by rw [he]; simp at hx ⊢; rcases hx with hx | hx; exact .inl hx; exact .inr (.inl hx))) (by simp; omega)
          have HV := Lib.hid hv
          have HQ := Lib.hid he
          have hb3 : 0 ≤ dval pre * 10 + (c - 48) ∧ dval pre * 10 + (c - 48) < 1000000000000000000 := by rw [← hv]; exact hb2
          obtain ⟨d, hd⟩ : ∃ d, d = dval pre := ⟨_, rfl⟩
          rw [← hd] at hb hb3 HV ⊢
          replace hd := Lib.hid hd
          rw [← hx] at hb3
          clear he hv hb2 hx hrl d1 d2
          go_wp2_with fail
          go_roundg r.length
          case rel => exact Lib.hid ⟨pre ++ [c], r, by rw [HQ.out]; simp, rfl, by
            have : ((g + (pre ++ [c]).length : Nat) : Int) = (g : Int) + pre.length + 1 := by rw [List.length_append, List.length_singleton]; omega
            rw [this], by rw [HV.out, HX.out], by rw [List.length_append, List.length_singleton]; omega, rfl⟩
          case measure => have a := HRL.out; simp only [List.length_cons] at a; omega
        · obtain ⟨d, hd⟩ : ∃ d, d = dval pre := ⟨_, rfl⟩
          rw [← hd]
          clear he hx hrl d1 d2 hd
          cases fr with
          | nil =>
            go_wp2_with (go_at_call 82; refine (HP.out _ (Below.refl _ _)).mono ?_; rintro e w1 ⟨hb, rfl⟩; have HB := Lib.hid hb; clear hb)
            go_ret2
            exact ⟨HB.out, rfl⟩
          | cons x t =>
            go_wp2_with (go_at_call 82; refine (HP.out _ (Below.refl _ _)).mono ?_; rintro e w1 ⟨hb, x1, t1, p1, rfl⟩; have HB := Lib.hid hb; clear hb)
            go_ret2
            exact ⟨HB.out, _, _, _, rfl⟩
end Go.Proofs.YtalcjolomigedaaDoor.Fp

set_option linter.unusedVariables false
set_option linter.unusedSimpArgs false
namespace Go.Proofs.YtalcjolomigedaaDoor.Fp
open Go.RowKit Go.Proofs.YtalcjolomigedaaDoorW.PrintWords Go.Proofs.YtalcjolomigedaaDoorW.PrintLast Go.Proofs.YtalcjolomigedaaDoorW.PrintMore Go.Proofs.YtalcjolomigedaaDoor.Aid Go.Proofs.YtalcjolomigedaaDoor.J

set_option maxRecDepth 100000 in
theorem type_plain (W : World) (b o : Nat) (k : Int) (hk : W.cell? ⟨b, o + 4, none⟩ = some (.int .i64 k)) (h7 : k ≠ 7) :
    Calls Tryd.prog 55 #[.pointer (some ⟨b, o, none⟩)] W fun e w' => e = .returned (.int .i64 k) ∧ w' = W := by
  have e1 : (k == 7) = false := beq_eq_false_iff_ne.mpr h7
  clear h7
  go_enter Tryd.func55, Tryd.ntmps55
  go_wp2
  go_ret
  exact ⟨rfl, rfl⟩
set_option maxHeartbeats 4000000 in
set_option maxRecDepth 100000 in
theorem type_raw (w0 W : World) (b o : Nat) (a : L) (ha : Rg a) (hl : a.length ≤ 100000) (hlone : J.lone a = false) (hr : rep W (In2 w0 W) (.leaf 7 a) b o) (hb : Below w0.heap.size w0 W) (hE : ErrV W) :
    Calls Tryd.prog 55 #[.pointer (some ⟨b, o, none⟩)] W fun e w' => e = .returned (.int .i64 3) ∧ Below w0.heap.size w0 w' := by
  rw [rep] at hr
  obtain ⟨⟨⟨Z, hZ⟩, _⟩, ⟨h3, _, hlow⟩, h4, _⟩ := hr
  have f3 := blk_frozen hZ (o + 3)
  have f4 := blk_frozen hZ (o + 4)
  have HU := Lib.hid (fun W' (hb : Below W.heap.size W W') => kept_walk (strOfNums a) W' (by rw [sz_of]; exact hl) (by rw [bytes_of_str a ha]; exact hlone) (hE.below hb))
  have HB := Lib.hid hb
  have HL := Lib.hid hlow
  have HZ := Lib.hid hZ
  obtain ⟨s, hs⟩ : ∃ s, s = strOfNums a := ⟨_, rfl⟩
  rw [← hs] at h3 HU
  obtain ⟨q, hq⟩ : ∃ q, q = strOfNums (kp (bytesOf s)) := ⟨_, rfl⟩
  rw [← hq] at HU
  clear hb hE hZ ha hl hlone hs hq hlow
  go_enter Tryd.func55, Tryd.ntmps55
  go_wp2_with (go_at_call 41; refine (HU.out _ (Below.refl _ _)).mono ?_; rintro e w1 ⟨rfl, hb⟩; have HB1 := Lib.hid (below_step HB.out hb); have hZ1 := blk_below HZ.out hb; have g3 := blk_frozen hZ1 (o + 3); have g4 := blk_frozen hZ1 (o + 4); have c4 := pw_cell_below hb h4; have c3 := pw_cell_below hb h3; clear hb hZ1)
  go_ret
  exact ⟨rfl, below_set (below_set HB1.out HL.out) HL.out⟩
/-- What Int64 makes of a tree. -/
structure IR (r : Option T) (ok : Bool) (v : Int) : Prop where
  num : ∀ a, r = some (.leaf 4 a) → ∃ sg ds fr, Nw (strOfNums a) sg ds fr ∧ (fr = [] → ds.length ≤ 18) ∧ v = sval sg ds ∧ ok = decide (fr = [])
  no : (∀ a, r ≠ some (.leaf 4 a)) → ok = false
  raw : ∀ a, r = some (.leaf 7 a) → J.lone a = false
/-- A number and no error, or an error. -/
def IPost (w0 : World) (ok : Bool) (v : Int) (e : Ending) (w' : World) : Prop := Below w0.heap.size w0 w' ∧ if ok = true then e = .returned (.tuple #[.int .i64 v, .nilIface]) else ∃ x t p, e = .returned (.tuple #[.int .i64 x, .iface t p])
theorem type_other (w0 W : World) (b o : Nat) (t : T) (hk : okT t) (hl : (out t).length ≤ 90000) (hr : rep W (In2 w0 W) t b o) (hb : Below w0.heap.size w0 W) (hE : ErrV W) (h4 : ¬ ∃ a, t = .leaf 4 a) (hraw : ∀ a, some t = some (.leaf 7 a) → J.lone a = false) : ∃ k, k ≠ 4 ∧ Calls Tryd.prog 55 #[.pointer (some ⟨b, o, none⟩)] W fun e w' => e = .returned (.int .i64 k) ∧ Below w0.heap.size w0 w' := by
  by_cases h7 : ∃ a, t = .leaf 7 a
  · obtain ⟨a, rfl⟩ := h7
    rw [okT] at hk
    have hal : a.length ≤ 100000 := by
      have : a.length ≤ (out (.leaf 7 a)).length := by rw [out]; simp <;> omega
      omega
    exact ⟨3, by decide, type_raw w0 W b o a hk.2 hal (hraw a rfl) hr hb hE⟩
  · have hkk : kindOf t ≠ 7 ∧ kindOf t ≠ 4 := by
      cases t with
      | leaf k s => exact ⟨fun e => h7 ⟨s, by rw [show k = 7 from e]⟩, fun e => h4 ⟨s, by rw [show k = 4 from e]⟩⟩
      | arr l => exact ⟨by show (2 : Int) ≠ 7; decide, by show (2 : Int) ≠ 4; decide⟩
      | obj l => exact ⟨by show (1 : Int) ≠ 7; decide, by show (1 : Int) ≠ 4; decide⟩
    refine ⟨kindOf t, hkk.2, (type_plain W b o _ (rep_kind hr) hkk.1).mono ?_⟩
    rintro e w' ⟨h, rfl⟩
    exact ⟨h, hb⟩
set_option maxHeartbeats 4000000 in
set_option maxRecDepth 100000 in
theorem vInt64_any (w0 W : World) (b o : Nat) (t : T) (ok : Bool) (v : Int) (hi : IR (some t) ok v) (hk : okT t) (hl : (out t).length ≤ 90000) (hr : rep W (In2 w0 W) t b o) (hb : Below w0.heap.size w0 W) (hE : ErrV W) (hR : ErrR W) :
    Calls Tryd.prog 34 #[.pointer (some ⟨b, o, none⟩)] W (IPost w0 ok v) := by
  have HB := Lib.hid hb
  by_cases h4 : ∃ a, t = .leaf 4 a
  · obtain ⟨a, rfl⟩ := h4
    obtain ⟨sg, ds, fr, hn, h18, rfl, rfl⟩ := hi.num a rfl
    rw [rep] at hr
    obtain ⟨_, ⟨h3, _⟩, h4, _⟩ := hr
    have hz : (strOfNums a).size ≤ 100000 := by rw [sz_of]; have : (out (.leaf 4 a)).length = a.length := by rw [out]; rfl
                                                omega
    obtain ⟨s, hs⟩ : ∃ s, s = strOfNums a := ⟨_, rfl⟩
    rw [← hs] at h3 hn hz
    have HT := Lib.hid (type_plain W b o 4 h4 (by decide))
    have HP := Lib.hid (fun W' (hb : Below W.heap.size W W') => ParseInt64_any s hz sg ds fr hn h18 W' (hE.below hb) (hR.below hb))
    obtain ⟨v, hv⟩ : ∃ v, v = sval sg ds := ⟨_, rfl⟩
    rw [← hv] at HP ⊢
    clear hi hk hl hb hE hR hn h18 hs hv hz
    cases fr with
    | nil =>
      go_enter Tryd.func34, Tryd.ntmps34
      go_wp2_with (first
        | (go_at_call 55; refine HT.out.mono ?_; rintro e w1 ⟨rfl, hw⟩; replace hw := hw.symm; subst hw)
        | (go_at_call 56; refine (HP.out _ (Below.refl _ _)).mono ?_; rintro e w2 ⟨hb, rfl⟩; have HB2 := Lib.hid (below_step HB.out hb); clear hb))
      go_ret2
      exact ⟨HB2.out, rfl⟩
    | cons x t =>
      go_enter Tryd.func34, Tryd.ntmps34
      go_wp2_with (first
        | (go_at_call 55; refine HT.out.mono ?_; rintro e w1 ⟨rfl, hw⟩; replace hw := hw.symm; subst hw)
        | (go_at_call 56; refine (HP.out _ (Below.refl _ _)).mono ?_; rintro e w2 ⟨hb, x1, t1, p1, rfl⟩; have HB2 := Lib.hid (below_step HB.out hb); clear hb))
      go_ret2
      exact ⟨HB2.out, _, _, _, rfl⟩
  · have hf := hi.no (fun a e => h4 ⟨a, Option.some.inj e⟩)
    rw [hf]
    obtain ⟨k, hk4, HT⟩ := type_other w0 W b o t hk hl hr hb hE h4 hi.raw
    have e1 : (k != 4) = true := bne_iff_ne.mpr hk4
    replace HT := Lib.hid HT
    clear hi hk hl hr hb hE hR h4 hf hk4
    go_enter Tryd.func34, Tryd.ntmps34
    go_wp2_with (first
      | (go_at_call 55; refine HT.out.mono ?_; rintro e w1 ⟨rfl, hb⟩; have HB1 := Lib.hid hb; clear hb)
      | (go_at_call 48; refine (new_any _ _).mono ?_; rintro e w2 ⟨⟨N2, rfl⟩, hb⟩; have HB2 := Lib.hid (below_step HB1.out hb); clear hb))
    go_ret2
    exact ⟨HB2.out, _, _, _, rfl⟩
end Go.Proofs.YtalcjolomigedaaDoor.Fp

set_option linter.unusedVariables false
set_option linter.unusedSimpArgs false
namespace Go.Proofs.YtalcjolomigedaaDoor.Fp
open Go.RowKit Go.Proofs.YtalcjolomigedaaDoorW.PrintWords Go.Proofs.YtalcjolomigedaaDoorW.PrintLast Go.Proofs.YtalcjolomigedaaDoorW.PrintMore Go.Proofs.YtalcjolomigedaaDoor.Aid Go.Proofs.YtalcjolomigedaaDoor.J

theorem sval_bound {s : ByteArray} {sg ds : L} (h : Nw s sg ds []) (hl : ds.length ≤ 18) : -1000000000000000000 < sval sg ds ∧ sval sg ds < 1000000000000000000 := by
  have := dval_bound h.dg hl
  unfold sval
  split <;> omega
set_option maxHeartbeats 4000000 in
set_option maxRecDepth 100000 in
theorem vInt_any (w0 W : World) (b o : Nat) (t : T) (ok : Bool) (v : Int) (hi : IR (some t) ok v) (hk : okT t) (hl : (out t).length ≤ 90000) (hr : rep W (In2 w0 W) t b o) (hb : Below w0.heap.size w0 W) (hE : ErrV W) (hR : ErrR W) :
    Calls Tryd.prog 35 #[.pointer (some ⟨b, o, none⟩)] W (IPost w0 ok v) := by
  have HB := Lib.hid hb
  by_cases h4 : ∃ a, t = .leaf 4 a
  · obtain ⟨a, rfl⟩ := h4
    obtain ⟨sg, ds, fr, hn, h18, rfl, rfl⟩ := hi.num a rfl
    rw [rep] at hr
    obtain ⟨_, ⟨h3, _⟩, h4, _⟩ := hr
    have hz : (strOfNums a).size ≤ 100000 := by rw [sz_of]; have : (out (.leaf 4 a)).length = a.length := by rw [out]; rfl
                                                omega
    obtain ⟨s, hs⟩ : ∃ s, s = strOfNums a := ⟨_, rfl⟩
    rw [← hs] at h3 hn hz
    have HT := Lib.hid (type_plain W b o 4 h4 (by decide))
    have HP := Lib.hid (fun W' (hb : Below W.heap.size W W') => ParseInt64_any s hz sg ds fr hn h18 W' (hE.below hb) (hR.below hb))
    have HV := Lib.hid (fun (e : fr = []) => sval_bound (s := s) (by rw [← e]; exact hn) (h18 e))
    obtain ⟨v, hv⟩ : ∃ v, v = sval sg ds := ⟨_, rfl⟩
    rw [← hv] at HP HV ⊢
    clear hi hk hl hb hE hR hn h18 hs hv hz
    cases fr with
    | nil =>
      have hv := HV.out rfl
      go_enter Tryd.func35, Tryd.ntmps35
      go_wp2_with (first
        | (go_at_call 55; refine HT.out.mono ?_; rintro e w1 ⟨rfl, hw⟩; replace hw := hw.symm; subst hw)
        | (go_at_call 56; refine (HP.out _ (Below.refl _ _)).mono ?_; rintro e w2 ⟨hb, rfl⟩; have HB2 := Lib.hid (below_step HB.out hb); clear hb))
      go_ret2
      exact ⟨HB2.out, rfl⟩
    | cons x t =>
      go_enter Tryd.func35, Tryd.ntmps35
      go_wp2_with (first
        | (go_at_call 55; refine HT.out.mono ?_; rintro e w1 ⟨rfl, hw⟩; replace hw := hw.symm; subst hw)
        | (go_at_call 56; refine (HP.out _ (Below.refl _ _)).mono ?_; rintro e w2 ⟨hb, x1, t1, p1, rfl⟩; have HB2 := Lib.hid (below_step HB.out hb); clear hb))
      go_ret2
      exact ⟨HB2.out, _, _, _, rfl⟩
  · have hf := hi.no (fun a e => h4 ⟨a, Option.some.inj e⟩)
    rw [hf]
    obtain ⟨k, hk4, HT⟩ := type_other w0 W b o t hk hl hr hb hE h4 hi.raw
    have e1 : (k != 4) = true := bne_iff_ne.mpr hk4
    replace HT := Lib.hid HT
    clear hi hk hl hr hb hE hR h4 hf hk4
    go_enter Tryd.func35, Tryd.ntmps35
    go_wp2_with (first
      | (go_at_call 55; refine HT.out.mono ?_; rintro e w1 ⟨rfl, hb⟩; have HB1 := Lib.hid hb; clear hb)
      | (go_at_call 48; refine (new_any _ _).mono ?_; rintro e w2 ⟨⟨N2, rfl⟩, hb⟩; have HB2 := Lib.hid (below_step HB1.out hb); clear hb))
    go_ret2
    exact ⟨HB2.out, _, _, _, rfl⟩
/-- What the thin package's FjInt64 and FjInt hand back. -/
def JPost (w : World) (ok : Bool) (v : Int) (e : Ending) (w' : World) : Prop := Below w.heap.size w w' ∧ ∃ x, e = .returned (.tuple #[.int .i64 x, .bool ok]) ∧ (ok = true → x = v)
set_option maxHeartbeats 4000000 in
set_option maxRecDepth 100000 in
theorem FjInt64_any (w : World) (s : ByteArray) (hs : s.size ≤ 90000) (ok : Bool) (v : Int) (hi : IR (parse0 (bytesOf s)) ok v) (hE : ErrV w) (hR : ErrR w) :
    Calls Tryd.prog 14 #[.string s] w (JPost w ok v) := by
  have HP := Lib.hid (parse_new2 w s hs)
  have hbl := bytesOf_length s
  cases hr : parse0 (bytesOf s) with
  | none =>
    rw [hr] at HP hi
    have hf := hi.no (fun a e => by cases e)
    rw [hf]
    clear hr hi hE hR hf
    go_enter Tryd.func14, Tryd.ntmps14
    go_wp2_with (go_at_call 26; refine HP.out.mono ?_; rintro e w1 ⟨hb, N, rfl⟩; have HB := Lib.hid hb; clear hb)
    go_ret2
    exact ⟨HB.out, _, rfl, fun h => by cases h⟩
  | some t =>
    rw [hr] at HP hi
    have HV := Lib.hid (fun (W : World) (b o : Nat) (hk : okT t) (hl : (out t).length ≤ 90000) (hp : rep W (In2 w W) t b o) (hb : Below w.heap.size w W) => vInt64_any w W b o t ok v hi hk hl hp hb (hE.below hb) (hR.below hb))
    clear hr hi hE hR
    cases ok with
    | true =>
      go_enter Tryd.func14, Tryd.ntmps14
      go_wp2_with (first
        | (go_at_call 26; refine HP.out.mono ?_; rintro e w1 ⟨hb, b, o, rfl, hk, hrp, hl⟩; have HI := Lib.hid (HV.out w1 b o hk (by omega) hrp hb); clear hb hk hrp hl)
        | (go_at_call 34; refine HI.out.mono ?_; rintro e w2 ⟨hb, rfl⟩; have HB2 := Lib.hid hb; clear hb))
      go_region
      go_wp2
      go_ret2
      exact ⟨below_drew HB2.out, _, rfl, fun _ => rfl⟩
    | false =>
      go_enter Tryd.func14, Tryd.ntmps14
      go_wp2_with (first
        | (go_at_call 26; refine HP.out.mono ?_; rintro e w1 ⟨hb, b, o, rfl, hk, hrp, hl⟩; have HI := Lib.hid (HV.out w1 b o hk (by omega) hrp hb); clear hb hk hrp hl)
        | (go_at_call 34; refine HI.out.mono ?_; rintro e w2 ⟨hb, x1, t1, p1, rfl⟩; have HB2 := Lib.hid hb; clear hb))
      go_region
      go_wp2
      go_ret2
      exact ⟨below_drew HB2.out, _, rfl, fun h => by cases h⟩
set_option maxHeartbeats 4000000 in
set_option maxRecDepth 100000 in
theorem FjInt_any (w : World) (s : ByteArray) (hs : s.size ≤ 90000) (ok : Bool) (v : Int) (hi : IR (parse0 (bytesOf s)) ok v) (hE : ErrV w) (hR : ErrR w) :
    Calls Tryd.prog 15 #[.string s] w (JPost w ok v) := by
  have HP := Lib.hid (parse_new2 w s hs)
  have hbl := bytesOf_length s
  cases hr : parse0 (bytesOf s) with
  | none =>
    rw [hr] at HP hi
    have hf := hi.no (fun a e => by cases e)
    rw [hf]
    clear hr hi hE hR hf
    go_enter Tryd.func15, Tryd.ntmps15
    go_wp2_with (go_at_call 26; refine HP.out.mono ?_; rintro e w1 ⟨hb, N, rfl⟩; have HB := Lib.hid hb; clear hb)
    go_ret2
    exact ⟨HB.out, _, rfl, fun h => by cases h⟩
  | some t =>
    rw [hr] at HP hi
    have HV := Lib.hid (fun (W : World) (b o : Nat) (hk : okT t) (hl : (out t).length ≤ 90000) (hp : rep W (In2 w W) t b o) (hb : Below w.heap.size w W) => vInt_any w W b o t ok v hi hk hl hp hb (hE.below hb) (hR.below hb))
    clear hr hi hE hR
    cases ok with
    | true =>
      go_enter Tryd.func15, Tryd.ntmps15
      go_wp2_with (first
        | (go_at_call 26; refine HP.out.mono ?_; rintro e w1 ⟨hb, b, o, rfl, hk, hrp, hl⟩; have HI := Lib.hid (HV.out w1 b o hk (by omega) hrp hb); clear hb hk hrp hl)
        | (go_at_call 35; refine HI.out.mono ?_; rintro e w2 ⟨hb, rfl⟩; have HB2 := Lib.hid hb; clear hb))
      go_region
      go_wp2
      go_ret2
      exact ⟨below_drew HB2.out, _, rfl, fun _ => rfl⟩
    | false =>
      go_enter Tryd.func15, Tryd.ntmps15
      go_wp2_with (first
        | (go_at_call 26; refine HP.out.mono ?_; rintro e w1 ⟨hb, b, o, rfl, hk, hrp, hl⟩; have HI := Lib.hid (HV.out w1 b o hk (by omega) hrp hb); clear hb hk hrp hl)
        | (go_at_call 35; refine HI.out.mono ?_; rintro e w2 ⟨hb, x1, t1, p1, rfl⟩; have HB2 := Lib.hid hb; clear hb))
      go_region
      go_wp2
      go_ret2
      exact ⟨below_drew HB2.out, _, rfl, fun h => by cases h⟩
end Go.Proofs.YtalcjolomigedaaDoor.Fp
