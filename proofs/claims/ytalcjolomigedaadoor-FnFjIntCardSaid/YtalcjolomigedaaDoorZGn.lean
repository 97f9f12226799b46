/- Several texts in one. -/
import Derived.Test.YtalcjolomigedaaDoorZGi
import Derived.Test.YtalcjolomigedaaDoorZGk
import Derived.Test.YtalcjolomigedaaDoorZGa
import Derived.Lib.EndianBits
import Derived.Test.YtalcjolomigedaaDoorZGf
import Derived.Lib.LaidU8
import Derived.Deep.Strs
import Derived.Test.YtalcjolomigedaaDoorZGl
import Derived.Test.YtalcjolomigedaaDoorZGm
set_option linter.unusedVariables false
set_option linter.unusedSimpArgs false
namespace Go.Proofs.YtalcjolomigedaaDoor.Fp
open Go.RowKit Go.Proofs.YtalcjolomigedaaDoorW.PrintWords Go.Proofs.YtalcjolomigedaaDoorW.PrintLast Go.Proofs.YtalcjolomigedaaDoorW.PrintMore Go.Proofs.YtalcjolomigedaaDoor.Aid Go.Proofs.YtalcjolomigedaaDoor.J Go.Proofs.YtalcjolomigedaaDoor.PFnFjInt

theorem u64w {x : Int} (h0 : 0 ≤ x) (h1 : x ≤ 18446744073709551615) : IntKind.u64.wrap x = x := IntWalk.u64_in x ⟨h0, h1⟩
theorem from_cons7 (s : ByteArray) (a : Nat) (h : a < s.size) : from_ s a = bt s (a : Int) :: from_ s (a + 1) := by
  have hl : a < (bytesOf s).length := by rw [bytesOf_length]; exact h
  unfold from_
  rw [List.drop_eq_getElem_cons hl]
  congr 1
  have := bytesOf_get? s a h
  rw [List.getElem?_eq_getElem hl] at this
  exact Option.some.inj this
theorem l0_at (k : Nat) (s : ByteArray) (acc c : Int) (a : Nat) (ha : a < s.size) (hc : bt s (a : Int) = c) : spec_Uint64.l0 (k + 1) s acc (a : Int) = if c < 48 then spec_Uint64.j1 k s acc (a : Int) true else spec_Uint64.j1 k s acc (a : Int) (decide (c > 57)) := by
  rw [spec_Uint64.l0, if_pos (by omega), if_pos (by omega), hc]
theorem l0_end (k : Nat) (s : ByteArray) (acc : Int) (a : Nat) (ha : s.size ≤ a) : spec_Uint64.l0 (k + 1) s acc (a : Int) = some (acc, true) := by
  rw [spec_Uint64.l0, if_neg (by omega)]
theorem j1_no (k : Nat) (s : ByteArray) (acc : Int) (a : Nat) : spec_Uint64.j1 (k + 1) s acc (a : Int) true = some (0, false) := by
  rw [spec_Uint64.j1, if_pos rfl]
def gtM (acc d : Int) : Prop := acc > (18446744073709551615 - d) / 10
instance (acc d : Int) : Decidable (gtM acc d) := by unfold gtM; infer_instance
theorem j1_at (k : Nat) (s : ByteArray) (acc c : Int) (a : Nat) (ha : a < s.size) (hc : bt s (a : Int) = c) (hd : (c - 48) % 256 = c - 48) (h8 : s.size ≤ 2147483647) : spec_Uint64.j1 (k + 1) s acc (a : Int) false = if gtM acc (c - 48) then some (0, false) else spec_Uint64.l0 k s (IntKind.u64.wrap ((IntKind.u64.wrap (acc * 10)) + (c - 48))) ((a + 1 : Nat) : Int) := by
  have e3 : wrap64 ((a : Int) + 1) = ((a + 1 : Nat) : Int) := by unfold wrap64; omega
  rw [spec_Uint64.j1, if_neg Bool.false_ne_true, if_pos (by omega), if_pos (by omega), hc, hd, e3]
  rfl
theorem gtM_no {acc d : Int} (h : ¬ gtM acc d) (h0 : 0 ≤ acc) (hd : 0 ≤ d ∧ d ≤ 9) : acc * 10 + d ≤ 18446744073709551615 := by unfold gtM at h; omega
theorem gtM_yes {acc d : Int} (h : gtM acc d) (h0 : 0 ≤ acc) (hd : 0 ≤ d ∧ d ≤ 9) : 1000000000000000000 < acc + 1 := by unfold gtM at h; omega
def U64P (s : ByteArray) (a : Nat) (acc n : Int) (ok : Bool) : Prop := 0 ≤ n ∧ n ≤ 18446744073709551615 ∧ ((∀ c ∈ from_ s a, dig c = true) → (acc + 1) * 10 ^ (from_ s a).length ≤ 1000000000000000000 → ok = true ∧ n = (from_ s a).foldl dstep acc) ∧ ((∃ c ∈ from_ s a, dig c = false) → ok = false)
theorem u64_base (s : ByteArray) (a : Nat) (acc : Int) (ha : s.size ≤ a) (h0 : 0 ≤ acc) (h1 : acc ≤ 18446744073709551615) : ∃ k n ok, spec_Uint64.l0 k s acc (a : Int) = some (n, ok) ∧ U64P s a acc n ok := by
  have hn : from_ s a = [] := List.eq_nil_of_length_eq_zero (by rw [from_len]; omega)
  refine ⟨1, acc, true, l0_end 0 s acc a ha, h0, h1, fun _ _ => ⟨rfl, by rw [hn]; rfl⟩, fun ⟨c, hc, _⟩ => ?_⟩
  rw [hn] at hc; cases hc
theorem u64p_no (s : ByteArray) (a : Nat) (acc c : Int) (hf : from_ s a = c :: from_ s (a + 1)) (h : dig c = false ∨ (1000000000000000000 < acc + 1)) : U64P s a acc 0 false := by
  refine ⟨Int.le_refl _, by decide, fun hall hp => ?_, fun _ => rfl⟩
  exfalso
  rcases h with h | h
  · have := hall c (by rw [hf]; exact List.mem_cons_self)
    rw [h] at this; cases this
  · have hp0 := pow_pos10 (from_ s a).length
    have := Int.mul_le_mul_of_nonneg_left (show (1 : Int) ≤ 10 ^ (from_ s a).length from hp0) (show (0 : Int) ≤ acc + 1 by omega)
    omega
theorem u64p_cons (s : ByteArray) (a : Nat) (acc c n : Int) (ok : Bool) (hf : from_ s a = c :: from_ s (a + 1)) (hd : dig c = true) (h : U64P s (a + 1) (acc * 10 + (c - 48)) n ok) (h0 : 0 ≤ acc) : U64P s a acc n ok := by
  obtain ⟨d0, d1⟩ := dig_iff.1 hd
  obtain ⟨n0, n1, p1, p2⟩ := h
  refine ⟨n0, n1, fun hall hp => ?_, fun ⟨x, hx, hxd⟩ => ?_⟩
  · rw [hf, List.foldl_cons]
    refine p1 (fun x hx => hall x (by rw [hf]; exact List.mem_cons_of_mem _ hx)) ?_
    rw [hf, List.length_cons, Int.pow_succ, Int.mul_comm (10 ^ _) 10, ← Int.mul_assoc] at hp
    exact Int.le_trans (Int.mul_le_mul_of_nonneg_right (show acc * 10 + (c - 48) + 1 ≤ (acc + 1) * 10 by omega) (Int.le_of_lt (pow_pos10 _))) hp
  · refine p2 ⟨x, ?_, hxd⟩
    rw [hf] at hx
    rcases List.mem_cons.1 hx with rfl | hx
    · rw [hd] at hxd; cases hxd
    · exact hx
theorem u64_l0 (s : ByteArray) (hs : s.size ≤ 2147483647) : ∀ (m a : Nat) (acc : Int), s.size - a ≤ m → 0 ≤ acc → acc ≤ 18446744073709551615 → ∃ k n ok, spec_Uint64.l0 k s acc (a : Int) = some (n, ok) ∧ U64P s a acc n ok := by
  intro m
  induction m with
  | zero => intro a acc h1 h3 h4; exact u64_base s a acc (by omega) h3 h4
  | succ m ih =>
    intro a acc h1 h3 h4
    rcases Nat.lt_or_ge a s.size with ha | ha
    rotate_left 1
    · exact u64_base s a acc ha h3 h4
    have hf := from_cons7 s a ha
    obtain ⟨c, hc⟩ : ∃ c, bt s (a : Int) = c := ⟨_, rfl⟩
    rw [hc] at hf
    by_cases hd : dig c = true
    · obtain ⟨d0, d1⟩ := dig_iff.1 hd
      have hm : (c - 48) % 256 = c - 48 := by omega
      by_cases hov : gtM acc (c - 48)
      · refine ⟨2, 0, false, ?_, u64p_no s a acc c hf (.inr (gtM_yes hov h3 ⟨by omega, by omega⟩))⟩
        rw [l0_at 1 s acc c a ha hc, if_neg (by omega), decide_eq_false (by omega), j1_at 0 s acc c a ha hc hm hs, if_pos hov]
      · have hle := gtM_no hov h3 ⟨by omega, by omega⟩
        obtain ⟨k, n, ok, hk, hp⟩ := ih (a + 1) (acc * 10 + (c - 48)) (by omega) (by omega) hle
        refine ⟨k + 1 + 1, n, ok, ?_, u64p_cons s a acc c n ok hf hd hp h3⟩
        rw [l0_at (k + 1) s acc c a ha hc, if_neg (by omega), decide_eq_false (by omega), j1_at k s acc c a ha hc hm hs, if_neg hov, u64w (x := acc * 10) (by omega) (by omega), u64w (x := acc * 10 + (c - 48)) (by omega) hle]
        exact hk
    · have hd' : dig c = false := by simpa using hd
      refine ⟨2, 0, false, ?_, u64p_no s a acc c hf (.inl hd')⟩
      rw [l0_at 1 s acc c a ha hc]
      by_cases h48 : c < 48
      · rw [if_pos h48, j1_no]
      · have h57 : c > 57 := by
          refine Int.not_le.1 fun h => hd (dig_iff.2 ⟨by omega, h⟩)
        rw [if_neg h48, decide_eq_true h57, j1_no]
theorem toList_nil {s : ByteArray} : s.toList = [] ↔ s.size = 0 := by
  rw [ByteArray.toList_eq]
  constructor
  · intro h
    show s.data.size = 0
    rw [← Array.length_toList, h]; rfl
  · intro h
    exact List.eq_nil_of_length_eq_zero (by rw [Array.length_toList]; exact h)
theorem u64_f (s : ByteArray) (hs : s.size ≤ 2147483647) : ∃ k n ok, spec_Uint64.f (k + 1) s = some (n, ok) ∧ 0 ≤ n ∧ n ≤ 18446744073709551615 ∧ ((∀ c ∈ bytesOf s, dig c = true) → s.size ≠ 0 → s.size ≤ 18 → ok = true ∧ n = dval (bytesOf s)) ∧ ((∃ c ∈ bytesOf s, dig c = false) → ok = false) := by
  by_cases h0 : s.size = 0
  · refine ⟨0, 0, false, by rw [spec_Uint64.f, if_pos (toList_nil.2 h0)], by omega, by omega, fun _ h => absurd h0 h, fun _ => rfl⟩
  · obtain ⟨k, n, ok, hk, n0, n1, p1, p2⟩ := u64_l0 s hs s.size 0 0 (by omega) (by omega) (by omega)
    refine ⟨k, n, ok, ?_, n0, n1, fun h1 _ h2 => p1 h1 ?_, p2⟩
    · rw [spec_Uint64.f, if_neg (fun h => h0 (toList_nil.1 h))]
      exact (spec_Uint64.mono_l k).1 s 0 0 _ hk
    · have := pow_mono10 h2
      rw [from_len]
      have e : (10 : Int) ^ 18 = 1000000000000000000 := by decide
      rw [show s.size - 0 = s.size from rfl]
      omega
theorem bytes_tail (s : ByteArray) : bytesOf (s.extract 1 s.size) = (bytesOf s).drop 1 := by
  rw [bytesOf_extract]
  rw [List.take_of_length_le (by rw [List.length_drop, bytesOf_length]; omega)]
set_option maxHeartbeats 2000000 in
theorem i64_f (s : ByteArray) (hs : s.size ≤ 2147483647) : ∃ k n ok, spec_Int64.f k s = some (n, ok) ∧ ∀ sg ds fr, Nw s sg ds fr → (fr = [] → ds.length ≤ 18 → ok = true ∧ n = sval sg ds) ∧ (fr ≠ [] → ok = false) := by
  have wneg : ∀ n : Int, 0 ≤ n → n < 1000000000000000000 → wrap64 (IntKind.u64.wrap (-n)) = -n := by
    intro n h0 h1
    rw [IntKind.wrap_u64]
    unfold wrap64; omega
  have fin : ∀ (q : ByteArray) (neg : Bool), q.size ≤ 2147483647 → ∃ k n ok, spec_Int64.j1 k q neg = some (n, ok) ∧ (∀ sg ds fr : L, bytesOf q = ds ++ fr → (neg = true ↔ sg ≠ []) → ds ≠ [] → (∀ c ∈ ds, dig c = true) → (∀ c t, fr = c :: t → dig c = false) → (fr = [] → ds.length ≤ 18 → ok = true ∧ n = sval sg ds) ∧ (fr ≠ [] → ok = false)) := by
    intro q neg hq
    obtain ⟨k, n, ok, hk, n0, n1, p1, p2⟩ := u64_f q hq
    have no : ∀ sg ds fr : L, bytesOf q = ds ++ fr → (∀ c t, fr = c :: t → dig c = false) → fr ≠ [] → ok = false := by
      intro sg ds fr he hh hne
      cases fr with
      | nil => exact absurd rfl hne
      | cons c t => exact p2 ⟨c, by rw [he]; simp, hh c t rfl⟩
    have ye : ∀ ds : L, bytesOf q = ds ++ [] → ds ≠ [] → (∀ c ∈ ds, dig c = true) → ds.length ≤ 18 → ok = true ∧ n = dval ds ∧ 0 ≤ n ∧ n < 1000000000000000000 := by
      intro ds he hne hd hl
      rw [List.append_nil] at he
      have hz : q.size = ds.length := by rw [← bytesOf_length, he]
      obtain ⟨a, b⟩ := p1 (by rw [he]; exact hd) (by rw [hz]; exact fun h => hne (List.eq_nil_of_length_eq_zero h)) (by omega)
      have := dval_bound hd hl
      rw [he] at b
      exact ⟨a, b, by omega, by omega⟩
    cases ok with
    | false =>
      refine ⟨k + 2, 0, false, ?_, fun sg ds fr he hn hne hd hh => ⟨fun hf hl => ?_, fun _ => rfl⟩⟩
      · rw [spec_Int64.j1, hk]
        rfl
      · rw [hf] at he
        have := (ye ds he hne hd hl).1
        cases this
    | true =>
      have nofr : ∀ sg ds fr : L, bytesOf q = ds ++ fr → (∀ c t, fr = c :: t → dig c = false) → fr = [] := by
        intro sg ds fr he hh
        cases fr with
        | nil => rfl
        | cons c t => have := no sg ds _ he hh (by simp); cases this
      cases neg with
      | true =>
        by_cases hle : n ≤ 9223372036854775808
        · refine ⟨k + 2, wrap64 (IntKind.u64.wrap (-n)), true, ?_, fun sg ds fr he hn hne hd hh => ⟨fun hf hl => ?_, fun h => absurd (nofr sg ds fr he hh) h⟩⟩
          · rw [spec_Int64.j1, hk]
            show spec_Int64.j2 (k + 1) true n (decide (n ≤ 9223372036854775808)) = _
            rw [decide_eq_true hle]; rfl
          · rw [hf] at he
            obtain ⟨_, b, c0, c1⟩ := ye ds he hne hd hl
            refine ⟨rfl, ?_⟩
            rw [wneg n c0 c1]
            unfold sval
            rw [if_neg (hn.1 rfl), b]
        · refine ⟨k + 2, 0, false, ?_, fun sg ds fr he hn hne hd hh => ⟨fun hf hl => ?_, fun _ => rfl⟩⟩
          · rw [spec_Int64.j1, hk]
            show spec_Int64.j2 (k + 1) true n (decide (n ≤ 9223372036854775808)) = _
            rw [decide_eq_false hle]; rfl
          · rw [hf] at he
            have := ye ds he hne hd hl
            omega
      | false =>
        by_cases hlt : n < 9223372036854775808
        · refine ⟨k + 2, wrap64 n, true, ?_, fun sg ds fr he hn hne hd hh => ⟨fun hf hl => ?_, fun h => absurd (nofr sg ds fr he hh) h⟩⟩
          · rw [spec_Int64.j1, hk]
            show spec_Int64.j2 (k + 1) false n false = _
            rw [spec_Int64.j2, if_neg Bool.false_ne_true, if_neg Bool.false_ne_true, if_pos hlt]
          · rw [hf] at he
            obtain ⟨_, b, c0, c1⟩ := ye ds he hne hd hl
            refine ⟨rfl, ?_⟩
            have hsg : sg = [] := by
              by_cases hsg : sg = []
              · exact hsg
              · exact absurd (hn.2 hsg) Bool.false_ne_true
            unfold sval
            rw [if_pos hsg, ← b]
            unfold wrap64; omega
        · refine ⟨k + 2, 0, false, ?_, fun sg ds fr he hn hne hd hh => ⟨fun hf hl => ?_, fun _ => rfl⟩⟩
          · rw [spec_Int64.j1, hk]
            show spec_Int64.j2 (k + 1) false n false = _
            rw [spec_Int64.j2, if_neg Bool.false_ne_true, if_neg Bool.false_ne_true, if_neg hlt]
          · rw [hf] at he
            have := ye ds he hne hd hl
            omega
  by_cases h0 : s.size = 0
  · obtain ⟨k, n, ok, hk, hp⟩ := fin s false hs
    refine ⟨k + 1, n, ok, ?_, fun sg ds fr hn => ?_⟩
    · rw [spec_Int64.f, if_pos (toList_nil.2 h0), spec_Int64.j0, if_neg Bool.false_ne_true]
      exact hk
    · have he := hn.eq
      have := congrArg List.length he
      rw [bytesOf_length, h0] at this
      simp only [List.length_append] at this
      exact absurd (List.eq_nil_of_length_eq_zero (by omega)) hn.ne
  · have hc := from_cons7 s 0 (by omega)
    rw [show from_ s 0 = bytesOf s from rfl] at hc
    by_cases h45 : bt s ((0 : Nat) : Int) = 45
    · obtain ⟨k, n, ok, hk, hp⟩ := fin (s.extract 1 s.size) true (by rw [ByteArray.size_extract]; omega)
      refine ⟨k + 1, n, ok, ?_, fun sg ds fr hn => ?_⟩
      · rw [spec_Int64.f, if_neg (fun h => h0 (toList_nil.1 h)), if_pos (by omega)]
        rw [show (bt s 0 == 45) = true from beq_iff_eq.mpr h45, spec_Int64.j0, if_pos rfl, if_pos (by omega)]
        exact hk
      · have he := hn.eq
        rw [List.append_nil] at he
        rw [hc, h45] at he
        rcases hn.hsg with e | e
        · rw [e] at he
          cases hds : ds with
          | nil => exact absurd hds hn.ne
          | cons d u =>
            rw [hds] at he
            injection he with he _
            have := hn.dg d (by rw [hds]; exact List.mem_cons_self)
            rw [← he] at this; cases this
        · refine hp sg ds fr ?_ ⟨fun _ => by rw [e]; simp, fun _ => rfl⟩ hn.ne hn.dg hn.hhd
          rw [e] at he
          injection he with _ he
          rw [bytes_tail, hc]
          exact he
    · obtain ⟨k, n, ok, hk, hp⟩ := fin s false hs
      refine ⟨k + 1, n, ok, ?_, fun sg ds fr hn => ?_⟩
      · rw [spec_Int64.f, if_neg (fun h => h0 (toList_nil.1 h)), if_pos (by omega)]
        rw [show (bt s 0 == 45) = false from beq_false_of_ne h45, spec_Int64.j0, if_neg Bool.false_ne_true]
        exact hk
      · have he := hn.eq
        rw [List.append_nil] at he
        rcases hn.hsg with e | e
        · refine hp sg ds fr (by rw [he, e]; rfl) ⟨fun h => (by cases h), fun h => absurd e h⟩ hn.ne hn.dg hn.hhd
        · rw [e, hc] at he
          injection he with he _
          exact absurd he h45
end Go.Proofs.YtalcjolomigedaaDoor.Fp

set_option linter.unusedVariables false
namespace Go.Proofs.YtalcjolomigedaaDoor.J
open Go.RowKit Go.Lib Go.ChangeShapes Go.Deep

theorem err_of {W : World} {d : DataW Unit} (h2 : VarReads Tryd.prog W "strconv.ErrSyntax" (.iface "*errors.errorString" d)) : ErrV W := by
  obtain ⟨g2, t2, cs2, f2, p2, hg2, ht2, hv2, hd2⟩ := h2
  obtain rfl := Option.some.inj ((show Tryd.prog.globalNamed "strconv.ErrSyntax" = some gS by kernel_rfl).symm.trans hg2)
  obtain rfl := Option.some.inj ((show (Tryd.prog.globals[gS]?).map (·.type) = some 55 by kernel_rfl).symm.trans ht2)
  obtain ⟨fuel', u, v, e2, _, _⟩ := iface_of_trod Tryd.underlying55 hd2
  have i3 := World.var?_cell hg2 hv2 0
  refine ⟨.iface u v, ?_, .inr ⟨u, v, rfl⟩⟩
  rw [i3, ← Array.getElem?_toList, e2]; rfl
end Go.Proofs.YtalcjolomigedaaDoor.J

set_option linter.unusedVariables false
namespace Go.Proofs.YtalcjolomigedaaDoor.Fp
open Go.RowKit Go.Lib Go.ChangeShapes Go.Deep

theorem errR_of {W : World} {d : DataW Unit} (h2 : VarReads Tryd.prog W "strconv.ErrRange" (.iface "*errors.errorString" d)) : ErrR W := by
  obtain ⟨g2, t2, cs2, f2, p2, hg2, ht2, hv2, hd2⟩ := h2
  obtain rfl := Option.some.inj ((show Tryd.prog.globalNamed "strconv.ErrRange" = some 2 by kernel_rfl).symm.trans hg2)
  obtain rfl := Option.some.inj ((show (Tryd.prog.globals[2]?).map (·.type) = some 55 by kernel_rfl).symm.trans ht2)
  obtain ⟨fuel', u, v, e2, _, _⟩ := iface_of_trod Tryd.underlying55 hd2
  have i3 := World.var?_cell hg2 hv2 0
  refine ⟨.iface u v, ?_, .inr ⟨u, v, rfl⟩⟩
  rw [i3, ← Array.getElem?_toList, e2]; rfl
end Go.Proofs.YtalcjolomigedaaDoor.Fp

set_option linter.unusedVariables false
set_option linter.unusedSimpArgs false
namespace Go.Proofs.YtalcjolomigedaaDoor.Fp
open Go.RowKit Go.Proofs.YtalcjolomigedaaDoorW.PrintWords Go.Proofs.YtalcjolomigedaaDoorW.PrintLast Go.Proofs.YtalcjolomigedaaDoorW.PrintMore Go.Proofs.YtalcjolomigedaaDoor.Aid Go.Proofs.YtalcjolomigedaaDoor.J Go.Proofs.YtalcjolomigedaaDoor.PFnFjInt

theorem unq_le : ∀ (m : Nat) (l : L), l.length ≤ m → (unq l).length ≤ 4 * l.length := by
  intro m
  induction m with
  | zero =>
    intro l h
    have : l = [] := List.eq_nil_of_length_eq_zero (by omega)
    subst this; rw [unq]; simp
  | succ m ih =>
    intro l h
    cases l with
    | nil => rw [unq]; simp
    | cons c t =>
      simp only [List.length_cons] at h
      rw [unq]
      split
      · split
        · have := ih t.tail (by rw [List.length_tail]; omega)
          rw [List.length_tail] at this
          simp only [List.length_cons]; omega
        · rename_i n _
          have h4 := utf8_le n
          have a5 := ih (t.drop 5) (by rw [List.length_drop]; omega)
          rw [List.length_drop] at a5
          split
          · rename_i q _
            split
            · have h4' := utf8_le (comb n q)
              have a11 := ih (t.drop 11) (by rw [List.length_drop]; omega)
              rw [List.length_drop] at a11
              rw [List.length_append]; simp only [List.length_cons]; omega
            · rw [List.length_append]; simp only [List.length_cons]; omega
          · rw [List.length_append]; simp only [List.length_cons]; omega
      · have := ih t (by omega)
        simp only [List.length_cons]; omega
theorem text_small {s : ByteArray} {x : Tn} (hx : readT s = some x) (h : s.size ≤ 4000) : x.text.size ≤ 100000 := by
  unfold readT at hx
  cases ht : text (bytesOf s) with
  | none => rw [ht] at hx; cases hx
  | some p =>
    rw [ht] at hx
    rw [← Option.some.inj hx]
    obtain ⟨k, b, e, ns, ks⟩ := p
    rw [tree_eq]
    show (txt s k b e).size ≤ 100000
    have hc : (cut s b e).size ≤ 4000 := by unfold cut; rw [ByteArray.size_extract]; omega
    unfold txt
    split
    · omega
    split
    · unfold quo
      rw [sz_of]
      have := unq_le _ (((bytesOf (cut s b e)).drop 1).take ((cut s b e).size - 2)) (Nat.le_refl _)
      rw [List.length_take] at this
      omega
    · show 0 ≤ 100000; omega
/-- What a tree read from a text says of fastjson's parser. -/
theorem read_ir {s : ByteArray} {x : Tn} (hs : s.size ≤ 4000) (hx : readT s = some x) (hsm : x.kind = 3 → J.num (bytesOf x.text) = some [] → (∀ c ∈ tl (bytesOf x.text), dig c = true) → (tl (bytesOf x.text)).length ≤ 18) :
    ∃ ok v, IR (parse0 (bytesOf s)) ok v ∧ (x.kind = 3 → ∃ sg ds fr, Nw x.text sg ds fr ∧ (fr = [] → ds.length ≤ 18) ∧ v = sval sg ds ∧ ok = decide (fr = [])) ∧ (x.kind ≠ 3 → ok = false) := by
  unfold readT at hx
  cases ht : text (bytesOf s) with
  | none => rw [ht] at hx; cases hx
  | some p =>
    rw [ht] at hx
    replace hx : tree s p = x := Option.some.inj hx
    have hkind : x.kind = p.kind := by rw [← hx, tree_kind]
    by_cases hk : p.kind = 3
    · obtain ⟨sg, ds, fr, r, hn, hp, hsl⟩ := top_num ht hk
      have hok := text_okT ht
      have hbt : bytesOf x.text = sg ++ (ds ++ fr) := by
        rw [← hx]
        obtain ⟨k, b, e, ns, ks⟩ := p
        rw [J.okT] at hok
        rw [tree_eq]
        show bytesOf (txt s k b e) = _
        have hk' : k = 3 := hk
        unfold txt
        rw [if_pos hk', cut_bytes s b e (by omega) (by omega)]
        exact hsl
      have hnw : Nw x.text sg ds fr := ⟨by rw [hbt]; simp, hn.hsg, hn.ne, hn.dg, hn.hfr, hn.hhd, hn.lz⟩
      have h18 : fr = [] → ds.length ≤ 18 := by
        intro hf
        rw [hf, List.append_nil] at hbt
        have htl : tl (bytesOf x.text) = ds := by
          rw [hbt]
          obtain ⟨d, u, hds⟩ : ∃ d u, ds = d :: u := by
            cases hds : ds with
            | nil => exact absurd hds hn.ne
            | cons d u => exact ⟨d, u, rfl⟩
          rcases hn.hsg with e | e
          · rw [e, hds]
            have hd := dig_iff.1 (hn.dg d (by rw [hds]; exact List.mem_cons_self))
            show (if d = 45 then u else d :: u) = d :: u
            rw [if_neg (by omega)]
          · rw [e]
            show (if (45 : Int) = 45 then ds else 45 :: ds) = ds
            rw [if_pos rfl]
        have := hsm (by rw [hkind, hk]) (by rw [hbt]; exact num_alone hn.hsg hn.ne hn.dg hn.lz) (by rw [htl]; exact hn.dg)
        rw [htl] at this
        exact this
      have hst : strOfNums (sg ++ (ds ++ fr)) = x.text := by rw [← hbt, str_of_bytes]
      refine ⟨decide (fr = []), sval sg ds, ⟨fun a ha => ?_, fun h => ?_, fun a ha => ?_⟩, fun _ => ⟨sg, ds, fr, hnw, h18, rfl, rfl⟩, fun h => absurd (hkind.trans hk) h⟩
      · rw [hp] at ha
        injection ha with ha; injection ha with _ ha
        exact ⟨sg, ds, fr, by rw [← ha, hst]; exact hnw, h18, rfl, rfl⟩
      · exact absurd hp (h _)
      · rw [hp] at ha
        injection ha with ha; injection ha with ha _
        cases ha
    · refine ⟨false, 0, ⟨fun a ha => absurd ha (top_other ht hk a), fun _ => rfl, fun a ha => top_raw ha⟩, fun h => absurd (hkind ▸ h) hk, fun _ => rfl⟩
theorem ir_one : IR (parse0 (bytesOf ⟨#[55]⟩)) true 7 := by
  have hp : parse0 (bytesOf ⟨#[55]⟩) = some (.leaf 4 [55]) := by kernel_rfl
  have hn : Nw (strOfNums [55]) [] [55] [] := ⟨by kernel_rfl, .inl rfl, by simp, fun c hc => by rw [List.mem_singleton.1 hc]; rfl, (fun c hc => by cases hc), (fun c t h => by cases h), .inr (fun t h => by injection h with h; cases h)⟩
  rw [hp]
  refine ⟨fun a ha => ?_, fun h => absurd rfl (h [55]), fun a ha => ?_⟩
  · injection ha with ha; injection ha with _ ha
    rw [← ha]
    exact ⟨[], [55], [], hn, fun _ => by simp, by rfl, by rfl⟩
  · injection ha with ha; injection ha with ha _; cases ha
theorem fact_of {x : Tn} {ok1 okn : Bool} {v n : Int} (K : x.kind = 3 → ∃ sg ds fr, Nw x.text sg ds fr ∧ (fr = [] → ds.length ≤ 18) ∧ v = sval sg ds ∧ ok1 = decide (fr = [])) (K0 : x.kind ≠ 3 → ok1 = false) (V : ∀ sg ds fr, Nw x.text sg ds fr → (fr = [] → ds.length ≤ 18 → okn = true ∧ n = sval sg ds) ∧ (fr ≠ [] → okn = false)) :
    (x.kind = 3 → okn = ok1 ∧ (ok1 = true → n = v)) ∧ (x.kind ≠ 3 → ok1 = false) := by
  refine ⟨fun hk => ?_, K0⟩
  obtain ⟨sg, ds, fr, hn, h18, hv, ho⟩ := K hk
  obtain ⟨v1, v2⟩ := V sg ds fr hn
  by_cases hf : fr = []
  · obtain ⟨a, b⟩ := v1 hf (h18 hf)
    exact ⟨by rw [a, ho, decide_eq_true hf], fun _ => by rw [b, hv]⟩
  · rw [decide_eq_false hf] at ho
    exact ⟨by rw [v2 hf, ho], fun h => by rw [ho] at h; cases h⟩
theorem fin_a {k n v a : Int} {ok1 okn : Bool} (F1 : k = 3 → okn = ok1 ∧ (ok1 = true → n = v)) (B : ok1 = true → a = v) (hk : k = 3) (ho : okn = true) (h : ¬ a = n) : False := by
  obtain ⟨e, f⟩ := F1 hk
  rw [ho] at e
  exact h ((B e.symm).trans (f e.symm).symm)
theorem fin_b {k n v : Int} {ok1 okn : Bool} (F1 : k = 3 → okn = ok1 ∧ (ok1 = true → n = v)) (F2 : k ≠ 3 → ok1 = false) (ho : okn = true) (h : ¬ ok1 = (k == 3)) : False := by
  by_cases hk : k = 3
  · exact h (by rw [← (F1 hk).1, ho, hk]; rfl)
  · exact h (by rw [F2 hk, beq_false_of_ne hk])
theorem fin_c {k n v : Int} {ok1 okn : Bool} (F1 : k = 3 → okn = ok1 ∧ (ok1 = true → n = v)) (F2 : k ≠ 3 → ok1 = false) (ho : ¬ okn = true) (h : ok1 = true) : False := by
  by_cases hk : k = 3
  · exact ho ((F1 hk).1.trans h)
  · rw [F2 hk] at h; cases h
set_option maxHeartbeats 8000000 in
set_option maxRecDepth 100000 in
theorem law_any (s : ByteArray) (w : World) (hE : ErrV w) (hR : ErrR w) (h : s.size ≤ 140737488351232) :
    Calls Tryd.prog 5 #[.string s] w fun e w' => e = .returned (.bool true) ∧ Below w.heap.size w w' := by
  by_cases h1 : 2147483647 < s.size
  · have d1 : decide ((2147483647 : Int) < (s.size : Int)) = true := decide_eq_true (by omega)
    have d2 : decide (2147483647 < s.size) = true := decide_eq_true h1
    clear h h1 hE hR
    go_enter Tryd.func5, Tryd.ntmps5
    go_wp2
    go_ret
    exact ⟨rfl, Below.refl _ _⟩
  have d1 : decide ((2147483647 : Int) < (s.size : Int)) = false := decide_eq_false (by omega)
  have d2 : decide (2147483647 < s.size) = false := decide_eq_false h1
  have HT := Lib.hid (fun W => fjText_any s (by omega) W)
  have HB := Lib.hid (Below.refl w.heap.size w)
  have HE := Lib.hid (fun W (hb : Below w.heap.size w W) => And.intro (hE.below hb) (hR.below hb))
  have HONE := Lib.hid (fun W (hb : Below w.heap.size w W) => FjInt64_any W ⟨#[55]⟩ (by show 1 ≤ 90000; omega) true 7 ir_one (hE.below hb) (hR.below hb))
  have H64 := Lib.hid (fun (hs : s.size ≤ 4000) (ok : Bool) (v : Int) (hi : IR (parse0 (bytesOf s)) ok v) W (hb : Below w.heap.size w W) => FjInt64_any W s (by omega) ok v hi (hE.below hb) (hR.below hb))
  have HI := Lib.hid (fun (hs : s.size ≤ 4000) (ok : Bool) (v : Int) (hi : IR (parse0 (bytesOf s)) ok v) W (hb : Below w.heap.size w W) => FjInt_any W s (by omega) ok v hi (hE.below hb) (hR.below hb))
  clear h h1 hE hR
  go_enter Tryd.func5, Tryd.ntmps5
  go_wp2_with (first
    | (go_at_call 12; refine (HT.out _).mono ?_; rintro e w1 ⟨x, A2, c2, A3, c3, ok, hb, _, _, rfl, hok⟩; replace HB := Lib.hid (below_alloc hb (.cells #[.int .i64 x.kind, .string x.text, .slice A2 x.keys.length c2, .slice A3 x.kids.length c3] tNd)); have HN := Lib.hid (blk_new w1 (.cells #[.int .i64 x.kind, .string x.text, .slice A2 x.keys.length c2, .slice A3 x.kids.length c3] tNd)); have HO := Lib.hid hok; clear hb hok)
    | (go_at_call 13; have hok := ‹ok = true›; refine (fjSmall_any x (Nat.le_trans (text_small (HO.out hok).2.2.2.1 (HO.out hok).1) (by decide)) _ A2 A3 _ c2 _ c3).mono ?_; rintro e w2 ⟨b, rfl, hb, hq⟩; replace HN := Lib.hid (blk_below HN.out hb); replace HB := Lib.hid (below_step HB.out hb); have HS := Lib.hid hq; clear hb hq)
    | (go_at_call_of 14 (Value.string s); obtain ⟨ok1, v, hI, hK, hK0⟩ := read_ir (HO.out hok).1 (HO.out hok).2.2.2.1 (HS.out (by have hnb := ‹(!b) = false›; simpa using hnb)); refine (H64.out (HO.out hok).1 ok1 v hI _ HB.out).mono ?_; rintro e w3 ⟨hb, a1, rfl, ha1⟩; have HIR := Lib.hid hI; have HK := Lib.hid (And.intro hK hK0); have HA1 := Lib.hid ha1; replace HN := Lib.hid (blk_below HN.out hb); replace HB := Lib.hid (below_step HB.out hb); clear hb hI hK hK0 ha1)
    | (go_at_call 15; refine (HI.out (HO.out hok).1 ok1 v HIR.out _ HB.out).mono ?_; rintro e w4 ⟨hb, a2, rfl, ha2⟩; have HA2 := Lib.hid ha2; replace HN := Lib.hid (blk_below HN.out hb); replace HB := Lib.hid (below_step HB.out hb); clear hb ha2; have n1 := blk_cell HN.out 1)
    | (go_at_call 16; obtain ⟨k, n, okn, hk, hn⟩ := i64_f x.text (Nat.le_trans (text_small (HO.out hok).2.2.2.1 (HO.out hok).1) (by decide)); refine (spec_Int64.calls k x.text n okn _ hk).mono ?_; rintro e w5 ⟨rfl, hd⟩; have HV := Lib.hid hn; replace HN := Lib.hid (blk_below HN.out hd.below); replace HB := Lib.hid (below_step HB.out hd.below); clear hd hn hk n1; have n0 := blk_cell HN.out 0)
    | (go_at_call 14; refine (HONE.out _ HB.out).mono ?_; rintro e w6 ⟨hb, a3, rfl, ha3⟩; have HA3 := Lib.hid ha3; replace HB := Lib.hid (below_step HB.out hb); clear hb ha3))
  all_goals
    go_ret
    refine ⟨?_, HB.out⟩
    first
      | rfl
      | (exfalso
         obtain ⟨F1, F2⟩ := fact_of HK.out.1 HK.out.2 HV.out
         have B1 := HA1.out
         have B2 := HA2.out
         first
           | exact fin_a F1 B2 ‹x.kind = 3› ‹okn = true› ‹¬ a2 = n›
           | exact fin_a F1 B1 ‹x.kind = 3› ‹okn = true› ‹¬ a1 = n›
           | exact fin_b F1 F2 ‹okn = true› ‹¬ ok1 = (x.kind == 3)›
           | exact fin_c F1 F2 ‹¬ okn = true› ‹ok1 = true›)
end Go.Proofs.YtalcjolomigedaaDoor.Fp
