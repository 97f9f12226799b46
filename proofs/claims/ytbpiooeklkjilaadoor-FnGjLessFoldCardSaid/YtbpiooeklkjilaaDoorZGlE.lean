/- spec.Quote, and gjSmall: the printed function's plain value; the walk of a loop that writes bytes. -/
import Derived.Test.YtbpiooeklkjilaaDoorZGlA
import Derived.Test.YtbpiooeklkjilaaDoorZLessPure
import Derived.Test.YtbpiooeklkjilaaDoorZPFnGjLessFoldx7
import Derived.Test.YtbpiooeklkjilaaDoorZPFnGjLessFoldx1
set_option linter.unusedVariables false
set_option linter.unusedSimpArgs false
namespace Go.Proofs.YtbpiooeklkjilaaDoor.Gl
open Go.RowKit Go.Proofs.YtbpiooeklkjilaaDoorW.PrintWords Go.Proofs.YtbpiooeklkjilaaDoorW.PrintLast Go.Proofs.YtbpiooeklkjilaaDoorW.PrintMore Go.Proofs.YtbpiooeklkjilaaDoor.Aid Go.Proofs.YtbpiooeklkjilaaDoor.J Go.Proofs.YtbpiooeklkjilaaDoor.PFnGjLessFold

theorem dg_f {c : Int} (h0 : 0 ≤ c) (h1 : c < 32) : spec_digitOf.f (wrap64 (Int.tmod c 16)) false = some (hx (c % 16)) ∧ (48 + ((Int.tdiv c 16) % 256)) % 256 = 48 + c / 16 := by
  rw [Int.tmod_eq_emod_of_nonneg h0, Int.tdiv_eq_ediv_of_nonneg h0]
  have hw : wrap64 (c % 16) = c % 16 := by unfold wrap64; omega
  rw [hw]
  refine ⟨?_, by omega⟩
  unfold spec_digitOf.f hx
  split
  · congr 1; unfold wrap64; omega
  · rw [if_neg (by decide)]; congr 1; unfold wrap64; omega
theorem quote_step (s : ByteArray) (k : Nat) (x : L) (i c : Int) (h0 : 0 ≤ c) (h1 : c < 256) (hx' : x.length + 6 < 140737488355328) :
    ((spec_shortOf.f c).bind fun p => (if p.2 = true then (spec_Quote.j1 (k + 1) s x i c p.1 (c != 47)) else (spec_Quote.j1 (k + 1) s x i c p.1 false))) = spec_Quote.l0 k s (x ++ qz c) (wrap64 (i + 1)) := by
  have two : ∀ y : Int, spec_Quote.j1 (k + 1) s x i c y true = spec_Quote.l0 k s (x ++ [92, y]) (wrap64 (i + 1)) := fun y => by
    rw [spec_Quote.j1, if_pos rfl, Option.bind_some, if_pos (by simp; omega)]
  have one : ∀ y : Int, 32 ≤ c → spec_Quote.j1 (k + 1) s x i c y false = spec_Quote.l0 k s (x ++ [c]) (wrap64 (i + 1)) := fun y hc => by
    rw [spec_Quote.j1, if_neg (by decide), if_neg (by omega), if_pos (by omega)]
  unfold spec_shortOf.f qz
  by_cases e1 : c = 8
  · subst e1; simp only [if_true, Option.bind_some]; rw [show ((8 : Int) != 47) = true from rfl, two]; simp
  by_cases e2 : c = 12
  · subst e2; simp only [if_true, Option.bind_some]; simp only [reduceCtorEq, Int.reduceEq, if_false, if_true, Option.bind_some]; rw [show ((12 : Int) != 47) = true from rfl, two]
  by_cases e3 : c = 10
  · subst e3; simp only [reduceCtorEq, Int.reduceEq, if_false, if_true, Option.bind_some]; rw [show ((10 : Int) != 47) = true from rfl, two]
  by_cases e4 : c = 13
  · subst e4; simp only [reduceCtorEq, Int.reduceEq, if_false, if_true, Option.bind_some]; rw [show ((13 : Int) != 47) = true from rfl, two]
  by_cases e5 : c = 9
  · subst e5; simp only [reduceCtorEq, Int.reduceEq, if_false, if_true, Option.bind_some]; rw [show ((9 : Int) != 47) = true from rfl, two]
  by_cases e6 : c = 34
  · subst e6; simp only [reduceCtorEq, Int.reduceEq, if_false, if_true, Option.bind_some]; rw [show ((34 : Int) != 47) = true from rfl, two]
  by_cases e7 : c = 92
  · subst e7; simp only [reduceCtorEq, Int.reduceEq, if_false, if_true, Option.bind_some]; rw [show ((92 : Int) != 47) = true from rfl, two]
  by_cases e8 : c = 47
  · subst e8; simp only [reduceCtorEq, Int.reduceEq, if_false, if_true, Option.bind_some]; rw [show ((47 : Int) != 47) = false from rfl, one _ (by decide)]; rfl
  rw [if_neg e1, if_neg e2, if_neg e3, if_neg e4, if_neg e5, if_neg e6, if_neg e7, if_neg e8, Option.bind_some, if_neg (by decide), if_neg e6, if_neg e7, if_neg e1, if_neg e2, if_neg e3, if_neg e4, if_neg e5]
  by_cases h32 : c < 32
  · obtain ⟨d1, d2⟩ := dg_f h0 h32
    rw [spec_Quote.j1, if_neg (by decide), if_pos h32, d1, Option.bind_some, Option.bind_some, d2, if_pos (by simp; omega), if_pos h32]
  · rw [one _ (by omega), if_neg h32]
theorem by_split (s : ByteArray) (i : Nat) (h : i < s.size) : (bytesOf s).take (i + 1) = (bytesOf s).take i ++ [bt s (i : Int)] := by
  have h1 := bytesOf_get? s i h
  rw [List.take_add_one, h1]; rfl
theorem quote_l0 (s : ByteArray) (hs : s.size ≤ 100000) : ∀ (m i : Nat), i + m = s.size → spec_Quote.l0 (2 * m + 1) s (34 :: qs ((bytesOf s).take i)) (i : Int) = some (strOfNums (34 :: (qs (bytesOf s) ++ [34]))) := by
  intro m
  induction m with
  | zero =>
    intro i h
    have hz := bytesOf_length s
    have hq := qs_len (bytesOf s)
    rw [List.take_of_length_le (by omega), spec_Quote.l0, if_neg (by omega), if_pos (by simp only [List.length_cons]; omega)]
    rfl
  | succ m ih =>
    intro i h
    have hq := qs_len ((bytesOf s).take i)
    have hl : ((bytesOf s).take i).length ≤ i := List.length_take_le _ _
    have hc := bt_range s (i : Int)
    rw [show 2 * (m + 1) + 1 = (2 * m + 1 + 1) + 1 by omega, spec_Quote.l0, if_pos (by omega), if_pos (by omega), quote_step s (2 * m + 1) _ _ _ hc.1 (by omega) (by simp only [List.length_cons]; omega)]
    have e : wrap64 ((i : Int) + 1) = ((i + 1 : Nat) : Int) := by unfold wrap64; omega
    rw [e, List.cons_append, ← qs_snoc, ← by_split s i (by omega)]
    exact ih (i + 1) (by omega)
theorem quote_any (s : ByteArray) (hs : s.size ≤ 100000) (w : World) : Calls Tryd.prog 6 #[.string s] w fun e w' => e = .returned (.string (strOfNums (34 :: (qs (bytesOf s) ++ [34])))) ∧ Below w.heap.size w w' := by
  refine spec_Quote.calls (2 * s.size + 1) s _ w ?_
  have := quote_l0 s hs s.size 0 (by omega)
  exact this
/-- A byte of a row is written. -/
theorem OutF.set {w W : World} {g n cap : Nat} {xs : L} (h : OutF w W (.slice (some ⟨g, 0, none⟩) n cap) xs) (i : Nat) (hi : i < xs.length) (c : Int) : OutF w (W.setCell ⟨g, i, none⟩ (.int .u8 c)) (.slice (some ⟨g, 0, none⟩) n cap) (xs.set i c) := by
  obtain ⟨hB, g', cap', cur, hv, hg, hR, hl, hc, hm, ht⟩ := h
  injection hv with e1 e2 e3
  injection e1 with e1; injection e1 with e1 _ _
  subst e1; subst e2; subst e3
  refine ⟨hB.setCell hg _, g, cap, cur.set i (.int .u8 c), by rw [List.length_set], hg, hR.set i _, by rw [List.length_set]; exact hl, by rw [List.length_set]; exact hc, hm, ?_⟩
  rw [List.length_set, List.take_set, ht]
  simp only [nums, List.map_set]
end Go.Proofs.YtbpiooeklkjilaaDoor.Gl
