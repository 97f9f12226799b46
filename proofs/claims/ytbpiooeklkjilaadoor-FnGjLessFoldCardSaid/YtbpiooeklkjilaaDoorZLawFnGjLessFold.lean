/- Less of two strings, without case counting, is what it is with case counting for the strings with small letters in the place of the capital ones of ASCII; both in UTF-8, of at most 2^12 bytes together. -/
import Derived.Test.YtbpiooeklkjilaaDoorRows
import Derived.Test.YtbpiooeklkjilaaDoorCards
import Derived.Test.YtbpiooeklkjilaaDoorTie
import Derived.Test.YtbpiooeklkjilaaDoorZGlL
import Derived.WalkKit
import Derived.ProofKit
import Derived.OpenShut
import Derived.ShutString
import Derived.ChangeOld
import Derived.Below
import Derived.SizedLaws
import Derived.Carry
import Derived.LaidMore
import Derived.Lay
import Derived.SevenTiedAt
import Derived.Stop.Joined
import Derived.Lib.LaidU8
namespace Go.Proofs.YtbpiooeklkjilaaDoor.fnGjLessFold
open Go.ChangeShapes Go.WideShapes Go.ChangeAt Go.RowKit
open Go.ChangeMaps (open_string shut_string)
set_option linter.unusedVariables false
theorem own : ownKnob Tryd.prog.godebug = none := by kernel_rfl
set_option maxRecDepth 100000 in
theorem lifted (os : Os) (started : os.Started) (H : Type) (enc : TypeId × Value → H) :
    ReturnsInHanded {} Tryd.checked os 3 .any (fun w args => (Rows.fnGjLessFoldSpec.pre enc Tryd.prog Tryd.f3 Rows.fnGjLessFoldRow.domain false w args ∧ laidMetH Tryd.prog Rows.fnGjLessFoldRow.laid w) ∧ sizedMet enc Tryd.prog Tryd.f3 (OpenSpec.ofChange Rows.fnGjLessFoldSpec) false w args) (Rows.fnGjLessFoldSpec.post enc Tryd.prog Tryd.f3 false true false false) := by
  refine returnsInHanded_of_change_and (C := Tryd.checked) (X := fun w _ => laidMetH Tryd.prog Rows.fnGjLessFoldRow.laid w) (fun _ _ _ hh h => h.of_heap hh) own started (by kernel_rfl) Tryd.func3
    (ChangeSpec.witness_shaped (enc := enc) (C := Tryd.checked) (os := os) (X := fun w _ => laidMetH Tryd.prog Rows.fnGjLessFoldRow.laid w) false (World.laidAll Tryd.prog os Rows.fnGjLessFoldRow.laid) #[.string ByteArray.empty, .string ByteArray.empty] 8 (World.laidAll_os _ _ _)
      (World.shaped_of_ZipB (by kernel_rfl) (by kernel_rfl)) (by kernel_rfl) (by kernel_rfl) (by kernel_rfl)
      (by rw [MakeChecks.laidMetH_plain _ _ _ (by kernel_rfl)]; exact laidMet_laidAll _ (by kernel_rfl) (by kernel_rfl))) ?_
  intro W base args ds gs before hval0 hW hcnd hsz0 hL0 _
  have hR : laidMet Tryd.prog Rows.fnGjLessFoldRow.laid W := by have h := hL0; rw [MakeChecks.laidMetH_plain _ _ _ (by kernel_rfl)] at h; exact h
  have hsz : (DataW.weightsEach Tryd.prog (Tryd.f3.params.toList ++ Rows.fnGjLessFoldSpec.plain.varTypes Tryd.prog) (ds ++ gs)).all (· ≤ reachBytes) = true := hsz0
  have hval : ∀ (j : Nat) t v, Tryd.f3.params[j]? = some t → args[j]? = some v → Value.okWide Tryd.prog W .any base t v := hval0
  have hW' := hW
  obtain ⟨p, q, hA0, hV, rfl, hfz, hnd⟩ := hW
  have hA : DataW.TrodAll enc Tryd.prog W 0 (fun _ => true) true Tryd.f3.params.toList args.toList ds p := hA0
  rw [Tryd.params3] at hA hval hsz
  obtain ⟨v0, vs0, d0, ds0, p0, q0, hargs, rfl, rfl, h0, r0⟩ := trodAll_cons hA
  obtain ⟨v1, vs1, d1, ds1, p1, q1, rfl, rfl, rfl, h1, r1⟩ := trodAll_cons r0
  obtain ⟨rfl, rfl, rfl⟩ := trodAll_nil r1
  obtain rfl : args = #[v0, v1] := by cases args; simp_all
  obtain ⟨rfl, rfl⟩ := trodVars_none hV
  obtain ⟨a0, rfl, rfl, rfl, y0⟩ := open_string Tryd.underlying9 (hval 0 9 v0 rfl rfl) h0
  have w0 : a0.size ≤ 140737488351232 := by
    have z := sized_string hsz (j := 0) (t := 9) rfl rfl
    rw [Array.length_toList] at z
    exact z
  obtain ⟨a1, rfl, rfl, rfl, y1⟩ := open_string Tryd.underlying9 (hval 1 9 v1 rfl rfl) h1
  have w1 : a1.size ≤ 140737488351232 := by
    have z := sized_string hsz (j := 1) (t := 9) rfl rfl
    rw [Array.length_toList] at z
    exact z
  have rd : ∀ n d, (n, d) ∈ Rows.fnGjLessFoldRow.laid → Lib.VarReads Tryd.prog W n d := by obtain ⟨_, hv, _⟩ := hR; exact Lib.LaidVars_reads hv
  clear hA0 hval0 hsz0 hsz
  refine (Go.Proofs.YtbpiooeklkjilaaDoor.Gl.law_any a0 a1 W  w0 w1).mono fun e W' ⟨he, bel⟩ => ?_
  subst he
  exact ⟨_, rfl, _, _, _, [], _, [], hW', trodAll_mk1 (shut_bool Tryd.underlying4 _), (trodAll_cons_mk (shut_string Tryd.underlying9 y0) (trodAll_cons_mk (shut_string Tryd.underlying9 y1) trodAll_mk0)), rfl, bel.frame _, fun h => by cases h⟩
theorem over : Rows.FnGjLessFoldSaid :=
  OpenClaim.holds_of_wide 3 Tryd.f3 rfl rfl rfl rfl rfl rfl rfl ⟨rfl, rfl, rfl, rfl, rfl⟩ rfl rfl rfl rfl rfl (by kernel_rfl) Tryd.func3 (by kernel_rfl)
    (of_decide_eq_true (by kernel_rfl)) (by unfold Func.isWrapper; first | (rw [if_pos (by decide +kernel)]; kernel_rfl) | (rw [if_neg (by decide +kernel)]; exact ⟨rfl, rfl⟩))
    (fun os started H enc _ => lifted os started H enc)
theorem proved : Rows.FnGjLessFoldCardSaid :=
  Claim7.holds_tied_plain_at .later [] [.data, .data, .widerDeep, .widerDeep, .data, .data, .data, .data, .data, .sentinel, .sentinel, .pinned, .pinned] true (true, "207e08421afda6abea55927cf1b58f9b3efbf9d767094fad0ad5023d281937c8") true over (fun _ h => by cases h) (by kernel_rfl) (fun _ h => by cases h) fnGjLessFold_row_tie rfl ⟨rfl, rfl⟩ (by kernel_rfl) rfl
    (fun f fn hf hfn => by
      obtain rfl : f = 3 := Option.some.inj ((show Tryd.prog.funcNamed "pub-tetrapla/laws.FnGjLessFold" = some 3 by kernel_rfl).symm.trans hf) |>.symm
      obtain rfl : fn = Tryd.f3 := (Option.some.inj (Tryd.func3.symm.trans hfn)).symm
      exact ⟨by kernel_rfl, fun j t ht => by
        rw [Tryd.params3] at ht
        have hm : t ∈ [9, 9] := by simpa using Array.mem_of_getElem? ht
        have hall : ([9, 9].all fun u => !Tryd.prog.wantsStandIn u) = true := by kernel_rfl
        exact (show Tryd.prog.wantsStandIn t = false by simpa using List.all_eq_true.1 hall t hm)⟩)
    (by kernel_rfl)
#print axioms proved
end Go.Proofs.YtbpiooeklkjilaaDoor.fnGjLessFold
