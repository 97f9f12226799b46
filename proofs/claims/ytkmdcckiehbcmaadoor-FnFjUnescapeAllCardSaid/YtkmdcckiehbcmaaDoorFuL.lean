/- The law FnFjUnescapeAll. -/
import Derived.Test.YtkmdcckiehbcmaaDoorFuC
import Derived.Test.YtkmdcckiehbcmaaDoorFuW
set_option linter.unusedVariables false
set_option linter.unusedSimpArgs false
namespace Go.Proofs.YtkmdcckiehbcmaaDoor.KA
open Go.RowKit Go.Proofs.YtkmdcckiehbcmaaDoorW.PrintWords Go.Proofs.YtkmdcckiehbcmaaDoorW.PrintLast Go.Proofs.YtkmdcckiehbcmaaDoorW.PrintMore Go.Proofs.YtkmdcckiehbcmaaDoor.Aid Go.Proofs.YtkmdcckiehbcmaaDoor.J Go.Proofs.YtkmdcckiehbcmaaDoor.PFnFjUnescapeAll

set_option maxHeartbeats 4000000 in
set_option maxRecDepth 100000 in
theorem law_any (s : ByteArray) (w : World) (hE : ErrV w) (hs : s.size ≤ 140737488351232) :
    Calls Tryd.prog 4 #[.string s] w fun e w' => e = .returned (.bool true) ∧ Below w.heap.size w w' := by
  by_cases c1 : 2147483647 < (s.size : Int)
  · have hd : decide (2147483647 < (s.size : Int)) = true := decide_eq_true c1
    clear hE
    go_enter Tryd.func4, Tryd.ntmps4
    go_wp2
    go_ret
    exact ⟨rfl, Below.refl _ _⟩
  have hd1 : decide (2147483647 < (s.size : Int)) = false := decide_eq_false c1
  by_cases c2 : 4000 < (s.size : Int)
  · have hd : decide (4000 < (s.size : Int)) = true := decide_eq_true c2
    clear hE
    go_enter Tryd.func4, Tryd.ntmps4
    go_wp2
    go_ret
    exact ⟨rfl, Below.refl _ _⟩
  have hd2 : decide (4000 < (s.size : Int)) = false := decide_eq_false c2
  have hq : s.size + (⟨#[34]⟩ : ByteArray).size ≤ 9223372036854775807 := by show s.size + 1 ≤ _; omega
  obtain ⟨q, hqd⟩ : ∃ q, q = s ++ (⟨#[34]⟩ : ByteArray) := ⟨_, rfl⟩
  have hqb : bytesOf q = bytesOf s ++ [34] := by rw [hqd, bytesOf_append]; rfl
  obtain ⟨kc, hc⟩ := closing_f q (by rw [hqd, ByteArray.size_append]; show s.size + 1 ≤ _; omega)
  obtain ⟨v, hv⟩ : ∃ v : Int, v = clR (bytesOf q) := ⟨_, rfl⟩
  rw [← hv] at hc
  have HC := Lib.hid (fun W => spec_Closing.calls kc q v W hc)
  have HB := Lib.hid (Below.refl w.heap.size w)
  rw [hqd] at HC
  by_cases hvs : v = (s.size : Int)
  · have hl : J.lone (bytesOf s) = false := by
      refine lone_of_clo _ (bytesOf s) (Nat.le_refl _) ?_
      rw [← hqb]
      rw [hvs] at hv
      unfold clR at hv
      cases h : clo true (bytesOf q) with
      | none => rw [h] at hv; simp only [] at hv; omega
      | some i => rw [h] at hv; simp only [] at hv; rw [bytesOf_length]; congr 1; omega
    obtain ⟨kk, hk⟩ := kept_f s (by omega)
    obtain ⟨r, hr⟩ : ∃ r, r = strOfNums (kp (bytesOf s)) := ⟨_, rfl⟩
    rw [← hr] at hk
    have HK := Lib.hid (fun W => spec_Kept.calls kk s r W hk)
    have HU := Lib.hid (show ∀ W, Below w.heap.size w W → Calls Tryd.prog 15 #[.string s] W fun e w' => e = .returned (.string r) ∧ Below W.heap.size W w' from fun W hb => by rw [hr]; exact FjUnescape_any s W (by omega) hl (hE.below hb))
    have HN := Lib.hid (show ∀ W, Below w.heap.size w W → Calls Tryd.prog 15 #[.string ⟨#[92, 110]⟩] W fun e w' => e = .returned (.string ⟨#[10]⟩) ∧ Below W.heap.size W w' from fun W hb => nl_any W (hE.below hb))
    subst hvs
    clear hE hqb hqd hc hl hk hr hv
    go_enter Tryd.func4, Tryd.ntmps4
    go_wp2_with (first
      | (go_at_call 14; refine (HC.out _).mono ?_; rintro e w1 ⟨rfl, hb⟩; replace HB := Lib.hid (below_step HB.out hb.below); clear hb)
      | (go_at_call 16; refine (HK.out _).mono ?_; rintro e w1 ⟨rfl, hb⟩; replace HB := Lib.hid (below_step HB.out hb); clear hb)
      | (go_at_call_of 15 (Value.string s); refine (HU.out _ HB.out).mono ?_; rintro e w1 ⟨rfl, hb⟩; replace HB := Lib.hid (below_step HB.out hb); clear hb)
      | (go_at_call 15; refine (HN.out _ HB.out).mono ?_; rintro e w1 ⟨rfl, hb⟩; replace HB := Lib.hid (below_step HB.out hb); clear hb))
    go_ret
    exact ⟨by simp, HB.out⟩
  · have hb1 : (v != (s.size : Int)) = true := bne_iff_ne.mpr hvs
    clear hE hqb hqd hc hv
    go_enter Tryd.func4, Tryd.ntmps4
    go_wp2_with (go_at_call 14; refine (HC.out _).mono ?_; rintro e w1 ⟨rfl, hb⟩; replace HB := Lib.hid (below_step HB.out hb.below); clear hb)
    go_ret
    exact ⟨rfl, HB.out⟩
end Go.Proofs.YtkmdcckiehbcmaaDoor.KA
