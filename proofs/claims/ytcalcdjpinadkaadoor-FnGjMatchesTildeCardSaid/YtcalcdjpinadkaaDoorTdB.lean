/- The walks of gjson's trueish, falseish, nullish and the thin package's doors to them. -/
import Derived.Test.YtcalcdjpinadkaaDoorTdA
set_option linter.unusedVariables false
set_option linter.unusedSimpArgs false
namespace Go.Proofs.YtcalcdjpinadkaaDoor.ResA
open Go.Proofs.YtcalcdjpinadkaaDoor.Aid Go.RowKit Go.Proofs.YtcalcdjpinadkaaDoorW.PrintWords Go.Proofs.YtcalcdjpinadkaaDoorW.PrintLast Go.Proofs.YtcalcdjpinadkaaDoorW.PrintMore Go.Proofs.YtcalcdjpinadkaaDoor.PFnGjMatchesTilde
attribute [local go_sem] run_store_float'

def trV (k : Int) (num : Nat) (b ok : Bool) : Bool := if k = 4 then true else if k = 3 then (ok && b) else if k = 2 then (FloatKind.f64.format.order num 0 != some Ordering.eq) else false
def faV (k : Int) (num : Nat) (b ok : Bool) : Bool := if k = 0 then true else if k = 1 then true else if k = 3 then (ok && !b) else if k = 2 then (FloatKind.f64.format.order num 0 == some Ordering.eq) else false
/-- What zzLower gives. -/
def Lo (s r : ByteArray) : Prop := ∀ W, Calls Tryd.prog 47 #[.string s] W fun e w' => e = .returned (.string r) ∧ Below W.heap.size W w'
theorem pb_true {r : ByteArray} {b : Bool} (h : Pb r b true) (W : World) (hE : ErrV W) : Calls Tryd.prog 46 #[.string r] W fun e w' => e = .returned (.tuple #[.bool b, .nilIface]) ∧ Below W.heap.size W w' := by
  refine (h W hE).mono ?_
  rintro e w' ⟨⟨er, rfl, h1, _⟩, hb⟩
  rw [h1 rfl]
  exact ⟨rfl, hb⟩
theorem pb_false {r : ByteArray} {b : Bool} (h : Pb r b false) (W : World) (hE : ErrV W) : Calls Tryd.prog 46 #[.string r] W fun e w' => (∃ N, e = .returned (.tuple #[.bool b, .iface 132 (.pointer (some ⟨N, 0, none⟩))])) ∧ Below W.heap.size W w' := by
  refine (h W hE).mono ?_
  rintro e w' ⟨⟨er, rfl, _, h1⟩, hb⟩
  obtain ⟨N, rfl⟩ := h1 rfl
  exact ⟨⟨N, rfl⟩, hb⟩
set_option maxHeartbeats 4000000 in
set_option maxRecDepth 100000 in
theorem trueish_any (k : Int) (raw str r : ByteArray) (num : Nat) (b ok : Bool) (hl : Lo str r) (hp : Pb r b ok) (w : World) (hE : ErrV w) :
    Calls Tryd.prog 68 #[.agg #[.int .i64 k, .string raw, .string str, .float .f64 num, .int .i64 0, .slice none 0 0]] w fun e w' => e = .returned (.bool (trV k num b ok)) ∧ Below w.heap.size w w' := by
  have HE := Lib.hid hE
  have HL := Lib.hid hl
  have HB := Lib.hid (below_alloc (Below.refl w.heap.size w) (.cells #[.int .i64 k, .string raw, .string str, .float .f64 num, .int .i64 0, .slice none 0 0] 56))
  by_cases k4 : k = 4
  · subst k4
    clear hp hl hE
    go_enter Tryd.func68, Tryd.ntmps68
    go_wp2
    go_ret
    exact ⟨rfl, HB.out⟩
  by_cases k3 : k = 3
  · subst k3
    cases ok with
    | true =>
      have HP := Lib.hid (fun W h => pb_true hp W h)
      clear hp hl hE k4
      go_enter Tryd.func68, Tryd.ntmps68
      go_wp2_with (first
        | (go_at_call 47; refine (HL.out _).mono ?_; rintro e w1 ⟨rfl, hb⟩; replace HB := Lib.hid (below_step HB.out hb); clear hb)
        | (go_at_call 46; refine (HP.out _ (HE.out.below HB.out)).mono ?_; rintro e w2 ⟨rfl, hb⟩; replace HB := Lib.hid (below_step HB.out hb); clear hb))
      go_ret
      exact ⟨by cases b <;> rfl, HB.out⟩
    | false =>
      have HP := Lib.hid (fun W h => pb_false hp W h)
      clear hp hl hE k4
      go_enter Tryd.func68, Tryd.ntmps68
      go_wp2_with (first
        | (go_at_call 47; refine (HL.out _).mono ?_; rintro e w1 ⟨rfl, hb⟩; replace HB := Lib.hid (below_step HB.out hb); clear hb)
        | (go_at_call 46; refine (HP.out _ (HE.out.below HB.out)).mono ?_; rintro e w2 ⟨⟨N, rfl⟩, hb⟩; replace HB := Lib.hid (below_step HB.out hb); clear hb))
      go_ret
      exact ⟨rfl, HB.out⟩
  by_cases k2 : k = 2
  · subst k2
    clear hp hl hE k3 k4
    go_enter Tryd.func68, Tryd.ntmps68
    go_wp2
    go_ret
    exact ⟨rfl, HB.out⟩
  have e4 : (k == 4) = false := beq_eq_false_iff_ne.mpr k4
  have e3 : (k == 3) = false := beq_eq_false_iff_ne.mpr k3
  have e2 : (k == 2) = false := beq_eq_false_iff_ne.mpr k2
  have ev : trV k num b ok = false := by unfold trV; rw [if_neg k4, if_neg k3, if_neg k2]
  rw [ev]
  clear hp hl hE k4 k3 k2 ev
  go_enter Tryd.func68, Tryd.ntmps68
  go_wp2
  go_ret
  exact ⟨rfl, HB.out⟩
set_option maxHeartbeats 4000000 in
set_option maxRecDepth 100000 in
theorem falseish_any (k : Int) (raw str r : ByteArray) (num : Nat) (b ok : Bool) (hl : Lo str r) (hp : Pb r b ok) (w : World) (hE : ErrV w) :
    Calls Tryd.prog 69 #[.agg #[.int .i64 k, .string raw, .string str, .float .f64 num, .int .i64 0, .slice none 0 0]] w fun e w' => e = .returned (.bool (faV k num b ok)) ∧ Below w.heap.size w w' := by
  have HE := Lib.hid hE
  have HL := Lib.hid hl
  have HB := Lib.hid (below_alloc (Below.refl w.heap.size w) (.cells #[.int .i64 k, .string raw, .string str, .float .f64 num, .int .i64 0, .slice none 0 0] 56))
  by_cases k0 : k = 0
  · subst k0
    clear hp hl hE
    go_enter Tryd.func69, Tryd.ntmps69
    go_wp2
    go_ret
    exact ⟨rfl, HB.out⟩
  by_cases k1 : k = 1
  · subst k1
    clear hp hl hE
    go_enter Tryd.func69, Tryd.ntmps69
    go_wp2
    go_ret
    exact ⟨rfl, HB.out⟩
  by_cases k3 : k = 3
  · subst k3
    cases ok with
    | true =>
      have HP := Lib.hid (fun W h => pb_true hp W h)
      clear hp hl hE k0 k1
      go_enter Tryd.func69, Tryd.ntmps69
      go_wp2_with (first
        | (go_at_call 47; refine (HL.out _).mono ?_; rintro e w1 ⟨rfl, hb⟩; replace HB := Lib.hid (below_step HB.out hb); clear hb)
        | (go_at_call 46; refine (HP.out _ (HE.out.below HB.out)).mono ?_; rintro e w2 ⟨rfl, hb⟩; replace HB := Lib.hid (below_step HB.out hb); clear hb))
      go_ret
      exact ⟨by cases b <;> rfl, HB.out⟩
    | false =>
      have HP := Lib.hid (fun W h => pb_false hp W h)
      clear hp hl hE k0 k1
      go_enter Tryd.func69, Tryd.ntmps69
      go_wp2_with (first
        | (go_at_call 47; refine (HL.out _).mono ?_; rintro e w1 ⟨rfl, hb⟩; replace HB := Lib.hid (below_step HB.out hb); clear hb)
        | (go_at_call 46; refine (HP.out _ (HE.out.below HB.out)).mono ?_; rintro e w2 ⟨⟨N, rfl⟩, hb⟩; replace HB := Lib.hid (below_step HB.out hb); clear hb))
      go_ret
      exact ⟨rfl, HB.out⟩
  by_cases k2 : k = 2
  · subst k2
    clear hp hl hE k3 k0 k1
    go_enter Tryd.func69, Tryd.ntmps69
    go_wp2
    go_ret
    exact ⟨rfl, HB.out⟩
  have e0 : (k == 0) = false := beq_eq_false_iff_ne.mpr k0
  have e1 : (k == 1) = false := beq_eq_false_iff_ne.mpr k1
  have e3 : (k == 3) = false := beq_eq_false_iff_ne.mpr k3
  have e2 : (k == 2) = false := beq_eq_false_iff_ne.mpr k2
  have ev : faV k num b ok = false := by unfold faV; rw [if_neg k0, if_neg k1, if_neg k3, if_neg k2]
  rw [ev]
  clear hp hl hE k0 k1 k3 k2 ev
  go_enter Tryd.func69, Tryd.ntmps69
  go_wp2
  go_ret
  exact ⟨rfl, HB.out⟩
theorem nullish_any (k : Int) (raw str : ByteArray) (num : Nat) (w : World) :
    Calls Tryd.prog 70 #[.agg #[.int .i64 k, .string raw, .string str, .float .f64 num, .int .i64 0, .slice none 0 0]] w fun e w' => e = .returned (.bool (k == 0)) ∧ Below w.heap.size w w' := by
  go_enter Tryd.func70, Tryd.ntmps70
  go_wp2
  go_ret
  exact ⟨rfl, below_alloc (Below.refl _ _) _⟩
theorem exists_any (k : Int) (raw str : ByteArray) (num : Nat) (w : World) :
    Calls Tryd.prog 66 #[.agg #[.int .i64 k, .string raw, .string str, .float .f64 num, .int .i64 0, .slice none 0 0]] w fun e w' => e = .returned (.bool (k != 0 || decide (raw.size ≠ 0))) ∧ Below w.heap.size w w' := by
  by_cases k0 : k = 0
  · subst k0
    go_enter Tryd.func66, Tryd.ntmps66
    go_wp2
    go_ret
    exact ⟨ret_bool (by rw [Bool.eq_iff_iff]; simp), below_alloc (Below.refl _ _) _⟩
  · have e0 : (k != 0) = true := bne_iff_ne.mpr k0
    rw [e0]
    clear k0
    go_enter Tryd.func66, Tryd.ntmps66
    go_wp2
    go_ret
    exact ⟨rfl, below_alloc (Below.refl _ _) _⟩
end Go.Proofs.YtcalcdjpinadkaaDoor.ResA
