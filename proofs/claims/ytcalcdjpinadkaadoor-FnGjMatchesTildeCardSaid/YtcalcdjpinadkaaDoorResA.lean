/- A thin Result handed on by value: gjOf, the size guard; steps of a quiet region. -/
import Derived.Test.YtcalcdjpinadkaaDoorProg
import Derived.Test.YtcalcdjpinadkaaDoorAid
import Derived.Deep.Quiet
import Derived.BigQuiet
import Derived.Laws.Cover2
set_option linter.unusedVariables false
namespace Go.Proofs.YtcalcdjpinadkaaDoor.ResA
open Go.Proofs.YtcalcdjpinadkaaDoor.Aid Go.RowKit Go.Proofs.YtcalcdjpinadkaaDoorW.PrintWords Go.Proofs.YtcalcdjpinadkaaDoorW.PrintLast Go.Proofs.YtcalcdjpinadkaaDoorW.PrintMore

theorem run_store_float' (P : Program) (w : World) (a : Addr) (k : FloatKind) (n : Nat) (m : Mode) : (store a (.float k n) m).run P w = stored P w a (.float k n) m := run_store P w a _ m rfl
attribute [local go_sem] run_store_float'
set_option maxHeartbeats 1000000 in
theorem gjOf_any (k : Int) (raw str : ByteArray) (num : Nat) (ex : Bool) (w : World) :
    Calls Tryd.prog 26 #[.agg #[.int .i64 k, .string raw, .string str, .float .f64 num, .bool ex]] w fun e w' => e = .returned (.agg #[.int .i64 k, .string raw, .string str, .float .f64 num, .int .i64 0, .slice none 0 0]) ∧ Below w.heap.size w w' := by
  go_enter Tryd.func26, Tryd.ntmps26
  go_wp2
  exact bodyPost_ret (v := .agg #[.int .i64 k, .string raw, .string str, .float .f64 num, .int .i64 0, .slice none 0 0]) (by simp [results, Tryd.results26, go_sem]) rfl ⟨rfl, ((Below.refl _ _).alloc (Nat.le_refl _) _).alloc (by simp) _⟩
section
variable {P : Program} {ops : Array Oper} {C : World → Prop} {a : Act} {o : Oper} {K : Act → Prop}
theorem quiet_val (v : Value) (h : ∀ W, C W → (execOp a.eval o).run P W = .ok (.value v) W) (hk : K (a.put o.dst v)) : o.quiet P a C K :=
  ⟨v, fun W hW => by unfold Oper.quietAt; rw [h W hW]; exact ⟨rfl, rfl⟩, hk⟩
theorem quiet_call (f : FuncId) (args : Array Value) (v : Value) (he : ∀ W, C W → (execOp a.eval o).run P W = .ok (.enter f args) W) (h : ∀ W, C W → Calls P f args W fun e w'' => e = .returned v ∧ C w'') (hk : K (a.put o.dst v)) : o.quiet P a C K :=
  ⟨v, fun W hW => by unfold Oper.quietAt; rw [he W hW]; exact ⟨rfl, h W hW⟩, hk⟩
end
theorem fits_any (k : Int) (raw str : ByteArray) (num : Nat) (ex : Bool) (w : World) :
    Calls Tryd.prog 7 #[.agg #[.int .i64 k, .string raw, .string str, .float .f64 num, .bool ex]] w fun e w' => e = .returned (.bool (decide ((raw.size : Int) ≤ 2147483647) && decide ((str.size : Int) ≤ 2147483647))) ∧ Below w.heap.size w w' := by
  by_cases h1 : (2147483647 : Int) < raw.size
  · go_enter Tryd.func7, Tryd.ntmps7
    go_wp2
    go_ret
    exact ⟨ret_bool (by simp <;> omega), (Below.refl _ _).alloc (Nat.le_refl _) _⟩
  by_cases h2 : (2147483647 : Int) < str.size
  · go_enter Tryd.func7, Tryd.ntmps7
    go_wp2
    go_ret
    exact ⟨ret_bool (by simp <;> omega), (Below.refl _ _).alloc (Nat.le_refl _) _⟩
  · go_enter Tryd.func7, Tryd.ntmps7
    go_wp2
    go_ret
    exact ⟨ret_bool (by simp <;> omega), (Below.refl _ _).alloc (Nat.le_refl _) _⟩
end Go.Proofs.YtcalcdjpinadkaaDoor.ResA
