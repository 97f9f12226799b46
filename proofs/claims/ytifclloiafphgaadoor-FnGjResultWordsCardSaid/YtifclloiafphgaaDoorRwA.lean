/- The walks of gjson's Result.Bool, Int, Uint, Float at words, and of the law FnGjResultWords. -/
import Derived.Test.YtifclloiafphgaaDoorResA
import Derived.Lib.Hide
set_option linter.unusedVariables false
namespace Go.Proofs.YtifclloiafphgaaDoor.ResA
open Go.Proofs.YtifclloiafphgaaDoor.Aid Go.RowKit Go.Proofs.YtifclloiafphgaaDoorW.PrintWords Go.Proofs.YtifclloiafphgaaDoorW.PrintLast Go.Proofs.YtifclloiafphgaaDoorW.PrintMore
attribute [local go_sem] run_store_float'
def one : Nat := 4607182418800017408
def Wd (k : Int) : Prop := k = 0 ∨ k = 1 ∨ k = 4
set_option maxHeartbeats 4000000 in
theorem rbool_any (k : Int) (raw str : ByteArray) (num : Nat) (w : World) (hk : Wd k) :
    Calls Tryd.prog 10 #[.agg #[.int .i64 k, .string raw, .string str, .float .f64 num, .int .i64 0, .slice none 0 0]] w fun e w' => e = .returned (.bool (k == 4)) ∧ Below w.heap.size w w' := by
  rcases hk with rfl | rfl | rfl
  all_goals
    go_enter Tryd.func10, Tryd.ntmps10
    go_wp2
    go_ret
    exact ⟨rfl, (Below.refl _ _).alloc (Nat.le_refl _) _⟩
set_option maxHeartbeats 4000000 in
theorem rint_any (k : Int) (raw str : ByteArray) (num : Nat) (w : World) (hk : Wd k) :
    Calls Tryd.prog 11 #[.agg #[.int .i64 k, .string raw, .string str, .float .f64 num, .int .i64 0, .slice none 0 0]] w fun e w' => e = .returned (.int .i64 (if k = 4 then 1 else 0)) ∧ Below w.heap.size w w' := by
  rcases hk with rfl | rfl | rfl
  all_goals
    go_enter Tryd.func11, Tryd.ntmps11
    go_wp2
    go_ret
    exact ⟨rfl, (Below.refl _ _).alloc (Nat.le_refl _) _⟩
set_option maxHeartbeats 4000000 in
theorem ruint_any (k : Int) (raw str : ByteArray) (num : Nat) (w : World) (hk : Wd k) :
    Calls Tryd.prog 12 #[.agg #[.int .i64 k, .string raw, .string str, .float .f64 num, .int .i64 0, .slice none 0 0]] w fun e w' => e = .returned (.int .u64 (if k = 4 then 1 else 0)) ∧ Below w.heap.size w w' := by
  rcases hk with rfl | rfl | rfl
  all_goals
    go_enter Tryd.func12, Tryd.ntmps12
    go_wp2
    go_ret
    exact ⟨rfl, (Below.refl _ _).alloc (Nat.le_refl _) _⟩
set_option maxHeartbeats 4000000 in
theorem rfloat_any (k : Int) (raw str : ByteArray) (num : Nat) (w : World) (hk : Wd k) :
    Calls Tryd.prog 13 #[.agg #[.int .i64 k, .string raw, .string str, .float .f64 num, .int .i64 0, .slice none 0 0]] w fun e w' => e = .returned (.float .f64 (if k = 4 then one else 0)) ∧ Below w.heap.size w w' := by
  rcases hk with rfl | rfl | rfl
  all_goals
    go_enter Tryd.func13, Tryd.ntmps13
    go_wp2
    go_ret
    exact ⟨rfl, (Below.refl _ _).alloc (Nat.le_refl _) _⟩
end Go.Proofs.YtifclloiafphgaaDoor.ResA
