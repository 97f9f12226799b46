/- Several texts in one. -/
import Derived.Test.YthehnffmbdlopaaDoorZPFnJpGetRestx0
import Derived.Test.YthehnffmbdlopaaDoorZGc
set_option linter.unusedVariables false
set_option linter.unusedSimpArgs false
namespace Go.Proofs.YthehnffmbdlopaaDoor.PFnJpGetRest
open Go.RowKit Go.Proofs.YthehnffmbdlopaaDoorW.PrintWords Go.Proofs.YthehnffmbdlopaaDoorW.PrintLast Go.Proofs.YthehnffmbdlopaaDoorW.PrintMore Go.Proofs.YthehnffmbdlopaaDoor.Aid Go.Proofs.YthehnffmbdlopaaDoor.J

def okU (s : ByteArray) : Prop := 2 ≤ s.size ∧ s.size ≤ 2147483660 ∧ wellE (((bytesOf s).drop 1).take (s.size - 2)) = true
instance (s : ByteArray) : Decidable (okU s) := by unfold okU; infer_instance
def spec_Unquote.f (k : Nat) (a0 : ByteArray) : Option (ByteArray) := if okU a0 then some (quo a0) else none
theorem spec_Unquote.mono : ∀ a0 k, LeO (spec_Unquote.f k a0) (spec_Unquote.f (k + 1) a0) := fun a0 k => by
  intro r h
  exact h
theorem spec_Unquote.calls (k : Nat) (a0 : ByteArray) (r : ByteArray) (w : World) (h : spec_Unquote.f k a0 = some r) :
    Calls Tryd.prog 22 #[.string a0] w fun e w' => e = .returned (.string r) ∧ Below w.heap.size w w' := by
  unfold spec_Unquote.f at h
  split at h
  · rename_i hk
    injection h with h; subst h
    exact Unquote_any a0 w hk.1 hk.2.1 hk.2.2
  · cases h
end Go.Proofs.YthehnffmbdlopaaDoor.PFnJpGetRest
