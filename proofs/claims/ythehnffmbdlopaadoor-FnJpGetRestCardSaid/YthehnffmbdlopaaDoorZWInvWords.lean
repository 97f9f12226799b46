/- Texts of this claim, what is not used left out. -/
import Derived.Test.YthehnffmbdlopaaDoorZWInv
import Derived.Test.YthehnffmbdlopaaDoorZWFootNe
namespace Go.Proofs.YthehnffmbdlopaaDoorW.PrintWords
open Go.RowKit
end Go.Proofs.YthehnffmbdlopaaDoorW.PrintWords
namespace Go.Proofs.YthehnffmbdlopaaDoorW.PrintLast
section
variable {ops : Array Oper} {a : Act} {o og : Oper} {g : Nat} {t : Tmp} {u : Bool}
end
end Go.Proofs.YthehnffmbdlopaaDoorW.PrintLast
