/- Texts of this claim, what is not used left out. -/
import Derived.Test.YtalcjolomigedaaDoorZWInv
import Derived.Test.YtalcjolomigedaaDoorZWFootNe
namespace Go.Proofs.YtalcjolomigedaaDoorW.PrintWords
open Go.RowKit
end Go.Proofs.YtalcjolomigedaaDoorW.PrintWords
namespace Go.Proofs.YtalcjolomigedaaDoorW.PrintLast
section
variable {ops : Array Oper} {a : Act} {o og : Oper} {g : Nat} {t : Tmp} {u : Bool}
end
end Go.Proofs.YtalcjolomigedaaDoorW.PrintLast
