/- Texts of this claim, what is not used left out. -/
import Derived.Test.YtbpiooeklkjilaaDoorZWInv
import Derived.Test.YtbpiooeklkjilaaDoorZWFootNe
namespace Go.Proofs.YtbpiooeklkjilaaDoorW.PrintWords
open Go.RowKit
end Go.Proofs.YtbpiooeklkjilaaDoorW.PrintWords
namespace Go.Proofs.YtbpiooeklkjilaaDoorW.PrintLast
section
variable {ops : Array Oper} {a : Act} {o og : Oper} {g : Nat} {t : Tmp} {u : Bool}
end
end Go.Proofs.YtbpiooeklkjilaaDoorW.PrintLast
