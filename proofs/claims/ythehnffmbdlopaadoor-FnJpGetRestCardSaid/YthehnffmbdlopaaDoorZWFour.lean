/- Texts of this claim, what is not used left out. -/
import Derived.Test.YthehnffmbdlopaaDoorZWTab
namespace Go.Proofs.YthehnffmbdlopaaDoorW.PrintLast
section
variable {P : Program} {ops : Array Oper} {Q : Exit → Act → World → Prop} {md : Region.Mode} {S : World → Prop} {ds : List Nat} {T : Bool × List (List Nat × List Nat)}
end
end Go.Proofs.YthehnffmbdlopaaDoorW.PrintLast
