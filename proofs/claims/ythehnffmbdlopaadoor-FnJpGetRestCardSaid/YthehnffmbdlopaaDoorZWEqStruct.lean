/- Texts of this claim, what is not used left out. -/
import Derived.Test.YthehnffmbdlopaaDoorZWWords
import Derived.Laws.StructEq
namespace Go.Proofs.YthehnffmbdlopaaDoorW.PrintWords
open Go.RowKit
section
variable {P : Program} {d : Nat} {xs ys : Array Value} {f : Field} {fs : List Field} {a b : Value} {r s : Bool} {w : World}
end
end Go.Proofs.YthehnffmbdlopaaDoorW.PrintWords
