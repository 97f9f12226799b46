/- Texts of this claim, what is not used left out. -/
import Derived.Test.YtbpiooeklkjilaaDoorZWWords
import Derived.Laws.StructEq
namespace Go.Proofs.YtbpiooeklkjilaaDoorW.PrintWords
open Go.RowKit
section
variable {P : Program} {d : Nat} {xs ys : Array Value} {f : Field} {fs : List Field} {a b : Value} {r s : Bool} {w : World}
end
end Go.Proofs.YtbpiooeklkjilaaDoorW.PrintWords
