/- Texts of this claim, what is not used left out. -/
import Derived.Test.YtbpiooeklkjilaaDoorZWLast
import Derived.Test.YtbpiooeklkjilaaDoorZWWords
namespace Go.Proofs.YtbpiooeklkjilaaDoorW.PrintLast
open Go.Proofs.YtbpiooeklkjilaaDoorW.PrintWords (Aside0)
section
variable {md : Region.Mode} {ops : Array Oper} {T : Bool × List (List Nat × List Nat)} {l l' li lj lk : Array Bool} {ds : List Nat} {i j k : Nat}
end
end Go.Proofs.YtbpiooeklkjilaaDoorW.PrintLast
