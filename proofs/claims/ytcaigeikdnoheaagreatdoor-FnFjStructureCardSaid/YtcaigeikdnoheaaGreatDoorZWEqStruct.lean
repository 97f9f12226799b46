/- Texts of this claim, what is not used left out. -/
import Derived.Test.YtcaigeikdnoheaaGreatDoorZWWords
import Derived.Laws.StructEq
namespace Go.Proofs.YtcaigeikdnoheaaGreatDoorW.PrintWords
open Go.RowKit
section
variable {P : Program} {d : Nat} {xs ys : Array Value} {f : Field} {fs : List Field} {a b : Value} {r s : Bool} {w : World}
end
end Go.Proofs.YtcaigeikdnoheaaGreatDoorW.PrintWords
