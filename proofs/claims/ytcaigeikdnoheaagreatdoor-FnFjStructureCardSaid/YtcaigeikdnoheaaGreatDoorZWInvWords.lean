/- Texts of this claim, what is not used left out. -/
import Derived.Test.YtcaigeikdnoheaaGreatDoorZWInv
import Derived.Test.YtcaigeikdnoheaaGreatDoorZWFootNe
namespace Go.Proofs.YtcaigeikdnoheaaGreatDoorW.PrintWords
open Go.RowKit
end Go.Proofs.YtcaigeikdnoheaaGreatDoorW.PrintWords
namespace Go.Proofs.YtcaigeikdnoheaaGreatDoorW.PrintLast
section
variable {ops : Array Oper} {a : Act} {o og : Oper} {g : Nat} {t : Tmp} {u : Bool}
end
end Go.Proofs.YtcaigeikdnoheaaGreatDoorW.PrintLast
