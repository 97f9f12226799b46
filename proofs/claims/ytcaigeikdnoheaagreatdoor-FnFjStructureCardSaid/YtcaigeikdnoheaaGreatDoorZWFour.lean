/- Texts of this claim, what is not used left out. -/
import Derived.Test.YtcaigeikdnoheaaGreatDoorZWTab
namespace Go.Proofs.YtcaigeikdnoheaaGreatDoorW.PrintLast
section
variable {P : Program} {ops : Array Oper} {Q : Exit → Act → World → Prop} {md : Region.Mode} {S : World → Prop} {ds : List Nat} {T : Bool × List (List Nat × List Nat)}
end
end Go.Proofs.YtcaigeikdnoheaaGreatDoorW.PrintLast
