/- Texts of this claim, what is not used left out. -/
import Derived.Test.YtbpiooeklkjilaaDoorProg
import Derived.Below
import Derived.Deep.Draws
import Derived.Deep.AppendLies
import Derived.Maps.AppendAt
import Derived.OwnWalk
import Derived.Laws.BytesArg
import Derived.Laws.MakeOwn
import Derived.Laws.OwnMore
import Derived.Deep.OwnRows
import Derived.Tactics
import Derived.Lib.ConvBytes
import Derived.Laws.Slices
import Derived.WalkKit
import Derived.KernelRfl
import Derived.RowKit3
import Derived.Deep.LoopGhost
import Derived.Deep.QuietTactic
import Derived.BigQuiet
import Derived.WideLaws
import Derived.Deep.DeepCutAuto
import Derived.Deep.CutBlock
import Derived.Deep.RegionHeld3
import Derived.Laws.Rows
import Derived.Lib.AppendStr
import Derived.ArgAppend
import Derived.Laws.IdiomCopy
import Derived.OrdersHeld
import Derived.Laws.BitsLemmas
import Derived.RowKit
import Derived.Test.YtbpiooeklkjilaaDoorZWWords
import Derived.Test.YtbpiooeklkjilaaDoorZWLast
import Derived.Test.YtbpiooeklkjilaaDoorZWTab
import Derived.Test.YtbpiooeklkjilaaDoorZWFour
import Derived.Test.YtbpiooeklkjilaaDoorZWQPut
import Derived.Test.YtbpiooeklkjilaaDoorZWApart
import Derived.Test.YtbpiooeklkjilaaDoorZWArr
import Derived.Test.YtbpiooeklkjilaaDoorZWZeros
import Derived.Test.YtbpiooeklkjilaaDoorZWFoot
import Derived.Test.YtbpiooeklkjilaaDoorZWKept
import Derived.Test.YtbpiooeklkjilaaDoorZWShare
import Derived.Test.YtbpiooeklkjilaaDoorZWN
import Derived.Test.YtbpiooeklkjilaaDoorZWFootNe
import Derived.Test.YtbpiooeklkjilaaDoorZWAt
import Derived.Test.YtbpiooeklkjilaaDoorZWEqStruct
import Derived.Test.YtbpiooeklkjilaaDoorZWRepsOne
import Derived.Test.YtbpiooeklkjilaaDoorZWInv
import Derived.Test.YtbpiooeklkjilaaDoorZWInvWords
import Derived.Test.YtbpiooeklkjilaaDoorZWGuard
import Derived.Test.YtbpiooeklkjilaaDoorZWNEv
import Derived.Test.YtbpiooeklkjilaaDoorZWMore
namespace Go.Proofs.YtbpiooeklkjilaaDoor.PFnGjLessFold
open Go.RowKit Go.Proofs.YtbpiooeklkjilaaDoorW.PrintWords Go.Proofs.YtbpiooeklkjilaaDoorW.PrintLast Go.Proofs.YtbpiooeklkjilaaDoorW.PrintMore
attribute [local go_sem] max2_int min2_int max_two min_two max_three min_three max_four min_four   -- for this text's walks alone
set_option linter.unusedVariables false
set_option linter.unusedSimpArgs false

def errW : Option Int → Value
  | none => .nilIface
  | some c => .iface 56 (.int .i64 c)
theorem errW_none : errW none = .nilIface := rfl
theorem errW_some (c : Int) : errW (some c) = .iface 56 (.int .i64 c) := rfl

theorem info5 : (Tryd.prog.info? 5).map (fun i => (i.zero, i.size, i.bytes)) = some (some (.int .u8 0), 1, 1) := by kernel_rfl
-- the values' own types

end Go.Proofs.YtbpiooeklkjilaaDoor.PFnGjLessFold
