/- Texts of this claim, what is not used left out. -/
import Derived.Test.YtalcjolomigedaaDoorProg
import Derived.Below
import Derived.Deep.Draws
import Derived.Deep.AppendLies
import Derived.Maps.AppendAt
import Derived.OwnWalk
import Derived.Laws.BytesArg
import Derived.Laws.MakeOwn
import Derived.Laws.OwnMore
import Derived.Deep.OwnRows
import Derived.Tactics
import Derived.Lib.ConvBytes
import Derived.Laws.Slices
import Derived.WalkKit
import Derived.KernelRfl
import Derived.RowKit3
import Derived.Deep.LoopGhost
import Derived.Deep.QuietTactic
import Derived.BigQuiet
import Derived.WideLaws
import Derived.Deep.DeepCutAuto
import Derived.Deep.CutBlock
import Derived.Deep.RegionHeld3
import Derived.Laws.Rows
import Derived.Lib.AppendStr
import Derived.ArgAppend
import Derived.Laws.IdiomCopy
import Derived.OrdersHeld
import Derived.Laws.BitsLemmas
import Derived.RowKit
import Derived.Test.YtalcjolomigedaaDoorZWWords
import Derived.Test.YtalcjolomigedaaDoorZWLast
import Derived.Test.YtalcjolomigedaaDoorZWTab
import Derived.Test.YtalcjolomigedaaDoorZWFour
import Derived.Test.YtalcjolomigedaaDoorZWQPut
import Derived.Test.YtalcjolomigedaaDoorZWApart
import Derived.Test.YtalcjolomigedaaDoorZWArr
import Derived.Test.YtalcjolomigedaaDoorZWZeros
import Derived.Test.YtalcjolomigedaaDoorZWFoot
import Derived.Test.YtalcjolomigedaaDoorZWKept
import Derived.Test.YtalcjolomigedaaDoorZWShare
import Derived.Test.YtalcjolomigedaaDoorZWN
import Derived.Test.YtalcjolomigedaaDoorZWFootNe
import Derived.Test.YtalcjolomigedaaDoorZWAt
import Derived.Test.YtalcjolomigedaaDoorZWEqStruct
import Derived.Test.YtalcjolomigedaaDoorZWRepsOne
import Derived.Test.YtalcjolomigedaaDoorZWInv
import Derived.Test.YtalcjolomigedaaDoorZWInvWords
import Derived.Test.YtalcjolomigedaaDoorZWGuard
import Derived.Test.YtalcjolomigedaaDoorZWNEv
import Derived.Test.YtalcjolomigedaaDoorZWMore
namespace Go.Proofs.YtalcjolomigedaaDoor.PFnFjUnescapeAll
open Go.RowKit Go.Proofs.YtalcjolomigedaaDoorW.PrintWords Go.Proofs.YtalcjolomigedaaDoorW.PrintLast Go.Proofs.YtalcjolomigedaaDoorW.PrintMore
attribute [local go_sem] max2_int min2_int max_two min_two max_three min_three max_four min_four   -- for this text's walks alone
set_option linter.unusedVariables false
set_option linter.unusedSimpArgs false

-- the values' own types

end Go.Proofs.YtalcjolomigedaaDoor.PFnFjUnescapeAll
