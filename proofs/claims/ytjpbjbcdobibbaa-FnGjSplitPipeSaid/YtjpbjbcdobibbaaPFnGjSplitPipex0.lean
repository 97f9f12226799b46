-- PRINTED BY print.sh 35421559b90ae4d0a3588c463048766b98c2df88dd9212a6774a882060cdf62d: not written by this session
import Derived.Test.YtjpbjbcdobibbaaProg
import Derived.Below
import Derived.Deep.Draws
import Derived.Deep.AppendLies
import Derived.Maps.AppendAt
import Derived.OwnWalk
import Derived.Laws.BytesArg
import Derived.Laws.MakeOwn
import Derived.Laws.OwnMore
import Derived.Deep.OwnRows
import Derived.Tactics
import Derived.Lib.ConvBytes
import Derived.Laws.Slices
import Derived.WalkKit
import Derived.KernelRfl
import Derived.RowKit3
import Derived.Deep.LoopGhost
import Derived.Deep.QuietTactic
import Derived.BigQuiet
import Derived.WideLaws
import Derived.Deep.DeepCutAuto
import Derived.Deep.CutBlock
import Derived.Deep.RegionHeld3
import Derived.Laws.Rows
import Derived.Lib.AppendStr
import Derived.ArgAppend
import Derived.Laws.IdiomCopy
import Derived.OrdersHeld
import Derived.Laws.BitsLemmas
import Derived.RowKit
import Derived.Test.YtjpbjbcdobibbaaWWords
import Derived.Test.YtjpbjbcdobibbaaWLast
import Derived.Test.YtjpbjbcdobibbaaWTab
import Derived.Test.YtjpbjbcdobibbaaWFour
import Derived.Test.YtjpbjbcdobibbaaWQPut
import Derived.Test.YtjpbjbcdobibbaaWApart
import Derived.Test.YtjpbjbcdobibbaaWArr
import Derived.Test.YtjpbjbcdobibbaaWZeros
import Derived.Test.YtjpbjbcdobibbaaWFoot
import Derived.Test.YtjpbjbcdobibbaaWKept
import Derived.Test.YtjpbjbcdobibbaaWShare
import Derived.Test.YtjpbjbcdobibbaaWN
import Derived.Test.YtjpbjbcdobibbaaWFootNe
import Derived.Test.YtjpbjbcdobibbaaWAt
import Derived.Test.YtjpbjbcdobibbaaWEqStruct
import Derived.Test.YtjpbjbcdobibbaaWRepsOne
import Derived.Test.YtjpbjbcdobibbaaWInv
import Derived.Test.YtjpbjbcdobibbaaWInvWords
import Derived.Test.YtjpbjbcdobibbaaWGuard
import Derived.Test.YtjpbjbcdobibbaaWNEv
import Derived.Test.YtjpbjbcdobibbaaWMore
namespace Go.Proofs.Ytjpbjbcdobibbaa.PFnGjSplitPipe
open Go.RowKit Go.Proofs.YtjpbjbcdobibbaaW.PrintWords Go.Proofs.YtjpbjbcdobibbaaW.PrintLast Go.Proofs.YtjpbjbcdobibbaaW.PrintMore
attribute [local go_sem] max2_int min2_int max_two min_two max_three min_three max_four min_four   -- for this text's walks alone
set_option linter.unusedVariables false
set_option linter.unusedSimpArgs false



def errW : Option Int → Value
  | none => .nilIface
  | some c => .iface 0 (.int .i64 c)
theorem errW_none : errW none = .nilIface := rfl
theorem errW_some (c : Int) : errW (some c) = .iface 0 (.int .i64 c) := rfl

theorem info5 : (Try.prog.info? 5).map (fun i => (i.zero, i.size, i.bytes)) = some (some (.int .u8 0), 1, 1) := by kernel_rfl
theorem info9 : (Try.prog.info? 9).map (fun i => (i.zero, i.size, i.bytes)) = some (some (.string ⟨#[]⟩), 1, 16) := by kernel_rfl
-- the values' own types

end Go.Proofs.Ytjpbjbcdobibbaa.PFnGjSplitPipe
