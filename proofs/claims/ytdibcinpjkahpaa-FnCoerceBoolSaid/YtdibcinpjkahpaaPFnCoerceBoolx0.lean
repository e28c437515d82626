-- PRINTED BY print.sh 35421559b90ae4d0a3588c463048766b98c2df88dd9212a6774a882060cdf62d: not written by this session
import Derived.Test.YtdibcinpjkahpaaProg
import Derived.Below
import Derived.Deep.Draws
import Derived.Deep.AppendLies
import Derived.Maps.AppendAt
import Derived.OwnWalk
import Derived.Laws.BytesArg
import Derived.Laws.MakeOwn
import Derived.Laws.OwnMore
import Derived.Deep.OwnRows
import Derived.Tactics
import Derived.Lib.ConvBytes
import Derived.Laws.Slices
import Derived.WalkKit
import Derived.KernelRfl
import Derived.RowKit3
import Derived.Deep.LoopGhost
import Derived.Deep.QuietTactic
import Derived.BigQuiet
import Derived.WideLaws
import Derived.Deep.DeepCutAuto
import Derived.Deep.CutBlock
import Derived.Deep.RegionHeld3
import Derived.Laws.Rows
import Derived.Lib.AppendStr
import Derived.ArgAppend
import Derived.Laws.IdiomCopy
import Derived.OrdersHeld
import Derived.Laws.BitsLemmas
import Derived.RowKit
import Derived.Test.YtdibcinpjkahpaaWWords
import Derived.Test.YtdibcinpjkahpaaWLast
import Derived.Test.YtdibcinpjkahpaaWTab
import Derived.Test.YtdibcinpjkahpaaWFour
import Derived.Test.YtdibcinpjkahpaaWQPut
import Derived.Test.YtdibcinpjkahpaaWApart
import Derived.Test.YtdibcinpjkahpaaWArr
import Derived.Test.YtdibcinpjkahpaaWZeros
import Derived.Test.YtdibcinpjkahpaaWFoot
import Derived.Test.YtdibcinpjkahpaaWKept
import Derived.Test.YtdibcinpjkahpaaWShare
import Derived.Test.YtdibcinpjkahpaaWN
import Derived.Test.YtdibcinpjkahpaaWFootNe
import Derived.Test.YtdibcinpjkahpaaWAt
import Derived.Test.YtdibcinpjkahpaaWEqStruct
import Derived.Test.YtdibcinpjkahpaaWRepsOne
import Derived.Test.YtdibcinpjkahpaaWInv
import Derived.Test.YtdibcinpjkahpaaWInvWords
import Derived.Test.YtdibcinpjkahpaaWGuard
import Derived.Test.YtdibcinpjkahpaaWNEv
import Derived.Test.YtdibcinpjkahpaaWMore
namespace Go.Proofs.Ytdibcinpjkahpaa.PFnCoerceBool
open Go.RowKit Go.Proofs.YtdibcinpjkahpaaW.PrintWords Go.Proofs.YtdibcinpjkahpaaW.PrintLast Go.Proofs.YtdibcinpjkahpaaW.PrintMore
attribute [local go_sem] max2_int min2_int max_two min_two max_three min_three max_four min_four   -- for this text's walks alone
set_option linter.unusedVariables false
set_option linter.unusedSimpArgs false



def errW : Option Int → Value
  | none => .nilIface
  | some c => .iface 0 (.int .i64 c)
theorem errW_none : errW none = .nilIface := rfl
theorem errW_some (c : Int) : errW (some c) = .iface 0 (.int .i64 c) := rfl

-- the values' own types

end Go.Proofs.Ytdibcinpjkahpaa.PFnCoerceBool
