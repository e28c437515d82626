-- PRINTED BY print.sh 35421559b90ae4d0a3588c463048766b98c2df88dd9212a6774a882060cdf62d: not written by this session
import Derived.Test.YtofafhboagfihaaDoorProg
import Derived.Below
import Derived.Deep.Draws
import Derived.Deep.AppendLies
import Derived.Maps.AppendAt
import Derived.OwnWalk
import Derived.Laws.BytesArg
import Derived.Laws.MakeOwn
import Derived.Laws.OwnMore
import Derived.Deep.OwnRows
import Derived.Tactics
import Derived.Lib.ConvBytes
import Derived.Laws.Slices
import Derived.WalkKit
import Derived.KernelRfl
import Derived.RowKit3
import Derived.Deep.LoopGhost
import Derived.Deep.QuietTactic
import Derived.BigQuiet
import Derived.WideLaws
import Derived.Deep.DeepCutAuto
import Derived.Deep.CutBlock
import Derived.Deep.RegionHeld3
import Derived.Laws.Rows
import Derived.Lib.AppendStr
import Derived.ArgAppend
import Derived.Laws.IdiomCopy
import Derived.OrdersHeld
import Derived.Laws.BitsLemmas
import Derived.RowKit
import Derived.Test.YtofafhboagfihaaDoorWWords
import Derived.Test.YtofafhboagfihaaDoorWLast
import Derived.Test.YtofafhboagfihaaDoorWTab
import Derived.Test.YtofafhboagfihaaDoorWFour
import Derived.Test.YtofafhboagfihaaDoorWQPut
import Derived.Test.YtofafhboagfihaaDoorWApart
import Derived.Test.YtofafhboagfihaaDoorWArr
import Derived.Test.YtofafhboagfihaaDoorWZeros
import Derived.Test.YtofafhboagfihaaDoorWFoot
import Derived.Test.YtofafhboagfihaaDoorWKept
import Derived.Test.YtofafhboagfihaaDoorWShare
import Derived.Test.YtofafhboagfihaaDoorWN
import Derived.Test.YtofafhboagfihaaDoorWFootNe
import Derived.Test.YtofafhboagfihaaDoorWAt
import Derived.Test.YtofafhboagfihaaDoorWEqStruct
import Derived.Test.YtofafhboagfihaaDoorWRepsOne
import Derived.Test.YtofafhboagfihaaDoorWInv
import Derived.Test.YtofafhboagfihaaDoorWInvWords
import Derived.Test.YtofafhboagfihaaDoorWGuard
import Derived.Test.YtofafhboagfihaaDoorWNEv
import Derived.Test.YtofafhboagfihaaDoorWMore
namespace Go.Proofs.YtofafhboagfihaaDoor.PFnReadName
open Go.RowKit Go.Proofs.YtofafhboagfihaaDoorW.PrintWords Go.Proofs.YtofafhboagfihaaDoorW.PrintLast Go.Proofs.YtofafhboagfihaaDoorW.PrintMore
attribute [local go_sem] max2_int min2_int max_two min_two max_three min_three max_four min_four   -- for this text's walks alone
set_option linter.unusedVariables false
set_option linter.unusedSimpArgs false



def errW : Option Int → Value
  | none => .nilIface
  | some c => .iface 0 (.int .i64 c)
theorem errW_none : errW none = .nilIface := rfl
theorem errW_some (c : Int) : errW (some c) = .iface 0 (.int .i64 c) := rfl

-- the values' own types

end Go.Proofs.YtofafhboagfihaaDoor.PFnReadName
