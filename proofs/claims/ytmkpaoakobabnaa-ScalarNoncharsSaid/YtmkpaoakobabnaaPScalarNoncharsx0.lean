-- PRINTED BY print.sh 35421559b90ae4d0a3588c463048766b98c2df88dd9212a6774a882060cdf62d: not written by this session
import Derived.Test.YtmkpaoakobabnaaProg
import Derived.Below
import Derived.Deep.Draws
import Derived.Deep.AppendLies
import Derived.Maps.AppendAt
import Derived.OwnWalk
import Derived.Laws.BytesArg
import Derived.Laws.MakeOwn
import Derived.Laws.OwnMore
import Derived.Deep.OwnRows
import Derived.Tactics
import Derived.Lib.ConvBytes
import Derived.Laws.Slices
import Derived.WalkKit
import Derived.KernelRfl
import Derived.RowKit3
import Derived.Deep.LoopGhost
import Derived.Deep.QuietTactic
import Derived.BigQuiet
import Derived.WideLaws
import Derived.Deep.DeepCutAuto
import Derived.Deep.CutBlock
import Derived.Deep.RegionHeld3
import Derived.Laws.Rows
import Derived.Lib.AppendStr
import Derived.ArgAppend
import Derived.Laws.IdiomCopy
import Derived.OrdersHeld
import Derived.Laws.BitsLemmas
import Derived.RowKit
import Derived.Test.YtmkpaoakobabnaaWWords
import Derived.Test.YtmkpaoakobabnaaWLast
import Derived.Test.YtmkpaoakobabnaaWTab
import Derived.Test.YtmkpaoakobabnaaWFour
import Derived.Test.YtmkpaoakobabnaaWQPut
import Derived.Test.YtmkpaoakobabnaaWApart
import Derived.Test.YtmkpaoakobabnaaWArr
import Derived.Test.YtmkpaoakobabnaaWZeros
import Derived.Test.YtmkpaoakobabnaaWFoot
import Derived.Test.YtmkpaoakobabnaaWKept
import Derived.Test.YtmkpaoakobabnaaWShare
import Derived.Test.YtmkpaoakobabnaaWN
import Derived.Test.YtmkpaoakobabnaaWFootNe
import Derived.Test.YtmkpaoakobabnaaWAt
import Derived.Test.YtmkpaoakobabnaaWEqStruct
import Derived.Test.YtmkpaoakobabnaaWRepsOne
import Derived.Test.YtmkpaoakobabnaaWInv
import Derived.Test.YtmkpaoakobabnaaWInvWords
import Derived.Test.YtmkpaoakobabnaaWGuard
import Derived.Test.YtmkpaoakobabnaaWNEv
import Derived.Test.YtmkpaoakobabnaaWMore
namespace Go.Proofs.Ytmkpaoakobabnaa.PScalarNonchars
open Go.RowKit Go.Proofs.YtmkpaoakobabnaaW.PrintWords Go.Proofs.YtmkpaoakobabnaaW.PrintLast Go.Proofs.YtmkpaoakobabnaaW.PrintMore
attribute [local go_sem] max2_int min2_int max_two min_two max_three min_three max_four min_four   -- for this text's walks alone
set_option linter.unusedVariables false
set_option linter.unusedSimpArgs false



def errW : Option Int → Value
  | none => .nilIface
  | some c => .iface 0 (.int .i64 c)
theorem errW_none : errW none = .nilIface := rfl
theorem errW_some (c : Int) : errW (some c) = .iface 0 (.int .i64 c) := rfl

-- the values' own types

end Go.Proofs.Ytmkpaoakobabnaa.PScalarNonchars
