-- PRINTED BY print.sh 35421559b90ae4d0a3588c463048766b98c2df88dd9212a6774a882060cdf62d: not written by this session
import Derived.Test.YthigdbokhghbjaaDoorProg
import Derived.Below
import Derived.Deep.Draws
import Derived.Deep.AppendLies
import Derived.Maps.AppendAt
import Derived.OwnWalk
import Derived.Laws.BytesArg
import Derived.Laws.MakeOwn
import Derived.Laws.OwnMore
import Derived.Deep.OwnRows
import Derived.Tactics
import Derived.Lib.ConvBytes
import Derived.Laws.Slices
import Derived.WalkKit
import Derived.KernelRfl
import Derived.RowKit3
import Derived.Deep.LoopGhost
import Derived.Deep.QuietTactic
import Derived.BigQuiet
import Derived.WideLaws
import Derived.Deep.DeepCutAuto
import Derived.Deep.CutBlock
import Derived.Deep.RegionHeld3
import Derived.Laws.Rows
import Derived.Lib.AppendStr
import Derived.ArgAppend
import Derived.Laws.IdiomCopy
import Derived.OrdersHeld
import Derived.Laws.BitsLemmas
import Derived.RowKit
import Derived.Test.YthigdbokhghbjaaDoorWWords
import Derived.Test.YthigdbokhghbjaaDoorWLast
import Derived.Test.YthigdbokhghbjaaDoorWTab
import Derived.Test.YthigdbokhghbjaaDoorWFour
import Derived.Test.YthigdbokhghbjaaDoorWQPut
import Derived.Test.YthigdbokhghbjaaDoorWApart
import Derived.Test.YthigdbokhghbjaaDoorWArr
import Derived.Test.YthigdbokhghbjaaDoorWZeros
import Derived.Test.YthigdbokhghbjaaDoorWFoot
import Derived.Test.YthigdbokhghbjaaDoorWKept
import Derived.Test.YthigdbokhghbjaaDoorWShare
import Derived.Test.YthigdbokhghbjaaDoorWN
import Derived.Test.YthigdbokhghbjaaDoorWFootNe
import Derived.Test.YthigdbokhghbjaaDoorWAt
import Derived.Test.YthigdbokhghbjaaDoorWEqStruct
import Derived.Test.YthigdbokhghbjaaDoorWRepsOne
import Derived.Test.YthigdbokhghbjaaDoorWInv
import Derived.Test.YthigdbokhghbjaaDoorWInvWords
import Derived.Test.YthigdbokhghbjaaDoorWGuard
import Derived.Test.YthigdbokhghbjaaDoorWNEv
import Derived.Test.YthigdbokhghbjaaDoorWMore
namespace Go.Proofs.YthigdbokhghbjaaDoor.PFnPower
open Go.RowKit Go.Proofs.YthigdbokhghbjaaDoorW.PrintWords Go.Proofs.YthigdbokhghbjaaDoorW.PrintLast Go.Proofs.YthigdbokhghbjaaDoorW.PrintMore
attribute [local go_sem] max2_int min2_int max_two min_two max_three min_three max_four min_four   -- for this text's walks alone
set_option linter.unusedVariables false
set_option linter.unusedSimpArgs false



def errW : Option Int → Value
  | none => .nilIface
  | some c => .iface 0 (.int .i64 c)
theorem errW_none : errW none = .nilIface := rfl
theorem errW_some (c : Int) : errW (some c) = .iface 0 (.int .i64 c) := rfl

-- the values' own types

end Go.Proofs.YthigdbokhghbjaaDoor.PFnPower
