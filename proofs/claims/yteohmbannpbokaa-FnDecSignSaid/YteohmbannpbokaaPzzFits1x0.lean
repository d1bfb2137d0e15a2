-- PRINTED BY print.sh 35421559b90ae4d0a3588c463048766b98c2df88dd9212a6774a882060cdf62d: not written by this session
import Derived.Test.YteohmbannpbokaaProg
import Derived.Below
import Derived.Deep.Draws
import Derived.Deep.AppendLies
import Derived.Maps.AppendAt
import Derived.OwnWalk
import Derived.Laws.BytesArg
import Derived.Laws.MakeOwn
import Derived.Laws.OwnMore
import Derived.Deep.OwnRows
import Derived.Tactics
import Derived.Lib.ConvBytes
import Derived.Laws.Slices
import Derived.WalkKit
import Derived.KernelRfl
import Derived.RowKit3
import Derived.Deep.LoopGhost
import Derived.Deep.QuietTactic
import Derived.BigQuiet
import Derived.WideLaws
import Derived.Deep.DeepCutAuto
import Derived.Deep.CutBlock
import Derived.Deep.RegionHeld3
import Derived.Laws.Rows
import Derived.Lib.AppendStr
import Derived.ArgAppend
import Derived.Laws.IdiomCopy
import Derived.OrdersHeld
import Derived.Laws.BitsLemmas
import Derived.RowKit
import Derived.Test.YteohmbannpbokaaWWords
import Derived.Test.YteohmbannpbokaaWLast
import Derived.Test.YteohmbannpbokaaWTab
import Derived.Test.YteohmbannpbokaaWFour
import Derived.Test.YteohmbannpbokaaWQPut
import Derived.Test.YteohmbannpbokaaWApart
import Derived.Test.YteohmbannpbokaaWArr
import Derived.Test.YteohmbannpbokaaWZeros
import Derived.Test.YteohmbannpbokaaWFoot
import Derived.Test.YteohmbannpbokaaWKept
import Derived.Test.YteohmbannpbokaaWShare
import Derived.Test.YteohmbannpbokaaWN
import Derived.Test.YteohmbannpbokaaWFootNe
import Derived.Test.YteohmbannpbokaaWAt
import Derived.Test.YteohmbannpbokaaWEqStruct
import Derived.Test.YteohmbannpbokaaWRepsOne
import Derived.Test.YteohmbannpbokaaWInv
import Derived.Test.YteohmbannpbokaaWInvWords
import Derived.Test.YteohmbannpbokaaWGuard
import Derived.Test.YteohmbannpbokaaWNEv
import Derived.Test.YteohmbannpbokaaWMore
namespace Go.Proofs.Yteohmbannpbokaa.PzzFits1
open Go.RowKit Go.Proofs.YteohmbannpbokaaW.PrintWords Go.Proofs.YteohmbannpbokaaW.PrintLast Go.Proofs.YteohmbannpbokaaW.PrintMore
attribute [local go_sem] max2_int min2_int max_two min_two max_three min_three max_four min_four   -- for this text's walks alone
set_option linter.unusedVariables false
set_option linter.unusedSimpArgs false



def errW : Option Int → Value
  | none => .nilIface
  | some c => .iface 0 (.int .i64 c)
theorem errW_none : errW none = .nilIface := rfl
theorem errW_some (c : Int) : errW (some c) = .iface 0 (.int .i64 c) := rfl

-- the values' own types

end Go.Proofs.Yteohmbannpbokaa.PzzFits1
