-- PRINTED BY print.sh 35421559b90ae4d0a3588c463048766b98c2df88dd9212a6774a882060cdf62d: not written by this session
import Derived.Test.YteohmbannpbokaaDoorProg
import Derived.Below
import Derived.Deep.Draws
import Derived.Deep.AppendLies
import Derived.Maps.AppendAt
import Derived.OwnWalk
import Derived.Laws.BytesArg
import Derived.Laws.MakeOwn
import Derived.Laws.OwnMore
import Derived.Deep.OwnRows
import Derived.Tactics
import Derived.Lib.ConvBytes
import Derived.Laws.Slices
import Derived.WalkKit
import Derived.KernelRfl
import Derived.RowKit3
import Derived.Deep.LoopGhost
import Derived.Deep.QuietTactic
import Derived.BigQuiet
import Derived.WideLaws
import Derived.Deep.DeepCutAuto
import Derived.Deep.CutBlock
import Derived.Deep.RegionHeld3
import Derived.Laws.Rows
import Derived.Lib.AppendStr
import Derived.ArgAppend
import Derived.Laws.IdiomCopy
import Derived.OrdersHeld
import Derived.Laws.BitsLemmas
import Derived.RowKit
import Derived.Test.YteohmbannpbokaaDoorWWords
import Derived.Test.YteohmbannpbokaaDoorWLast
import Derived.Test.YteohmbannpbokaaDoorWTab
import Derived.Test.YteohmbannpbokaaDoorWFour
import Derived.Test.YteohmbannpbokaaDoorWQPut
import Derived.Test.YteohmbannpbokaaDoorWApart
import Derived.Test.YteohmbannpbokaaDoorWArr
import Derived.Test.YteohmbannpbokaaDoorWZeros
import Derived.Test.YteohmbannpbokaaDoorWFoot
import Derived.Test.YteohmbannpbokaaDoorWKept
import Derived.Test.YteohmbannpbokaaDoorWShare
import Derived.Test.YteohmbannpbokaaDoorWN
import Derived.Test.YteohmbannpbokaaDoorWFootNe
import Derived.Test.YteohmbannpbokaaDoorWAt
import Derived.Test.YteohmbannpbokaaDoorWEqStruct
import Derived.Test.YteohmbannpbokaaDoorWRepsOne
import Derived.Test.YteohmbannpbokaaDoorWInv
import Derived.Test.YteohmbannpbokaaDoorWInvWords
import Derived.Test.YteohmbannpbokaaDoorWGuard
import Derived.Test.YteohmbannpbokaaDoorWNEv
import Derived.Test.YteohmbannpbokaaDoorWMore
namespace Go.Proofs.YteohmbannpbokaaDoor.PzzReplaceAll
open Go.RowKit Go.Proofs.YteohmbannpbokaaDoorW.PrintWords Go.Proofs.YteohmbannpbokaaDoorW.PrintLast Go.Proofs.YteohmbannpbokaaDoorW.PrintMore
attribute [local go_sem] max2_int min2_int max_two min_two max_three min_three max_four min_four   -- for this text's walks alone
set_option linter.unusedVariables false
set_option linter.unusedSimpArgs false



def errW : Option Int → Value
  | none => .nilIface
  | some c => .iface 0 (.int .i64 c)
theorem errW_none : errW none = .nilIface := rfl
theorem errW_some (c : Int) : errW (some c) = .iface 0 (.int .i64 c) := rfl

theorem info5 : (Tryd.prog.info? 5).map (fun i => (i.zero, i.size, i.bytes)) = some (some (.int .u8 0), 1, 1) := by kernel_rfl
-- the values' own types

end Go.Proofs.YteohmbannpbokaaDoor.PzzReplaceAll
