-- PRINTED BY print.sh 35421559b90ae4d0a3588c463048766b98c2df88dd9212a6774a882060cdf62d: not written by this session
import Derived.Test.YtnjbfebeigginaaDoorProg
import Derived.Below
import Derived.Deep.Draws
import Derived.Deep.AppendLies
import Derived.Maps.AppendAt
import Derived.OwnWalk
import Derived.Laws.BytesArg
import Derived.Laws.MakeOwn
import Derived.Laws.OwnMore
import Derived.Deep.OwnRows
import Derived.Tactics
import Derived.Lib.ConvBytes
import Derived.Laws.Slices
import Derived.WalkKit
import Derived.KernelRfl
import Derived.RowKit3
import Derived.Deep.LoopGhost
import Derived.Deep.QuietTactic
import Derived.BigQuiet
import Derived.WideLaws
import Derived.Deep.DeepCutAuto
import Derived.Deep.CutBlock
import Derived.Deep.RegionHeld3
import Derived.Laws.Rows
import Derived.Lib.AppendStr
import Derived.ArgAppend
import Derived.Laws.IdiomCopy
import Derived.OrdersHeld
import Derived.Laws.BitsLemmas
import Derived.RowKit
import Derived.Test.YtnjbfebeigginaaDoorWWords
import Derived.Test.YtnjbfebeigginaaDoorWLast
import Derived.Test.YtnjbfebeigginaaDoorWTab
import Derived.Test.YtnjbfebeigginaaDoorWFour
import Derived.Test.YtnjbfebeigginaaDoorWQPut
import Derived.Test.YtnjbfebeigginaaDoorWApart
import Derived.Test.YtnjbfebeigginaaDoorWArr
import Derived.Test.YtnjbfebeigginaaDoorWZeros
import Derived.Test.YtnjbfebeigginaaDoorWFoot
import Derived.Test.YtnjbfebeigginaaDoorWKept
import Derived.Test.YtnjbfebeigginaaDoorWShare
import Derived.Test.YtnjbfebeigginaaDoorWN
import Derived.Test.YtnjbfebeigginaaDoorWFootNe
import Derived.Test.YtnjbfebeigginaaDoorWAt
import Derived.Test.YtnjbfebeigginaaDoorWEqStruct
import Derived.Test.YtnjbfebeigginaaDoorWRepsOne
import Derived.Test.YtnjbfebeigginaaDoorWInv
import Derived.Test.YtnjbfebeigginaaDoorWInvWords
import Derived.Test.YtnjbfebeigginaaDoorWGuard
import Derived.Test.YtnjbfebeigginaaDoorWNEv
import Derived.Test.YtnjbfebeigginaaDoorWMore
namespace Go.Proofs.YtnjbfebeigginaaDoor.Pone
open Go.RowKit Go.Proofs.YtnjbfebeigginaaDoorW.PrintWords Go.Proofs.YtnjbfebeigginaaDoorW.PrintLast Go.Proofs.YtnjbfebeigginaaDoorW.PrintMore
attribute [local go_sem] max2_int min2_int max_two min_two max_three min_three max_four min_four   -- for this text's walks alone
set_option linter.unusedVariables false
set_option linter.unusedSimpArgs false



def errW : Option Int → Value
  | none => .nilIface
  | some c => .iface 0 (.int .i64 c)
theorem errW_none : errW none = .nilIface := rfl
theorem errW_some (c : Int) : errW (some c) = .iface 0 (.int .i64 c) := rfl

theorem info59 : (Tryd.prog.info? 59).map (fun i => (i.zero, i.size, i.bytes)) = some (some (.int .u32 0), 1, 4) := by kernel_rfl
-- the values' own types

end Go.Proofs.YtnjbfebeigginaaDoor.Pone
