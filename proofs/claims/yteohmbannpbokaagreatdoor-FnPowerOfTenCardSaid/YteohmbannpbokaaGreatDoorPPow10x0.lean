-- PRINTED BY print.sh 35421559b90ae4d0a3588c463048766b98c2df88dd9212a6774a882060cdf62d: not written by this session
import Derived.Test.YteohmbannpbokaaGreatDoorProg
import Derived.Below
import Derived.Deep.Draws
import Derived.Deep.AppendLies
import Derived.Maps.AppendAt
import Derived.OwnWalk
import Derived.Laws.BytesArg
import Derived.Laws.MakeOwn
import Derived.Laws.OwnMore
import Derived.Deep.OwnRows
import Derived.Tactics
import Derived.Lib.ConvBytes
import Derived.Laws.Slices
import Derived.WalkKit
import Derived.KernelRfl
import Derived.RowKit3
import Derived.Deep.LoopGhost
import Derived.Deep.QuietTactic
import Derived.BigQuiet
import Derived.WideLaws
import Derived.Deep.DeepCutAuto
import Derived.Deep.CutBlock
import Derived.Deep.RegionHeld3
import Derived.Laws.Rows
import Derived.Lib.AppendStr
import Derived.ArgAppend
import Derived.Laws.IdiomCopy
import Derived.OrdersHeld
import Derived.Laws.BitsLemmas
import Derived.RowKit
import Derived.Test.YteohmbannpbokaaGreatDoorWWords
import Derived.Test.YteohmbannpbokaaGreatDoorWLast
import Derived.Test.YteohmbannpbokaaGreatDoorWTab
import Derived.Test.YteohmbannpbokaaGreatDoorWFour
import Derived.Test.YteohmbannpbokaaGreatDoorWQPut
import Derived.Test.YteohmbannpbokaaGreatDoorWApart
import Derived.Test.YteohmbannpbokaaGreatDoorWArr
import Derived.Test.YteohmbannpbokaaGreatDoorWZeros
import Derived.Test.YteohmbannpbokaaGreatDoorWFoot
import Derived.Test.YteohmbannpbokaaGreatDoorWKept
import Derived.Test.YteohmbannpbokaaGreatDoorWShare
import Derived.Test.YteohmbannpbokaaGreatDoorWN
import Derived.Test.YteohmbannpbokaaGreatDoorWFootNe
import Derived.Test.YteohmbannpbokaaGreatDoorWAt
import Derived.Test.YteohmbannpbokaaGreatDoorWEqStruct
import Derived.Test.YteohmbannpbokaaGreatDoorWRepsOne
import Derived.Test.YteohmbannpbokaaGreatDoorWInv
import Derived.Test.YteohmbannpbokaaGreatDoorWInvWords
import Derived.Test.YteohmbannpbokaaGreatDoorWGuard
import Derived.Test.YteohmbannpbokaaGreatDoorWNEv
import Derived.Test.YteohmbannpbokaaGreatDoorWMore
namespace Go.Proofs.YteohmbannpbokaaGreatDoor.PPow10
open Go.RowKit Go.Proofs.YteohmbannpbokaaGreatDoorW.PrintWords Go.Proofs.YteohmbannpbokaaGreatDoorW.PrintLast Go.Proofs.YteohmbannpbokaaGreatDoorW.PrintMore
attribute [local go_sem] max2_int min2_int max_two min_two max_three min_three max_four min_four   -- for this text's walks alone
set_option linter.unusedVariables false
set_option linter.unusedSimpArgs false



def errW : Option Int → Value
  | none => .nilIface
  | some c => .iface 0 (.int .i64 c)
theorem errW_none : errW none = .nilIface := rfl
theorem errW_some (c : Int) : errW (some c) = .iface 0 (.int .i64 c) := rfl

theorem info44 : (Tryz.prog.info? 44).map (fun i => (i.zero, i.size, i.bytes)) = some (some (.int .u32 0), 1, 4) := by kernel_rfl
-- the values' own types

end Go.Proofs.YteohmbannpbokaaGreatDoor.PPow10
