-- Printed for this claim by a copy of the kit's print that takes hand-proved callees (wip/patch_print.py).
import Derived.Test.YtldiamldbpobgaaGreatDoorProg
import Derived.Below
import Derived.Deep.Draws
import Derived.Deep.AppendLies
import Derived.Maps.AppendAt
import Derived.OwnWalk
import Derived.Laws.BytesArg
import Derived.Laws.MakeOwn
import Derived.Laws.OwnMore
import Derived.Deep.OwnRows
import Derived.Tactics
import Derived.Lib.ConvBytes
import Derived.Laws.Slices
import Derived.WalkKit
import Derived.KernelRfl
import Derived.RowKit3
import Derived.Deep.LoopGhost
import Derived.Deep.QuietTactic
import Derived.BigQuiet
import Derived.WideLaws
import Derived.Deep.DeepCutAuto
import Derived.Deep.CutBlock
import Derived.Deep.RegionHeld3
import Derived.Laws.Rows
import Derived.Lib.AppendStr
import Derived.ArgAppend
import Derived.Laws.IdiomCopy
import Derived.OrdersHeld
import Derived.Laws.BitsLemmas
import Derived.RowKit
import Derived.Test.YtldiamldbpobgaaGreatDoorUpper
import Derived.Test.YtldiamldbpobgaaGreatDoorSpecial
import Derived.Test.YtldiamldbpobgaaGreatDoorWWords
import Derived.Test.YtldiamldbpobgaaGreatDoorWLast
import Derived.Test.YtldiamldbpobgaaGreatDoorWTab
import Derived.Test.YtldiamldbpobgaaGreatDoorWFour
import Derived.Test.YtldiamldbpobgaaGreatDoorWQPut
import Derived.Test.YtldiamldbpobgaaGreatDoorWApart
import Derived.Test.YtldiamldbpobgaaGreatDoorWArr
import Derived.Test.YtldiamldbpobgaaGreatDoorWZeros
import Derived.Test.YtldiamldbpobgaaGreatDoorWFoot
import Derived.Test.YtldiamldbpobgaaGreatDoorWKept
import Derived.Test.YtldiamldbpobgaaGreatDoorWShare
import Derived.Test.YtldiamldbpobgaaGreatDoorWN
import Derived.Test.YtldiamldbpobgaaGreatDoorWFootNe
import Derived.Test.YtldiamldbpobgaaGreatDoorWAt
import Derived.Test.YtldiamldbpobgaaGreatDoorWEqStruct
import Derived.Test.YtldiamldbpobgaaGreatDoorWRepsOne
import Derived.Test.YtldiamldbpobgaaGreatDoorWInv
import Derived.Test.YtldiamldbpobgaaGreatDoorWInvWords
import Derived.Test.YtldiamldbpobgaaGreatDoorWGuard
import Derived.Test.YtldiamldbpobgaaGreatDoorWNEv
import Derived.Test.YtldiamldbpobgaaGreatDoorWMore
namespace Go.Proofs.YtldiamldbpobgaaGreatDoor.PPath
open Go.RowKit Go.Proofs.YtldiamldbpobgaaGreatDoorW.PrintWords Go.Proofs.YtldiamldbpobgaaGreatDoorW.PrintLast Go.Proofs.YtldiamldbpobgaaGreatDoorW.PrintMore
attribute [local go_sem] max2_int min2_int max_two min_two max_three min_three max_four min_four   -- for this text's walks alone
set_option linter.unusedVariables false
set_option linter.unusedSimpArgs false



def errW : Option Int → Value
  | none => .nilIface
  | some c => .iface 0 (.int .i64 c)
theorem errW_none : errW none = .nilIface := rfl
theorem errW_some (c : Int) : errW (some c) = .iface 0 (.int .i64 c) := rfl

-- the values' own types

end Go.Proofs.YtldiamldbpobgaaGreatDoor.PPath
