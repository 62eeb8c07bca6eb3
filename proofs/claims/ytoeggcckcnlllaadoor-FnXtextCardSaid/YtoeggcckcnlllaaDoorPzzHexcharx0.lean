-- Printed for this claim by a copy of the kit's print that takes hand-proved callees (wip/patch_print.py).
import Derived.Test.YtoeggcckcnlllaaDoorProg
import Derived.Below
import Derived.Deep.Draws
import Derived.Deep.AppendLies
import Derived.Maps.AppendAt
import Derived.OwnWalk
import Derived.Laws.BytesArg
import Derived.Laws.MakeOwn
import Derived.Laws.OwnMore
import Derived.Deep.OwnRows
import Derived.Tactics
import Derived.Lib.ConvBytes
import Derived.Laws.Slices
import Derived.WalkKit
import Derived.KernelRfl
import Derived.RowKit3
import Derived.Deep.LoopGhost
import Derived.Deep.QuietTactic
import Derived.BigQuiet
import Derived.WideLaws
import Derived.Deep.DeepCutAuto
import Derived.Deep.CutBlock
import Derived.Deep.RegionHeld3
import Derived.Laws.Rows
import Derived.Lib.AppendStr
import Derived.ArgAppend
import Derived.Laws.IdiomCopy
import Derived.OrdersHeld
import Derived.Laws.BitsLemmas
import Derived.RowKit
import Derived.Test.YtoeggcckcnlllaaDoorWWords
import Derived.Test.YtoeggcckcnlllaaDoorWLast
import Derived.Test.YtoeggcckcnlllaaDoorWTab
import Derived.Test.YtoeggcckcnlllaaDoorWFour
import Derived.Test.YtoeggcckcnlllaaDoorWQPut
import Derived.Test.YtoeggcckcnlllaaDoorWApart
import Derived.Test.YtoeggcckcnlllaaDoorWArr
import Derived.Test.YtoeggcckcnlllaaDoorWZeros
import Derived.Test.YtoeggcckcnlllaaDoorWFoot
import Derived.Test.YtoeggcckcnlllaaDoorWKept
import Derived.Test.YtoeggcckcnlllaaDoorWShare
import Derived.Test.YtoeggcckcnlllaaDoorWN
import Derived.Test.YtoeggcckcnlllaaDoorWFootNe
import Derived.Test.YtoeggcckcnlllaaDoorWAt
import Derived.Test.YtoeggcckcnlllaaDoorWEqStruct
import Derived.Test.YtoeggcckcnlllaaDoorWRepsOne
import Derived.Test.YtoeggcckcnlllaaDoorWInv
import Derived.Test.YtoeggcckcnlllaaDoorWInvWords
import Derived.Test.YtoeggcckcnlllaaDoorWGuard
import Derived.Test.YtoeggcckcnlllaaDoorWNEv
import Derived.Test.YtoeggcckcnlllaaDoorWMore
namespace Go.Proofs.YtoeggcckcnlllaaDoor.PzzHexchar
open Go.RowKit Go.Proofs.YtoeggcckcnlllaaDoorW.PrintWords Go.Proofs.YtoeggcckcnlllaaDoorW.PrintLast Go.Proofs.YtoeggcckcnlllaaDoorW.PrintMore
attribute [local go_sem] max2_int min2_int max_two min_two max_three min_three max_four min_four   -- for this text's walks alone
set_option linter.unusedVariables false
set_option linter.unusedSimpArgs false



def errW : Option Int → Value
  | none => .nilIface
  | some c => .iface 0 (.int .i64 c)
theorem errW_none : errW none = .nilIface := rfl
theorem errW_some (c : Int) : errW (some c) = .iface 0 (.int .i64 c) := rfl

-- the values' own types

end Go.Proofs.YtoeggcckcnlllaaDoor.PzzHexchar
