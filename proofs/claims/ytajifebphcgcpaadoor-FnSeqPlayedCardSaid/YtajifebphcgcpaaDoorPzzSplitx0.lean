-- Printed for this claim by a copy of the kit's print that takes hand-proved callees (wip/patch_print.py).
import Derived.Test.YtajifebphcgcpaaDoorProg
import Derived.Below
import Derived.Deep.Draws
import Derived.Deep.AppendLies
import Derived.Maps.AppendAt
import Derived.OwnWalk
import Derived.Laws.BytesArg
import Derived.Laws.MakeOwn
import Derived.Laws.OwnMore
import Derived.Deep.OwnRows
import Derived.Tactics
import Derived.Lib.ConvBytes
import Derived.Laws.Slices
import Derived.WalkKit
import Derived.KernelRfl
import Derived.RowKit3
import Derived.Deep.LoopGhost
import Derived.Deep.QuietTactic
import Derived.BigQuiet
import Derived.WideLaws
import Derived.Deep.DeepCutAuto
import Derived.Deep.CutBlock
import Derived.Deep.RegionHeld3
import Derived.Laws.Rows
import Derived.Lib.AppendStr
import Derived.ArgAppend
import Derived.Laws.IdiomCopy
import Derived.OrdersHeld
import Derived.Laws.BitsLemmas
import Derived.RowKit
import Derived.Test.YtajifebphcgcpaaDoorWWords
import Derived.Test.YtajifebphcgcpaaDoorWLast
import Derived.Test.YtajifebphcgcpaaDoorWTab
import Derived.Test.YtajifebphcgcpaaDoorWFour
import Derived.Test.YtajifebphcgcpaaDoorWQPut
import Derived.Test.YtajifebphcgcpaaDoorWApart
import Derived.Test.YtajifebphcgcpaaDoorWArr
import Derived.Test.YtajifebphcgcpaaDoorWZeros
import Derived.Test.YtajifebphcgcpaaDoorWFoot
import Derived.Test.YtajifebphcgcpaaDoorWKept
import Derived.Test.YtajifebphcgcpaaDoorWShare
import Derived.Test.YtajifebphcgcpaaDoorWN
import Derived.Test.YtajifebphcgcpaaDoorWFootNe
import Derived.Test.YtajifebphcgcpaaDoorWAt
import Derived.Test.YtajifebphcgcpaaDoorWEqStruct
import Derived.Test.YtajifebphcgcpaaDoorWRepsOne
import Derived.Test.YtajifebphcgcpaaDoorWInv
import Derived.Test.YtajifebphcgcpaaDoorWInvWords
import Derived.Test.YtajifebphcgcpaaDoorWGuard
import Derived.Test.YtajifebphcgcpaaDoorWNEv
import Derived.Test.YtajifebphcgcpaaDoorWMore
namespace Go.Proofs.YtajifebphcgcpaaDoor.PzzSplit
open Go.RowKit Go.Proofs.YtajifebphcgcpaaDoorW.PrintWords Go.Proofs.YtajifebphcgcpaaDoorW.PrintLast Go.Proofs.YtajifebphcgcpaaDoorW.PrintMore
attribute [local go_sem] max2_int min2_int max_two min_two max_three min_three max_four min_four   -- for this text's walks alone
set_option linter.unusedVariables false
set_option linter.unusedSimpArgs false



def errW : Option Int → Value
  | none => .nilIface
  | some c => .iface 0 (.int .i64 c)
theorem errW_none : errW none = .nilIface := rfl
theorem errW_some (c : Int) : errW (some c) = .iface 0 (.int .i64 c) := rfl

-- the values' own types

end Go.Proofs.YtajifebphcgcpaaDoor.PzzSplit
