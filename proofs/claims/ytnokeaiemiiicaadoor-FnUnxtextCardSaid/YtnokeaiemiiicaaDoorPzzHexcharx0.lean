-- Printed for this claim by a copy of the kit's print that takes hand-proved callees (wip/patch_print.py).
import Derived.Test.YtnokeaiemiiicaaDoorProg
import Derived.Below
import Derived.Deep.Draws
import Derived.Deep.AppendLies
import Derived.Maps.AppendAt
import Derived.OwnWalk
import Derived.Laws.BytesArg
import Derived.Laws.MakeOwn
import Derived.Laws.OwnMore
import Derived.Deep.OwnRows
import Derived.Tactics
import Derived.Lib.ConvBytes
import Derived.Laws.Slices
import Derived.WalkKit
import Derived.KernelRfl
import Derived.RowKit3
import Derived.Deep.LoopGhost
import Derived.Deep.QuietTactic
import Derived.BigQuiet
import Derived.WideLaws
import Derived.Deep.DeepCutAuto
import Derived.Deep.CutBlock
import Derived.Deep.RegionHeld3
import Derived.Laws.Rows
import Derived.Lib.AppendStr
import Derived.ArgAppend
import Derived.Laws.IdiomCopy
import Derived.OrdersHeld
import Derived.Laws.BitsLemmas
import Derived.RowKit
import Derived.Test.YtnokeaiemiiicaaDoorWWords
import Derived.Test.YtnokeaiemiiicaaDoorWLast
import Derived.Test.YtnokeaiemiiicaaDoorWTab
import Derived.Test.YtnokeaiemiiicaaDoorWFour
import Derived.Test.YtnokeaiemiiicaaDoorWQPut
import Derived.Test.YtnokeaiemiiicaaDoorWApart
import Derived.Test.YtnokeaiemiiicaaDoorWArr
import Derived.Test.YtnokeaiemiiicaaDoorWZeros
import Derived.Test.YtnokeaiemiiicaaDoorWFoot
import Derived.Test.YtnokeaiemiiicaaDoorWKept
import Derived.Test.YtnokeaiemiiicaaDoorWShare
import Derived.Test.YtnokeaiemiiicaaDoorWN
import Derived.Test.YtnokeaiemiiicaaDoorWFootNe
import Derived.Test.YtnokeaiemiiicaaDoorWAt
import Derived.Test.YtnokeaiemiiicaaDoorWEqStruct
import Derived.Test.YtnokeaiemiiicaaDoorWRepsOne
import Derived.Test.YtnokeaiemiiicaaDoorWInv
import Derived.Test.YtnokeaiemiiicaaDoorWInvWords
import Derived.Test.YtnokeaiemiiicaaDoorWGuard
import Derived.Test.YtnokeaiemiiicaaDoorWNEv
import Derived.Test.YtnokeaiemiiicaaDoorWMore
namespace Go.Proofs.YtnokeaiemiiicaaDoor.PzzHexchar
open Go.RowKit Go.Proofs.YtnokeaiemiiicaaDoorW.PrintWords Go.Proofs.YtnokeaiemiiicaaDoorW.PrintLast Go.Proofs.YtnokeaiemiiicaaDoorW.PrintMore
attribute [local go_sem] max2_int min2_int max_two min_two max_three min_three max_four min_four   -- for this text's walks alone
set_option linter.unusedVariables false
set_option linter.unusedSimpArgs false



def errW : Option Int → Value
  | none => .nilIface
  | some c => .iface 0 (.int .i64 c)
theorem errW_none : errW none = .nilIface := rfl
theorem errW_some (c : Int) : errW (some c) = .iface 0 (.int .i64 c) := rfl

-- the values' own types

end Go.Proofs.YtnokeaiemiiicaaDoor.PzzHexchar
