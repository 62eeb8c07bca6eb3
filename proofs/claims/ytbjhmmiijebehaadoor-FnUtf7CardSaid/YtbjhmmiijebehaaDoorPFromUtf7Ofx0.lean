-- Printed for this claim by a copy of the kit's print that takes hand-proved callees (wip/patch_print.py).
import Derived.Test.YtbjhmmiijebehaaDoorProg
import Derived.Below
import Derived.Deep.Draws
import Derived.Deep.AppendLies
import Derived.Maps.AppendAt
import Derived.OwnWalk
import Derived.Laws.BytesArg
import Derived.Laws.MakeOwn
import Derived.Laws.OwnMore
import Derived.Deep.OwnRows
import Derived.Tactics
import Derived.Lib.ConvBytes
import Derived.Laws.Slices
import Derived.WalkKit
import Derived.KernelRfl
import Derived.RowKit3
import Derived.Deep.LoopGhost
import Derived.Deep.QuietTactic
import Derived.BigQuiet
import Derived.WideLaws
import Derived.Deep.DeepCutAuto
import Derived.Deep.CutBlock
import Derived.Deep.RegionHeld3
import Derived.Laws.Rows
import Derived.Lib.AppendStr
import Derived.ArgAppend
import Derived.Laws.IdiomCopy
import Derived.OrdersHeld
import Derived.Laws.BitsLemmas
import Derived.RowKit
import Derived.Test.YtbjhmmiijebehaaDoorRunes
import Derived.Test.YtbjhmmiijebehaaDoorWWords
import Derived.Test.YtbjhmmiijebehaaDoorWLast
import Derived.Test.YtbjhmmiijebehaaDoorWTab
import Derived.Test.YtbjhmmiijebehaaDoorWFour
import Derived.Test.YtbjhmmiijebehaaDoorWQPut
import Derived.Test.YtbjhmmiijebehaaDoorWApart
import Derived.Test.YtbjhmmiijebehaaDoorWArr
import Derived.Test.YtbjhmmiijebehaaDoorWZeros
import Derived.Test.YtbjhmmiijebehaaDoorWFoot
import Derived.Test.YtbjhmmiijebehaaDoorWKept
import Derived.Test.YtbjhmmiijebehaaDoorWShare
import Derived.Test.YtbjhmmiijebehaaDoorWN
import Derived.Test.YtbjhmmiijebehaaDoorWFootNe
import Derived.Test.YtbjhmmiijebehaaDoorWAt
import Derived.Test.YtbjhmmiijebehaaDoorWEqStruct
import Derived.Test.YtbjhmmiijebehaaDoorWRepsOne
import Derived.Test.YtbjhmmiijebehaaDoorWInv
import Derived.Test.YtbjhmmiijebehaaDoorWInvWords
import Derived.Test.YtbjhmmiijebehaaDoorWGuard
import Derived.Test.YtbjhmmiijebehaaDoorWNEv
import Derived.Test.YtbjhmmiijebehaaDoorWMore
namespace Go.Proofs.YtbjhmmiijebehaaDoor.PFromUtf7Of
open Go.RowKit Go.Proofs.YtbjhmmiijebehaaDoorW.PrintWords Go.Proofs.YtbjhmmiijebehaaDoorW.PrintLast Go.Proofs.YtbjhmmiijebehaaDoorW.PrintMore
attribute [local go_sem] max2_int min2_int max_two min_two max_three min_three max_four min_four   -- for this text's walks alone
set_option linter.unusedVariables false
set_option linter.unusedSimpArgs false



def errW : Option Int → Value
  | none => .nilIface
  | some c => .iface 0 (.int .i64 c)
theorem errW_none : errW none = .nilIface := rfl
theorem errW_some (c : Int) : errW (some c) = .iface 0 (.int .i64 c) := rfl

theorem info21 : (Tryd.prog.info? 21).map (fun i => (i.zero, i.size, i.bytes)) = some (some (.int .i32 0), 1, 4) := by kernel_rfl
theorem info33 : (Tryd.prog.info? 33).map (fun i => (i.zero, i.size, i.bytes)) = some (some (.int .u32 0), 1, 4) := by kernel_rfl
-- the values' own types

end Go.Proofs.YtbjhmmiijebehaaDoor.PFromUtf7Of
