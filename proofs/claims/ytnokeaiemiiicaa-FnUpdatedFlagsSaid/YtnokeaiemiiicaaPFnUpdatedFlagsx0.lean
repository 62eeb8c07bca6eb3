-- Printed for this claim by a copy of the kit's print that takes hand-proved callees (wip/patch_print.py).
import Derived.Test.YtnokeaiemiiicaaProg
import Derived.Below
import Derived.Deep.Draws
import Derived.Deep.AppendLies
import Derived.Maps.AppendAt
import Derived.OwnWalk
import Derived.Laws.BytesArg
import Derived.Laws.MakeOwn
import Derived.Laws.OwnMore
import Derived.Deep.OwnRows
import Derived.Tactics
import Derived.Lib.ConvBytes
import Derived.Laws.Slices
import Derived.WalkKit
import Derived.KernelRfl
import Derived.RowKit3
import Derived.Deep.LoopGhost
import Derived.Deep.QuietTactic
import Derived.BigQuiet
import Derived.WideLaws
import Derived.Deep.DeepCutAuto
import Derived.Deep.CutBlock
import Derived.Deep.RegionHeld3
import Derived.Laws.Rows
import Derived.Lib.AppendStr
import Derived.ArgAppend
import Derived.Laws.IdiomCopy
import Derived.OrdersHeld
import Derived.Laws.BitsLemmas
import Derived.RowKit
import Derived.Test.YtnokeaiemiiicaaPlain
import Derived.Test.YtnokeaiemiiicaaWWords
import Derived.Test.YtnokeaiemiiicaaWLast
import Derived.Test.YtnokeaiemiiicaaWTab
import Derived.Test.YtnokeaiemiiicaaWFour
import Derived.Test.YtnokeaiemiiicaaWQPut
import Derived.Test.YtnokeaiemiiicaaWApart
import Derived.Test.YtnokeaiemiiicaaWArr
import Derived.Test.YtnokeaiemiiicaaWZeros
import Derived.Test.YtnokeaiemiiicaaWFoot
import Derived.Test.YtnokeaiemiiicaaWKept
import Derived.Test.YtnokeaiemiiicaaWShare
import Derived.Test.YtnokeaiemiiicaaWN
import Derived.Test.YtnokeaiemiiicaaWFootNe
import Derived.Test.YtnokeaiemiiicaaWAt
import Derived.Test.YtnokeaiemiiicaaWEqStruct
import Derived.Test.YtnokeaiemiiicaaWRepsOne
import Derived.Test.YtnokeaiemiiicaaWInv
import Derived.Test.YtnokeaiemiiicaaWInvWords
import Derived.Test.YtnokeaiemiiicaaWGuard
import Derived.Test.YtnokeaiemiiicaaWNEv
import Derived.Test.YtnokeaiemiiicaaWMore
namespace Go.Proofs.Ytnokeaiemiiicaa.PFnUpdatedFlags
open Go.RowKit Go.Proofs.YtnokeaiemiiicaaW.PrintWords Go.Proofs.YtnokeaiemiiicaaW.PrintLast Go.Proofs.YtnokeaiemiiicaaW.PrintMore
attribute [local go_sem] max2_int min2_int max_two min_two max_three min_three max_four min_four   -- for this text's walks alone
set_option linter.unusedVariables false
set_option linter.unusedSimpArgs false



def errW : Option Int → Value
  | none => .nilIface
  | some c => .iface 0 (.int .i64 c)
theorem errW_none : errW none = .nilIface := rfl
theorem errW_some (c : Int) : errW (some c) = .iface 0 (.int .i64 c) := rfl

theorem info9 : (Try.prog.info? 9).map (fun i => (i.zero, i.size, i.bytes)) = some (some (.string ⟨#[]⟩), 1, 16) := by kernel_rfl
-- the values' own types

end Go.Proofs.Ytnokeaiemiiicaa.PFnUpdatedFlags
