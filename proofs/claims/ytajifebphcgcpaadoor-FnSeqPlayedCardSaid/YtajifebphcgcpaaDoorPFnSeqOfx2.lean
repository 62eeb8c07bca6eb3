-- Printed for this claim by a copy of the kit's print that takes hand-proved callees (wip/patch_print.py).
import Derived.Test.YtajifebphcgcpaaDoorPFnSeqOfx0
namespace Go.Proofs.YtajifebphcgcpaaDoor.PFnSeqOf
open Go.RowKit Go.Proofs.YtajifebphcgcpaaDoorW.PrintWords Go.Proofs.YtajifebphcgcpaaDoorW.PrintLast Go.Proofs.YtajifebphcgcpaaDoorW.PrintMore
attribute [local go_sem] max2_int min2_int max_two min_two max_three min_three max_four min_four   -- for this text's walks alone
set_option linter.unusedVariables false
set_option linter.unusedSimpArgs false

theorem eqA50 (d : Nat) (w : World) (x0 y0 : Int) (x1 y1 : Int) :
    (Op.equalIn (d + 2) 50 (.agg #[.int .u32 x0, .int .u32 x1]) (.agg #[.int .u32 y0, .int .u32 y1])).run Tryd.prog w = .ok (x0 == y0 && (x1 == y1)) w := by
  refine eqA_of Tryd.underlying50 (by kernel_rfl) ?_
  refine eqf_cons (by rfl) (by go_simp; rfl) (by go_simp; rfl) (by go_simp) ?_
  exact eqf_last (by rfl) (by go_simp; rfl) (by go_simp; rfl) (by go_simp)
end Go.Proofs.YtajifebphcgcpaaDoor.PFnSeqOf
