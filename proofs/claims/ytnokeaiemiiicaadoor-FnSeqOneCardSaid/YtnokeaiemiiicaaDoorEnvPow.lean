/- What the row lists of the library's table of powers, as the callees ask it. -/
import Derived.Test.YtnokeaiemiiicaaDoorSeqFor
import Derived.Test.YtnokeaiemiiicaaDoorRows
import Derived.Lib.LaidU8
import Derived.MakeChecks
import Derived.KernelRfl
namespace Go.Proofs.YtnokeaiemiiicaaDoor.Own
open Go.RowKit Go.Lib
set_option linter.unusedVariables false

theorem tab_of_reads {P : Program} {W : World} {name : String} {k : IntKind} {zs : List Int} {g : Nat} {t e : TypeId} {n : Nat}
    (hg : P.globalNamed name = some g) (hty : (P.globals[g]?).map (·.type) = some t) (ht : P.underlying t = some (.array n e)) (he : P.underlying e = some (.int k)) (hce : P.cellsOf e = 1) (hct : P.cellsOf t = n)
    (h : VarReads P W name (tabData k zs)) : TabIs P W name k zs := by
  obtain ⟨g', t', cs, fuel, p, hg', hty', hv, hd⟩ := h
  obtain rfl := Option.some.inj (hg.symm.trans hg')
  obtain rfl := Option.some.inj (hty.symm.trans hty')
  have := cells_of_tab ht he hce hct hd
  unfold TabIs
  rw [hv, ← this]
theorem pow_data : (Rows.laid_internal_strconv_uint64pow10 : DataW Unit) = tabData .u64 pow10Tab := by kernel_rfl
theorem env_of_reads {W : World} (h : VarReads Tryd.prog W "internal/strconv.uint64pow10" Rows.laid_internal_strconv_uint64pow10) : Env W := by
  rw [pow_data] at h
  exact tabBelow_of_tabIs (tab_of_reads (g := 8) (t := 154) (e := 46) (n := 20) (by kernel_rfl) (by kernel_rfl) (by kernel_rfl) (by kernel_rfl) (by kernel_rfl) (by kernel_rfl) h)
end Go.Proofs.YtnokeaiemiiicaaDoor.Own
