/- A listed table of the library's that reads as its datum. -/
import Derived.Lib.LaidU8
import Derived.Lib.AppendIntMem
namespace Go.Proofs.YtoeggcckcnlllaaDoor.Own
open Go.RowKit Go.Lib
theorem tab_reads {P : Program} {W : World} {name : String} {k : IntKind} {zs : List Int} {g : Nat} {t e : TypeId} {n : Nat}
    (hg : P.globalNamed name = some g) (hty : (P.globals[g]?).map (·.type) = some t) (ht : P.underlying t = some (.array n e)) (he : P.underlying e = some (.int k)) (hce : P.cellsOf e = 1) (hct : P.cellsOf t = n)
    (h : VarReads P W name (tabData k zs)) : TabIs P W name k zs := by
  obtain ⟨g', t', cs, fuel, p, hg', hty', hv, hd⟩ := h
  obtain rfl := Option.some.inj (hg.symm.trans hg')
  obtain rfl := Option.some.inj (hty.symm.trans hty')
  have := cells_of_tab ht he hce hct hd
  unfold TabIs
  rw [hv, ← this]
end Go.Proofs.YtoeggcckcnlllaaDoor.Own
