/- What the row lists of strconv.ErrRange, as the callees of FnUnxtext ask it. -/
import Derived.Test.YtoeggcckcnlllaaDoorXtDec
import Derived.Test.YtoeggcckcnlllaaDoorRows
import Derived.Lib.LaidU8
import Derived.LaidLaws
import Derived.KernelRfl
namespace Go.Proofs.YtoeggcckcnlllaaDoor.Own
open Go.RowKit Go.Lib
set_option linter.unusedVariables false
set_option linter.unusedSimpArgs false
theorem range_of_reads {W : World} (h : VarReads Tryd.prog W "strconv.ErrRange" Rows.laid_strconv_ErrRange) : EnvXg W := by
  obtain ⟨g, t, cs, fuel, p, hg, hty, hv, hd⟩ := h
  obtain rfl := Option.some.inj ((show Tryd.prog.globalNamed "strconv.ErrRange" = some 1 by kernel_rfl).symm.trans hg)
  obtain rfl := Option.some.inj ((show (Tryd.prog.globals[1]?).map (·.type) = some 34 by kernel_rfl).symm.trans hty)
  have hi : ∃ ms, Tryd.prog.underlying 34 = some (.interface ms) := by
    have h0 : ((Tryd.prog.underlying 34).bind fun | .interface ms => some ms | _ => none).isSome = true := by kernel_rfl
    revert h0
    match hu : Tryd.prog.underlying 34 with
    | some (.interface ms) => exact fun _ => ⟨ms, rfl⟩
    | some x => cases x <;> simp
    | none => simp
  obtain ⟨ms, hi⟩ := hi
  obtain ⟨f, u, v, hcs, _⟩ := iface_of_trod hi hd
  have hc0 : W.cell? ⟨1, 0, none⟩ = some (.iface u v) := by
    have := World.var?_cell hg hv 0
    rw [show cs = #[Value.iface u v] from by apply Array.ext'; exact hcs] at this
    simpa using this
  exact ⟨⟨_, hc0, .inr ⟨u, v, rfl⟩⟩, World.block_lt_of_cell? _ _ hc0⟩
end Go.Proofs.YtoeggcckcnlllaaDoor.Own
