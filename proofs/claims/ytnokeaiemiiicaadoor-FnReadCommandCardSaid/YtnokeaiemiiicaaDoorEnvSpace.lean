/- What the row lists of the library's table of blanks, as the callees of FnReadCommand ask it. -/
import Derived.Test.YtnokeaiemiiicaaDoorReadCmd2
import Derived.Test.YtnokeaiemiiicaaDoorRows
import Derived.Test.YtnokeaiemiiicaaDoorTabReads
import Derived.KernelRfl
namespace Go.Proofs.YtnokeaiemiiicaaDoor.Own
open Go.RowKit Go.Lib
theorem space_data : (Rows.laid_strings_asciiSpace : DataW Unit) = tabData .u8 asciiSpaceTab := by kernel_rfl
theorem space_of_reads {W : World} (h : VarReads Tryd.prog W "strings.asciiSpace" Rows.laid_strings_asciiSpace) : EnvR W := by
  rw [space_data] at h
  exact tabBelow_of_tabIs (tab_reads (g := 7) (t := 145) (e := 5) (n := 256) (by kernel_rfl) (by kernel_rfl) (by kernel_rfl) (by kernel_rfl) (by kernel_rfl) (by kernel_rfl) h)
end Go.Proofs.YtnokeaiemiiicaaDoor.Own
