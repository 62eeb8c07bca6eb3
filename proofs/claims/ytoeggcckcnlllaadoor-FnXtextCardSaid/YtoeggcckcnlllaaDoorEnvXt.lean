/- What the row lists of the library's error of ranges and of its table of trailing zeros, as the callees of FnXtext ask it. -/
import Derived.Test.YtoeggcckcnlllaaDoorEncW
import Derived.Test.YtoeggcckcnlllaaDoorEnvErr
import Derived.Test.YtoeggcckcnlllaaDoorTabReads
import Derived.KernelRfl
namespace Go.Proofs.YtoeggcckcnlllaaDoor.Own
open Go.RowKit Go.Lib
def brTab : List Int := [0,1,56,2,57,49,28,3,61,58,42,50,38,29,17,4,62,47,59,36,45,43,51,22,53,39,33,30,24,18,12,5,63,55,48,27,60,41,37,16,46,35,44,21,52,32,23,11,54,26,40,15,34,20,31,10,25,14,19,9,13,8,7,6]
theorem br_data : (Rows.laid_math_bits_deBruijn64tab : DataW Unit) = tabData .u8 brTab := by kernel_rfl
theorem br_of_reads {W : World} (h : VarReads Tryd.prog W "math/bits.deBruijn64tab" Rows.laid_math_bits_deBruijn64tab) : TabBr W := by
  rw [br_data] at h
  exact (tab_reads (g := 8) (t := 109) (e := 5) (n := 64) (by kernel_rfl) (by kernel_rfl) (by kernel_rfl) (by kernel_rfl) (by kernel_rfl) (by kernel_rfl) h).cell (by kernel_rfl) 15 (by decide)
theorem xt_of_reads {W : World} (h1 : VarReads Tryd.prog W "strconv.ErrRange" Rows.laid_strconv_ErrRange) (h2 : VarReads Tryd.prog W "math/bits.deBruijn64tab" Rows.laid_math_bits_deBruijn64tab) : EnvXe W := ⟨range_of_reads h1, br_of_reads h2⟩
end Go.Proofs.YtoeggcckcnlllaaDoor.Own
