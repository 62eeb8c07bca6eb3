/- FnExtracted: the law's call returns true for all bytes, places and numbers. -/
import Derived.Test.YtnokeaiemiiicaaExtracted
import Derived.OpenShut
namespace Go.Proofs.Ytnokeaiemiiicaa
open Go.RowKit
theorem fnExtracted_walk (s : ByteArray) (f m : Int) (wh : Bool) (w : World) (hs : s.size ≤ 140737488351232) (wf : (Lit.int .u32 f).wf = true) (wm : (Lit.int .u32 m).wf = true) :
    Calls Try.prog 5 #[.string s, .int .u32 f, .int .u32 m, .bool wh] w fun e w' => e = .returned (.bool true) ∧ Below w.heap.size w w' :=
  Own.fe_all s f m wh w hs (bounds_u32 wf).1 (bounds_u32 wm).1
end Go.Proofs.Ytnokeaiemiiicaa
