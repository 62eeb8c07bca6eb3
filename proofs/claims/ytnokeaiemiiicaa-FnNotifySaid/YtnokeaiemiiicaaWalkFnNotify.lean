/- FnNotify: the law's call returns true: the plain law joined to the printed walk. -/
import Derived.Test.YtnokeaiemiiicaaPureFnNotify
namespace Go.Proofs.Ytnokeaiemiiicaa
open Go.RowKit Go.Proofs.YtnokeaiemiiicaaW.PrintWords
theorem fnNotify_walk (A0 : Option Addr) (c0 : Nat) (l0 : List ByteArray) (w : World) (hr0 : Kd.C Kd.string w A0 l0.length l0) (hc0 : l0.length ≤ c0) (hm : l0.length * 16 ≤ 140737488351232) (_hs : ∀ s ∈ l0, s.size ≤ maxLen) :
    Calls Try.prog 4 #[.slice A0 l0.length c0] w fun e w' => e = .returned (.bool true) ∧ Below w.heap.size w w' := by
  obtain ⟨k, h⟩ := Pure.FnNotify l0 (by omega)
  exact PFnNotify.laws_FnNotify.calls k A0 c0 l0 true w hr0 hc0 h
end Go.Proofs.Ytnokeaiemiiicaa
