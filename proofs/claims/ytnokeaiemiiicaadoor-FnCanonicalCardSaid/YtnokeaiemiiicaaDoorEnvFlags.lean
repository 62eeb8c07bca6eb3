/- What the row lists of the flags' variable, as the callees of FnCanonical ask it. -/
import Derived.Test.YtnokeaiemiiicaaDoorCanonFor
import Derived.Test.YtnokeaiemiiicaaDoorRows
import Derived.Lib.LaidU8
import Derived.SliceStrings
import Derived.ChangeOld
import Derived.KernelRfl
namespace Go.Proofs.YtnokeaiemiiicaaDoor.Own
open Go.RowKit Go.Lib Go.Proofs.YtnokeaiemiiicaaDoorW.PrintWords Go.ChangeShapes
set_option linter.unusedVariables false
set_option linter.unusedSimpArgs false

theorem strs_inj {H : Type} {l m : List ByteArray} (h : (strs l : List (DataW H)) = strs m) : l = m := by
  unfold strs at h
  refine List.map_inj_right (f := fun s : ByteArray => (DataW.lit (.string s.data.toList) : DataW H)) (fun a b e => ?_) |>.1 h
  simp only [DataW.lit.injEq, Lit.string.injEq] at e
  exact ByteArray.ext (Array.ext' e)
theorem flags_of_reads {W : World} (h : VarReads Tryd.prog W "given.example/pub-datestamp/pub/goimap.flags" Rows.laid_given_example_pub_datestamp_pub_goimap_flags) : EnvC W := by
  obtain ⟨g, t, cs, fuel, p, hg, hty, hv, hd⟩ := h
  obtain rfl := Option.some.inj ((show Tryd.prog.globalNamed "given.example/pub-datestamp/pub/goimap.flags" = some 0 by kernel_rfl).symm.trans hg)
  obtain rfl := Option.some.inj ((show (Tryd.prog.globals[0]?).map (·.type) = some 81 by kernel_rfl).symm.trans hty)
  rcases open_strings Tryd.underlying81 Tryd.underlying9 (by kernel_rfl) hd with ⟨_, hx⟩ | ⟨a, len, cap, ss, hcs, _, hl, hm, hz, hx, hcell, _⟩
  · exact absurd (congrArg Prod.fst hx) (by unfold Rows.laid_given_example_pub_datestamp_pub_goimap_flags; intro e; cases e)
  · have hx1 := congrArg Prod.fst hx
    have e1 : (strs (ss.take len) : List (DataW Unit)) = strs flagsL := by
      unfold Rows.laid_given_example_pub_datestamp_pub_goimap_flags at hx1
      simp only [DataW.slice.injEq] at hx1
      rw [← hx1.1]
      rfl
    have e2 : (strs (ss.drop len) : List (DataW Unit)) = [] := by
      unfold Rows.laid_given_example_pub_datestamp_pub_goimap_flags at hx1
      simp only [DataW.slice.injEq] at hx1
      exact hx1.2.symm
    have e1 := strs_inj e1
    have hz' : ss.length = cap := by simpa using hz
    have h6 : len = 6 := by
      have := congrArg List.length e1
      rw [List.length_take, show flagsL.length = 6 from rfl] at this
      omega
    subst h6
    have hc0 : W.cell? ⟨0, 0, none⟩ = some (.slice (some a) 6 cap) := by
      have := World.var?_cell hg hv 0
      rw [show cs = #[Value.slice (some a) 6 cap] from by apply Array.ext'; exact hcs] at this
      simpa using this
    refine ⟨some a, cap, hl, hc0, ?_⟩
    refine Kd.C_of_reads (enc := Value.string) (d := ByteArray.empty) (h1 := fun _ => rfl) ⟨rfl, by omega, fun hp => ⟨a, rfl, fun j hj => ?_⟩⟩
    rw [hcell j (by omega), ← e1]
    simp [List.getD_eq_getElem?_getD, hj]
end Go.Proofs.YtnokeaiemiiicaaDoor.Own
