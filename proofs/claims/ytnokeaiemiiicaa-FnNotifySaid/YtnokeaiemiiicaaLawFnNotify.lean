/- FnNotify: for every input the law's function returns true and leaves its arguments as they were. No condition beside the statement's own. -/
import Derived.Test.YtnokeaiemiiicaaRows
import Derived.Test.YtnokeaiemiiicaaWalkFnNotify
import Derived.WalkKit
import Derived.ProofKit
import Derived.OpenShut
import Derived.ShutString
import Derived.ChangeOld
import Derived.Below
import Derived.SizedLaws
import Derived.SliceStrings
namespace Go.Proofs.Ytnokeaiemiiicaa.fnNotify
open Go.ChangeShapes Go.WideShapes Go.ChangeAt Go.RowKit
open Go.ChangeMaps (open_string shut_string)
set_option linter.unusedVariables false
theorem own : ownKnob Try.prog.godebug = none := by kernel_rfl
theorem laidOut : laidOutB Try.prog = true := by kernel_rfl
set_option maxRecDepth 100000 in
theorem lifted (os : Os) (started : os.Started) (H : Type) (enc : TypeId × Value → H) :
    ReturnsInHanded {} Try.checked os 4 .any (Rows.fnNotifySpec.pre6 enc Try.prog Try.f4 Rows.fnNotifyRow.domain false) (Rows.fnNotifySpec.post enc Try.prog Try.f4 false true false false) := by
  refine returnsInHanded_of_change_sized (C := Try.checked) own started (by kernel_rfl) Try.func4
    (ChangeSpec.witness6 (enc := enc) (C := Try.checked) false ⟨#[], #[.slice none 0 0], []⟩ 8 (by kernel_rfl) (by kernel_rfl) (by kernel_rfl) (by kernel_rfl)) ?_
  intro W base args ds gs before hval0 hW hcnd hsz0 _
  have hsz : (DataW.weightsEach Try.prog (Try.f4.params.toList ++ Rows.fnNotifySpec.plain.varTypes Try.prog) (ds ++ gs)).all (· ≤ reachBytes) = true := hsz0
  have hval : ∀ (j : Nat) t v, Try.f4.params[j]? = some t → args[j]? = some v → Value.okWide Try.prog W .any base t v := hval0
  have hW' := hW
  obtain ⟨p, q, hA0, hV, rfl, hfz, hnd⟩ := hW
  have hA : DataW.TrodAll enc Try.prog W 0 (fun _ => true) true Try.f4.params.toList args.toList ds p := hA0
  rw [Try.params4] at hA hval hsz
  obtain ⟨v0, vs0, d0, ds0, p0, q0, hargs, rfl, rfl, h0, r0⟩ := trodAll_cons hA
  obtain ⟨rfl, rfl, rfl⟩ := trodAll_nil r0
  obtain rfl : args = #[v0] := by cases args; simp_all
  obtain ⟨rfl, rfl⟩ := trodVars_none hV
  obtain ⟨a0, len0, cap0, rfl⟩ := okWide_slice Try.underlying22 (hval 0 22 v0 rfl rfl)
  have k0 := h0
  have lt0 : ∀ x ∈ p0, x.block < W.heap.size := by obtain ⟨m, hm⟩ := k0; exact DataW.trod_lt m _ _ _ hm
  obtain ⟨l0, e0, c0, m0, w0, z0⟩ : ∃ l : List ByteArray, l.length = len0 ∧ len0 ≤ cap0 ∧ len0 * 16 ≤ 140737488351232 ∧ Go.Proofs.YtnokeaiemiiicaaW.PrintWords.Kd.C Go.Proofs.YtnokeaiemiiicaaW.PrintWords.Kd.string W a0 len0 l ∧ ∀ s ∈ l, s.size ≤ maxLen := by
    obtain ⟨fuel, hf⟩ := h0
    rcases open_strings Try.underlying22 Try.underlying9 (by kernel_rfl) hf with ⟨hcs, _⟩ | ⟨x, l, c, ss, hcs, _, hl, hm, hz, hx, hcell, hws⟩
    · simp [Value.cells] at hcs
      obtain ⟨rfl, rfl, rfl⟩ := hcs
      exact ⟨[], rfl, Nat.le_refl _, by omega, ⟨rfl, by omega, fun h => absurd h (by omega)⟩, by simp⟩
    · simp [Value.cells] at hcs
      obtain ⟨rfl, rfl, rfl⟩ := hcs
      have hz' : ss.length = cap0 := by simpa using hz
      have hsl := sized_slice hsz (j := 0) (t := 22) (elems := strs (ss.take len0)) (spare := strs (ss.drop len0)) rfl (by have hd := (Prod.mk.inj hx).1; simp [hd]) Try.underlying22
      rw [show Try.prog.bytesOf 9 = 16 by kernel_rfl] at hsl
      simp only [strs, List.length_map, List.length_take, List.length_drop, reachBytes] at hsl
      refine ⟨ss.take len0, by rw [List.length_take]; omega, hl, by omega, ?_, fun s hs => hws s (List.mem_of_mem_take hs)⟩
      refine Go.Proofs.YtnokeaiemiiicaaW.PrintWords.Kd.C_of_reads (enc := Value.string) (d := ByteArray.empty) (h1 := fun _ => rfl) ⟨by rw [List.length_take]; omega, by omega, fun hp => ⟨x, rfl, fun j hj => ?_⟩⟩
      rw [hcell j (by omega)]
      simp [List.getD_eq_getElem?_getD, hj]
  subst e0
  clear hA0 hval0 hsz0 hsz
  refine (Go.Proofs.Ytnokeaiemiiicaa.fnNotify_walk a0 cap0 l0 W w0 c0 m0 z0).mono fun e W' ⟨he, bel⟩ => ?_
  subst he
  exact ⟨_, rfl, _, _, _, [], _, [], hW', trodAll_mk1 (shut_bool Try.underlying4 _), (trodAll_cons_mk (Below.trod laidOut (by kernel_rfl) (of_decide_eq_true (by kernel_rfl)) k0 bel lt0) trodAll_mk0), rfl, bel.frame _, fun h => by cases h⟩
theorem over : Rows.fnNotifyRow.holds Try.pinned (OpenSpec.ofChange Rows.fnNotifySpec) :=
  OpenClaim.holds_of_wide 4 Try.f4 rfl rfl rfl rfl rfl rfl rfl ⟨rfl, rfl, rfl, rfl, rfl⟩ rfl rfl rfl rfl rfl (by kernel_rfl) Try.func4 (by kernel_rfl)
    (of_decide_eq_true (by kernel_rfl)) (by unfold Func.isWrapper; first | (rw [if_pos (by decide +kernel)]; kernel_rfl) | (rw [if_neg (by decide +kernel)]; exact ⟨rfl, rfl⟩))
    (fun os started H enc _ => lifted os started H enc)
theorem proved : Rows.FnNotifySaid := over
#print axioms proved
end Go.Proofs.Ytnokeaiemiiicaa.fnNotify
namespace Go.Proofs.Ytnokeaiemiiicaa
/-- The row, under a short name, for the claim. -/
theorem fnNotify_holds : Rows.FnNotifySaid := fnNotify.proved
end Go.Proofs.Ytnokeaiemiiicaa
