/- FnUpdatedFlags: for every input the law's function returns true and leaves its arguments as they were. No condition beside the statement's own. -/
import Derived.Test.YtnokeaiemiiicaaRows
import Derived.Test.YtnokeaiemiiicaaWalkFnUpdatedFlags
import Derived.WalkKit
import Derived.ProofKit
import Derived.OpenShut
import Derived.ShutString
import Derived.ChangeOld
import Derived.Below
import Derived.SizedLaws
import Derived.SliceStrings
namespace Go.Proofs.Ytnokeaiemiiicaa.fnUpdatedFlags
open Go.ChangeShapes Go.WideShapes Go.ChangeAt Go.RowKit
open Go.ChangeMaps (open_string shut_string)
set_option linter.unusedVariables false
theorem own : ownKnob Try.prog.godebug = none := by kernel_rfl
theorem laidOut : laidOutB Try.prog = true := by kernel_rfl
set_option maxRecDepth 100000 in
theorem lifted (os : Os) (started : os.Started) (H : Type) (enc : TypeId × Value → H) :
    ReturnsInHanded {} Try.checked os 7 .any (Rows.fnUpdatedFlagsSpec.pre6 enc Try.prog Try.f7 Rows.fnUpdatedFlagsRow.domain false) (Rows.fnUpdatedFlagsSpec.post enc Try.prog Try.f7 false true false false) := by
  refine returnsInHanded_of_change_sized (C := Try.checked) own started (by kernel_rfl) Try.func7
    (ChangeSpec.witness6 (enc := enc) (C := Try.checked) false ⟨#[], #[.slice none 0 0, .slice none 0 0, .int .u8 0], []⟩ 8 (by kernel_rfl) (by kernel_rfl) (by kernel_rfl) (by kernel_rfl)) ?_
  intro W base args ds gs before hval0 hW hcnd hsz0 _
  have hsz : (DataW.weightsEach Try.prog (Try.f7.params.toList ++ Rows.fnUpdatedFlagsSpec.plain.varTypes Try.prog) (ds ++ gs)).all (· ≤ reachBytes) = true := hsz0
  have hval : ∀ (j : Nat) t v, Try.f7.params[j]? = some t → args[j]? = some v → Value.okWide Try.prog W .any base t v := hval0
  have hW' := hW
  obtain ⟨p, q, hA0, hV, rfl, hfz, hnd⟩ := hW
  have hA : DataW.TrodAll enc Try.prog W 0 (fun _ => true) true Try.f7.params.toList args.toList ds p := hA0
  rw [Try.params7] at hA hval hsz
  obtain ⟨v0, vs0, d0, ds0, p0, q0, hargs, rfl, rfl, h0, r0⟩ := trodAll_cons hA
  obtain ⟨v1, vs1, d1, ds1, p1, q1, rfl, rfl, rfl, h1, r1⟩ := trodAll_cons r0
  obtain ⟨v2, vs2, d2, ds2, p2, q2, rfl, rfl, rfl, h2, r2⟩ := trodAll_cons r1
  obtain ⟨rfl, rfl, rfl⟩ := trodAll_nil r2
  obtain rfl : args = #[v0, v1, v2] := by cases args; simp_all
  obtain ⟨rfl, rfl⟩ := trodVars_none hV
  obtain ⟨a0, len0, cap0, rfl⟩ := okWide_slice Try.underlying22 (hval 0 22 v0 rfl rfl)
  have k0 := h0
  have lt0 : ∀ x ∈ p0, x.block < W.heap.size := by obtain ⟨m, hm⟩ := k0; exact DataW.trod_lt m _ _ _ hm
  obtain ⟨l0, e0, c0, m0, w0, z0⟩ : ∃ l : List ByteArray, l.length = len0 ∧ len0 ≤ cap0 ∧ len0 * 16 ≤ 140737488351232 ∧ Go.Proofs.YtnokeaiemiiicaaW.PrintWords.Kd.C Go.Proofs.YtnokeaiemiiicaaW.PrintWords.Kd.string W a0 len0 l ∧ ∀ s ∈ l, s.size ≤ maxLen := by
    obtain ⟨fuel, hf⟩ := h0
    rcases open_strings Try.underlying22 Try.underlying9 (by kernel_rfl) hf with ⟨hcs, _⟩ | ⟨x, l, c, ss, hcs, _, hl, hm, hz, hx, hcell, hws⟩
    · simp [Value.cells] at hcs
      obtain ⟨rfl, rfl, rfl⟩ := hcs
      exact ⟨[], rfl, Nat.le_refl _, by omega, ⟨rfl, by omega, fun h => absurd h (by omega)⟩, by simp⟩
    · simp [Value.cells] at hcs
      obtain ⟨rfl, rfl, rfl⟩ := hcs
      have hz' : ss.length = cap0 := by simpa using hz
      have hsl := sized_slice hsz (j := 0) (t := 22) (elems := strs (ss.take len0)) (spare := strs (ss.drop len0)) rfl (by have hd := (Prod.mk.inj hx).1; simp [hd]) Try.underlying22
      rw [show Try.prog.bytesOf 9 = 16 by kernel_rfl] at hsl
      simp only [strs, List.length_map, List.length_take, List.length_drop, reachBytes] at hsl
      refine ⟨ss.take len0, by rw [List.length_take]; omega, hl, by omega, ?_, fun s hs => hws s (List.mem_of_mem_take hs)⟩
      refine Go.Proofs.YtnokeaiemiiicaaW.PrintWords.Kd.C_of_reads (enc := Value.string) (d := ByteArray.empty) (h1 := fun _ => rfl) ⟨by rw [List.length_take]; omega, by omega, fun hp => ⟨x, rfl, fun j hj => ?_⟩⟩
      rw [hcell j (by omega)]
      simp [List.getD_eq_getElem?_getD, hj]
  subst e0
  obtain ⟨a1, len1, cap1, rfl⟩ := okWide_slice Try.underlying22 (hval 1 22 v1 rfl rfl)
  have k1 := h1
  have lt1 : ∀ x ∈ p1, x.block < W.heap.size := by obtain ⟨m, hm⟩ := k1; exact DataW.trod_lt m _ _ _ hm
  obtain ⟨l1, e1, c1, m1, w1, z1⟩ : ∃ l : List ByteArray, l.length = len1 ∧ len1 ≤ cap1 ∧ len1 * 16 ≤ 140737488351232 ∧ Go.Proofs.YtnokeaiemiiicaaW.PrintWords.Kd.C Go.Proofs.YtnokeaiemiiicaaW.PrintWords.Kd.string W a1 len1 l ∧ ∀ s ∈ l, s.size ≤ maxLen := by
    obtain ⟨fuel, hf⟩ := h1
    rcases open_strings Try.underlying22 Try.underlying9 (by kernel_rfl) hf with ⟨hcs, _⟩ | ⟨x, l, c, ss, hcs, _, hl, hm, hz, hx, hcell, hws⟩
    · simp [Value.cells] at hcs
      obtain ⟨rfl, rfl, rfl⟩ := hcs
      exact ⟨[], rfl, Nat.le_refl _, by omega, ⟨rfl, by omega, fun h => absurd h (by omega)⟩, by simp⟩
    · simp [Value.cells] at hcs
      obtain ⟨rfl, rfl, rfl⟩ := hcs
      have hz' : ss.length = cap1 := by simpa using hz
      have hsl := sized_slice hsz (j := 1) (t := 22) (elems := strs (ss.take len1)) (spare := strs (ss.drop len1)) rfl (by have hd := (Prod.mk.inj hx).1; simp [hd]) Try.underlying22
      rw [show Try.prog.bytesOf 9 = 16 by kernel_rfl] at hsl
      simp only [strs, List.length_map, List.length_take, List.length_drop, reachBytes] at hsl
      refine ⟨ss.take len1, by rw [List.length_take]; omega, hl, by omega, ?_, fun s hs => hws s (List.mem_of_mem_take hs)⟩
      refine Go.Proofs.YtnokeaiemiiicaaW.PrintWords.Kd.C_of_reads (enc := Value.string) (d := ByteArray.empty) (h1 := fun _ => rfl) ⟨by rw [List.length_take]; omega, by omega, fun hp => ⟨x, rfl, fun j hj => ?_⟩⟩
      rw [hcell j (by omega)]
      simp [List.getD_eq_getElem?_getD, hj]
  subst e1
  obtain ⟨a2, rfl, rfl, rfl, w2⟩ := open_int Try.underlying5 (hval 2 5 v2 rfl rfl) h2
  clear hA0 hval0 hsz0 hsz
  refine (Go.Proofs.Ytnokeaiemiiicaa.fnUpdatedFlags_walk a0 cap0 l0 a1 cap1 l1 a2 W w0 c0 m0 z0 w1 c1 m1 z1 w2).mono fun e W' ⟨he, bel⟩ => ?_
  subst he
  exact ⟨_, rfl, _, _, _, [], _, [], hW', trodAll_mk1 (shut_bool Try.underlying4 _), (trodAll_cons_mk (Below.trod laidOut (by kernel_rfl) (of_decide_eq_true (by kernel_rfl)) k0 bel lt0) (trodAll_cons_mk (Below.trod laidOut (by kernel_rfl) (of_decide_eq_true (by kernel_rfl)) k1 bel lt1) (trodAll_cons_mk (shut_int Try.underlying5 w2) trodAll_mk0))), rfl, bel.frame _, fun h => by cases h⟩
theorem over : Rows.fnUpdatedFlagsRow.holds Try.pinned (OpenSpec.ofChange Rows.fnUpdatedFlagsSpec) :=
  OpenClaim.holds_of_wide 7 Try.f7 rfl rfl rfl rfl rfl rfl rfl ⟨rfl, rfl, rfl, rfl, rfl⟩ rfl rfl rfl rfl rfl (by kernel_rfl) Try.func7 (by kernel_rfl)
    (of_decide_eq_true (by kernel_rfl)) (by unfold Func.isWrapper; first | (rw [if_pos (by decide +kernel)]; kernel_rfl) | (rw [if_neg (by decide +kernel)]; exact ⟨rfl, rfl⟩))
    (fun os started H enc _ => lifted os started H enc)
theorem proved : Rows.FnUpdatedFlagsSaid := over
#print axioms proved
end Go.Proofs.Ytnokeaiemiiicaa.fnUpdatedFlags
namespace Go.Proofs.Ytnokeaiemiiicaa
/-- The row, under a short name, for the claim. -/
theorem fnUpdatedFlags_holds : Rows.FnUpdatedFlagsSaid := fnUpdatedFlags.proved
end Go.Proofs.Ytnokeaiemiiicaa
